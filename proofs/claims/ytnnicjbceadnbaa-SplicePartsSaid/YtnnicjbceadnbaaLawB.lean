/- The walk of SpliceInverts. -/
import Derived.Test.YtnnicjbceadnbaaLawA
import Derived.Test.YtnnicjbceadnbaaRef5
import Derived.Test.YtnnicjbceadnbaaPlainG
namespace Go.Proofs.Ytnnicjbceadnbaa
open Go.RowKit
open Sp (Ed Ce chk)
namespace Sp
theorem edsGo_len (n a : Int) (s : List UInt8) (cs : List Ce) : (edsGo n a s cs).length ≤ cs.length + 1 ∧ txt (edsGo n a s cs) ≤ s.length + cs.length := by
  have hsh : ∀ a n (s : List UInt8), (shut a n s).length ≤ 1 ∧ txt (shut a n s) ≤ s.length := by
    intro a n s
    unfold shut
    split
    · simp [txt]
    · simp [txt]
  induction cs generalizing a s with
  | nil => have := hsh a n s; rw [edsGo]; exact ⟨by simp; omega, by simp; omega⟩
  | cons c r ih =>
    rw [edsGo]
    split
    · have := ih a (s ++ [c.b])
      rw [List.length_append, List.length_singleton] at this
      simp only [List.length_cons]
      omega
    · have h1 := ih (c.o + 1) []
      have h2 := hsh a c.o s
      rw [List.length_append, txt_append]
      simp only [List.length_cons, List.length_nil] at *
      omega
theorem mem_splV (cs : List Ce) (a : Int) (es : List Ed) : ∀ c ∈ splV cs a es, c.o = -1 ∨ c ∈ cs := by
  induction es generalizing a with
  | nil => intro c hc; exact .inr (List.mem_of_mem_drop hc)
  | cons x r ih =>
    intro c hc
    rw [splV] at hc
    rcases List.mem_append.1 hc with hc | hc
    · rcases List.mem_append.1 hc with hc | hc
      · exact .inr (List.mem_of_mem_drop (List.mem_of_mem_take hc))
      · obtain ⟨b, _, rfl⟩ := List.mem_map.1 hc
        exact .inl rfl
    · exact ih x.t c hc
theorem cells_o (S : List UInt8) : ∀ c ∈ cells S, c.o < S.length := by
  have h : ∀ (k : Nat) (u : List UInt8), ∀ c ∈ cellsFrom k u, c.o < (k + u.length : Nat) := by
    intro k u
    induction u generalizing k with
    | nil => intro c hc; cases hc
    | cons b u ih =>
      intro c hc
      rcases List.mem_cons.1 hc with rfl | hc
      · show (k : Int) < _; simp; omega
      · have := ih (k + 1) c hc; rw [show k + (b :: u).length = k + 1 + u.length from by simp; omega]; exact this
  intro c hc
  have := h 0 S c hc
  rwa [Nat.zero_add] at this
theorem zip_bk (cs : List Ce) (src : List UInt8) (h : textOf cs = src) : zipC (cs.map (·.o)) src = cs := by
  subst h
  unfold zipC textOf
  induction cs with
  | nil => rfl
  | cons c r ih => simp only [List.map_cons, List.zipWith_cons_cons, ih]
end Sp
/-- what the law of Invert needs. -/
structure InvFacts (src : List UInt8) (l : List Ed) (T : List UInt8) (B : List Ed) : Prop where
  prog : Sp.normal (Sp.size (pieces src l)) 0 [] (Sp.ivGo src 0 0 (pieces src l)) = B
  ref : Sp.eds (Sp.spl (Sp.cells src) l).length (Sp.zipC (Sp.ixGo 0 (Sp.spl (Sp.cells src) l) (List.replicate src.length (-1))) src) = B
  ok : chk T.length 0 (-1) B = 0
  back : Sp.asm T (pieces T B) = src
  len : B.length ≤ src.length + 1
  txt : Sp.txt B ≤ src.length
  size : T.length ≤ l.length * src.length + Sp.txt l + src.length
  asc : Sp.Asc src.length 0 (pieces src l)
  hco : ∀ x ∈ Sp.spl (Sp.cells src) l, x.o < src.length
  hat : (Sp.ixGo 0 (Sp.spl (Sp.cells src) l) (List.replicate src.length (-1))).all (fun i => decide (i ≤ 1152921504606846976)) = true
theorem inv_facts (src : List UInt8) (l : List Ed) (hsm : Small src l) (hb : l.length * src.length + Sp.txt l + src.length ≤ 1000000) (h : chk src.length 0 (-1) l = 0) : ∃ B, InvFacts src l (Sp.asm src (pieces src l)) B := by
  have hv := Sp.chk_val src.length l 0 (-1) (by omega) (by omega) h
  have hfl : pieces src l = Sp.flat src.length 0 l := Sp.pieces_flat src.length 0 l (by omega) hv
  have hpk := pieces_ok src l hsm
  have hsz : ((Sp.asm src (pieces src l)).length : Int) = Sp.size (pieces src l) := Sp.asm_len src (pieces src l) fun p hp => ⟨(hpk p hp).1, (hpk p hp).2.1⟩
  have hspl : Sp.spl (Sp.cells src) l = Sp.splV (Sp.cells src) 0 l := Sp.spl_eq _ 0 l
  have htl : (Sp.spl (Sp.cells src) l).length = (Sp.asm src (pieces src l)).length := by
    have := Sp.apply_law src l h
    rw [← Sp.textOf_len, this]; rfl
  have hdrop : (Sp.asm src (pieces src l)).drop 0 = Sp.asm src (Sp.flat src.length 0 l) := by rw [List.drop_zero, hfl]
  have hcok : Sp.Cok (Sp.asm src (pieces src l)) 0 (Sp.bk src 0 0 l) := by
    exact Sp.cok_bk src (Sp.asm src (pieces src l)) 0 0 l (by omega) hv hdrop
  have hneg := Sp.neg_bk src 0 0 l
  have hbt : Sp.textOf (Sp.bk src 0 0 l) = src := by rw [Sp.text_bk src 0 0 l (by omega) hv]; rfl
  have hbl : (Sp.bk src 0 0 l).length = src.length := by rw [← Sp.textOf_len, hbt]
  have hix : Sp.ixGo 0 (Sp.spl (Sp.cells src) l) (List.replicate src.length (-1)) = (Sp.bk src 0 0 l).map (·.o) := by
    rw [hspl]
    have := Sp.ix_bk src 0 0 l (by omega) hv [] rfl
    exact this
  have hlen := Sp.edsGo_len (Sp.asm src (pieces src l)).length 0 [] (Sp.bk src 0 0 l)
  have hTsz : (Sp.asm src (pieces src l)).length ≤ l.length * src.length + Sp.txt l + src.length := by
    have h1 := Sp.splTo_len (Sp.cells src) 0 l
    rw [Sp.cells_len] at h1
    have h2 : ((Sp.cells src).drop (Sp.atTo 0 l).toNat).length ≤ src.length := by rw [List.length_drop, Sp.cells_len]; omega
    rw [← htl]
    unfold Sp.spl
    rw [List.length_append]
    omega
  rw [hbl] at hlen
  refine ⟨Sp.eds (Sp.asm src (pieces src l)).length (Sp.bk src 0 0 l), ?_, ?_, Sp.eds_chk _ _ hcok, ?_, hlen.1, by have := hlen.2; simp only [List.length_nil] at this; unfold Sp.eds; omega, hTsz, ?_, ?_, ?_⟩
  · have hnp : ∀ q ∈ Sp.ivGo src 0 0 (pieces src l), Sp.Npc (Sp.asm src (pieces src l)).length q := by
      refine Sp.npc_iv src 0 0 _ (pieces src l) (fun p hp => (hpk p hp).1.1) (by omega)
    rw [Sp.normal_eds (Sp.asm src (pieces src l)) _ 0 [] _ hnp, ← hsz]
    have := Sp.iv_bk src (Sp.asm src (pieces src l)) 0 0 0 l (by omega) (by omega) hv hdrop
    rw [← hfl, Sp.slice_self, Sp.news_nil, List.nil_append] at this
    rw [show ((0 : Nat) : Int) = 0 from rfl] at this
    rw [this]; rfl
  · rw [hix, Sp.zip_bk _ _ hbt, htl]
  · have := Sp.eds_apply _ _ hcok hneg
    rw [hbt] at this
    exact this
  · rw [hfl]; exact Sp.flat_asc src.length 0 0 l (by omega) (by omega) hv
  · intro x hx
    rw [hspl] at hx
    rcases Sp.mem_splV _ 0 l x hx with hx | hx
    · omega
    · exact Sp.cells_o src x hx
  · rw [hix, List.all_eq_true]
    intro i hi
    obtain ⟨c, hc, rfl⟩ := List.mem_map.1 hi
    simp only [decide_eq_true_eq]
    by_cases hc0 : c.o < 0
    · omega
    · have := (hcok.le c hc hc0).2; omega
theorem InvFacts.small {src : List UInt8} {l : List Ed} {T : List UInt8} {B : List Ed} (h : InvFacts src l T B) (h300 : src.length ≤ 300) (hT : T.length ≤ 20000) : Small T B := by
  unfold Small
  have h1 := h.len
  have h2 := h.txt
  have : (B.length + 1) * (T.length + 32) ≤ 302 * 20032 := Nat.mul_le_mul (by omega) (by omega)
  omega
set_option maxHeartbeats 2000000 in
theorem law_inverts (src : List UInt8) (l : List Ed) (A : Option Addr) (c : Nat) (hsrc : src.length ≤ 9223372036854775807) (hf : Fits l) (w : World) (hr : EdsAt w w.heap.size A l) :
    Calls Try.prog 4 #[.string ⟨src.toArray⟩, .slice A l.length c] w fun e w' => e = .returned (.bool true) ∧ Below w.heap.size w w' := by
  have HF := Lib.hid hf
  clear hf
  have hrs : RowAt svL (w.alloc (.cells #[.slice A l.length c] 22)) (w.heap.size + 1) (some ⟨w.heap.size, 0, none⟩) [(⟨A, l.length, c⟩ : Sv)] := RowAt.lit1 _ _ rfl _ rfl
  have hal : AllAt (w.alloc (.cells #[.slice A l.length c] 22)) (w.heap.size + 1) [(⟨A, l.length, c⟩ : Sv)] [l] := ⟨rfl, (hr.alloc (Nat.le_refl _) _).more (by omega), trivial⟩
  have hsm := small_any src [l] [(⟨A, l.length, c⟩ : Sv)] (some ⟨w.heap.size, 0, none⟩) 1 hsrc (by simp) (by simpa using HF.out.1) (by simpa using fun x hx => (HF.out.2 x hx).1) (w.alloc (.cells #[.slice A l.length c] 22)) (by simpa using hrs) (by simpa using hal)
  have HSM : Hid (Calls Try.prog 10 #[.string ⟨src.toArray⟩, .slice (some ⟨w.heap.size, 0, none⟩) 1 1] (w.alloc (.cells #[.slice A l.length c] 22)) fun e w' => e = .returned (.bool (smallB src [l])) ∧ (w.alloc (.cells #[.slice A l.length c] 22)) = w') := hsm
  clear hsm hrs hal
  cases hb : smallB src [l] with
  | false =>
    rw [hb] at HSM
    clear hb
    go_enter Try.func4, Try.ntmps4
    go_wp2_with fail
    refine HSM.out.mono ?_
    rintro e w1 ⟨rfl, rfl⟩
    go_wp2_with fail
    refine (awake_any _).mono ?_
    rintro e w2 ⟨rfl, hb2⟩
    go_wp2_with fail
    go_ret
    exact ⟨rfl, ((Below.refl _ _).alloc (Nat.le_refl _) _).trans (hb2.mono (by simp))⟩
  | true =>
    rw [hb] at HSM
    simp only [smallB, List.all_cons, List.all_nil, Bool.and_true, Bool.and_eq_true, decide_eq_true_eq] at hb
    obtain ⟨hsh, h300⟩ := hb
    obtain ⟨hsmall, h30, htx⟩ := short_small h300 hsh
    have HSML := Lib.hid hsmall
    have hr1 : EdsAt (w.alloc (.cells #[.slice A l.length c] 22)) w.heap.size A l := hr.alloc (Nat.le_refl _) _
    have hb1 : Below w.heap.size w (w.alloc (.cells #[.slice A l.length c] 22)) := (Below.refl _ _).alloc (Nat.le_refl _) _
    have hz1 : w.heap.size + 1 = (w.alloc (.cells #[.slice A l.length c] 22)).heap.size := by simp
    have HZ1 := Lib.hid hz1
    clear hsh hsmall hz1
    by_cases hv : chk src.length 0 (-1) l = 0
    · have HV := Lib.hid hv
      have hprod : l.length * src.length ≤ 30 * 300 := Nat.mul_le_mul h30 h300
      obtain ⟨B, hI⟩ := inv_facts src l HSML.out (by omega) hv
      have HI := Lib.hid hI
      have hTl := hI.size
      have hTs := hI.small h300 (by omega)
      have HTS := Lib.hid hTs
      have hBl := hI.len
      clear hI hTs hv
      generalize hTT : Sp.asm src (pieces src l) = T at *
      have HTT := Lib.hid hTT
      clear hTT
      go_enter Try.func4, Try.ntmps4
      go_wp2_with fail
      refine HSM.out.mono ?_
      rintro e w1 ⟨rfl, rfl⟩
      generalize w.alloc (.cells #[.slice A l.length c] 22) = w1 at *
      have hz1 := HZ1.out
      go_wp2_with fail
      refine (invert_yes src l A c HSML.out _ (hr1.more (by omega)) HV.out HI.out.asc).mono ?_
      rw [HI.out.prog]
      rintro e w2 ⟨v2, rfl, own2, hb2⟩
      obtain ⟨A2, c2, rfl, hrb2⟩ := own2.form
      clear own2
      have hz2 := hb2.size
      have hr2 := hr1.below (hb2.mono (by omega))
      go_wp2_with fail
      refine (rcheck_any src.length A c l (by omega) _ (hr2.more (by omega))).mono ?_
      rw [HV.out]
      rintro e w3 ⟨rfl, hb3⟩
      have hz3 := hb3.size
      have hr3 := hr2.below (hb3.mono (by omega))
      have hrb3 := hrb2.below hb3
      go_wp2_with fail
      refine (apply_yes src l A c HSML.out _ (hr3.more (by omega)) HV.out).mono ?_
      rw [HTT.out]
      rintro e w4 ⟨rfl, hb4⟩
      have hz4 := hb4.size
      have hr4 := hr3.below (hb4.mono (by omega))
      have hrb4 := hrb3.below (hb4.mono (by omega))
      go_wp2_with fail
      refine (apply_yes T B A2 c2 HTS.out _ (hrb4.more (by omega)) HI.out.ok).mono ?_
      rw [HI.out.back]
      rintro e w5 ⟨rfl, hb5⟩
      have hz5 := hb5.size
      have hr5 := hr4.below (hb5.mono (by omega))
      have hrb5 := hrb4.below (hb5.mono (by omega))
      go_wp2_with fail
      refine (rinvert_any src l A c (by omega) (by omega) HV.out (by omega) _ (hr5.more (by omega)) HI.out.hco HI.out.hat).mono ?_
      rw [HI.out.ref]
      rintro e w6 ⟨v6, rfl, own6, hb6⟩
      have hz6 := hb6.size
      obtain ⟨A6, c6, rfl, hr6⟩ := own6.form
      have hrb6 := hrb5.below (hb6.mono (by omega))
      go_wp2_with fail
      refine (requal_any B B A2 A6 c2 c6 (by omega) (by omega) _ (hrb6.more (by omega)) hr6).mono ?_
      rw [decide_eq_true rfl]
      rintro e w7 ⟨rfl, n7, rfl⟩
      go_wp2_with fail
      refine (awake_any _).mono ?_
      rintro e w8 ⟨rfl, hb8⟩
      go_wp2_with fail
      go_ret
      refine ⟨rfl, ?_⟩
      have hb67 : Below w6.heap.size w6 (w6.drewN n7) := ⟨rfl, rfl, rfl, Nat.le_refl _, fun _ _ => rfl⟩
      exact ((((((hb1.trans (hb2.mono (by omega))).trans (hb3.mono (by omega))).trans (hb4.mono (by omega))).trans (hb5.mono (by omega))).trans (hb6.mono (by omega))).trans (hb67.mono (by omega))).trans (hb8.mono (by simp; omega))
    · have hv' : (chk src.length 0 (-1) l != 0) = true := by simpa using hv
      have hv2 : (chk src.length 0 (-1) l == 0) = false := by simpa using hv
      have HV := Lib.hid hv
      clear hv
      go_enter Try.func4, Try.ntmps4
      go_wp2_with fail
      refine HSM.out.mono ?_
      rintro e w1 ⟨rfl, rfl⟩
      generalize w.alloc (.cells #[.slice A l.length c] 22) = w1 at *
      have hz1 := HZ1.out
      go_wp2_with fail
      refine (invert_no src l A c HSML.out _ (hr1.more (by omega)) HV.out).mono ?_
      rintro e w2 ⟨rfl, hb2⟩
      have hz2 := hb2.size
      have hr2 := hr1.below (hb2.mono (by omega))
      go_wp2_with fail
      refine (rcheck_any src.length A c l (by omega) _ (hr2.more (by omega))).mono ?_
      rintro e w3 ⟨rfl, hb3⟩
      have hz3 := hb3.size
      go_wp2_with fail
      refine (awake_any _).mono ?_
      rintro e w8 ⟨rfl, hb8⟩
      go_wp2_with fail
      go_ret
      exact ⟨rfl, ((hb1.trans (hb2.mono (by omega))).trans (hb3.mono (by omega))).trans (hb8.mono (by omega))⟩
end Go.Proofs.Ytnnicjbceadnbaa
