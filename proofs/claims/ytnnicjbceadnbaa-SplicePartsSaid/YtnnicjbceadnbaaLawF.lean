/- The walk of SpliceComposes. -/
import Derived.Test.YtnnicjbceadnbaaComp
namespace Go.Proofs.Ytnnicjbceadnbaa
open Go.RowKit
open Sp (Ed Ce chk)
theorem RowAt.lits {α : Type} {L : Lay α} {w : World} {E : TypeId} (xs : List α) (cs : Array Value) (hcs : cs.toList = L.all xs) (n : Nat) (hn : n = w.heap.size) : RowAt L (w.alloc (.cells cs E)) (w.heap.size + 1) (some ⟨n, 0, none⟩) xs := by
  subst hn
  refine ⟨L.all_len xs, fun hnz => ⟨⟨w.heap.size, 0, none⟩, rfl, Nat.lt_succ_self _, fun j u hj => ?_⟩⟩
  have h := Blk.cell (Blk.new w E cs) j
  rw [show (⟨w.heap.size, 0, none⟩ : Addr).add j = ⟨w.heap.size, j, none⟩ from by simp [Addr.add]; exact fun h => h.symm, h]
  rw [← hcs] at hj
  rwa [Array.getElem?_toList] at hj
theorem splTo_bound (src : List UInt8) (cs : List Ce) (es : List Ed) (k : Nat) (h1 : es.length ≤ 30) (h2 : cs.length ≤ k) (h3 : Sp.txt es ≤ 3000) : (Sp.splV cs 0 es).length ≤ 31 * k + 3000 := by
  have := Sp.splTo_len cs 0 es
  rw [← Sp.spl_eq, List.length_append, List.length_drop]
  have h4 : es.length * cs.length ≤ 30 * k := Nat.mul_le_mul h1 h2
  omega
theorem spl_def (c : List Ce) (l : List Ed) : Sp.spl c l = Sp.splV c 0 l := Sp.spl_eq c 0 l
theorem spl2_o (src : List UInt8) (a b : List Ed) : ∀ x ∈ Sp.splV (Sp.splV (Sp.cells src) 0 a) 0 b, x.o ≤ src.length := by
  intro x hx
  rcases Sp.mem_splV _ 0 b x hx with h | h
  · omega
  · rcases Sp.mem_splV _ 0 a x h with h | h
    · omega
    · have := Sp.cells_o src x h; omega
theorem short_each {l : List Ed} (h : shortB l = true) : l.length ≤ 30 ∧ Sp.txt l ≤ 3000 := by
  have := short_small (src := []) (l := l) (by simp) h
  exact this.2
/-- the cells of the law, named. -/
structure CompRef (src : List UInt8) (a b : List Ed) (T : List UInt8) (L : List Ed) (C1 C2 : List Ce) : Prop where
  s1 : Sp.spl (Sp.cells src) a = C1
  s2 : Sp.spl C1 b = C2
  mid : C1.length = T.length
  c1 : C1.length ≤ 12300
  c2 : C2.length ≤ 384300
  prod1 : a.length * (Sp.cells src).length ≤ 9000
  prod2 : b.length * C1.length ≤ 369000
  low : ∀ x ∈ C2, x.o ≤ 1152921504606846976
  prog : Sp.normal src.length 0 [] (Sp.edited (pieces src a) T.length 0 b) = L
  ref : Sp.eds src.length C2 = L
  ok : chk src.length 0 (-1) L = 0
  out : Sp.asm src (pieces src L) = Sp.textOf C2
  small : Small src L
  fit : Fit2 src a b
  len : L.length ≤ 384301
theorem comp_ref (src : List UInt8) (a b : List Ed) (h300 : src.length ≤ 300) (hsm : Small src a) (h30 : a.length ≤ 30) (htx : Sp.txt a ≤ 3000) (h30b : b.length ≤ 30) (htxb : Sp.txt b ≤ 3000) (h : chk src.length 0 (-1) a = 0)
    (T : List UInt8) (hT : Sp.asm src (pieces src a) = T) (h2 : chk T.length 0 (-1) b = 0) : ∃ L C1 C2, CompRef src a b T L C1 C2 := by
  obtain ⟨L, hC⟩ := comp_facts src a b hsm (fun x hx => by have := txt_mem b x hx; omega) h T hT h2
  have hc1 := splTo_bound src (Sp.cells src) a 300 h30 (by rw [Sp.cells_len]; exact h300) htx
  have hc2 := splTo_bound src (Sp.splV (Sp.cells src) 0 a) b 12300 h30b (by omega) htxb
  have hl := hC.len
  have ht := hC.txt
  have p1 : (L.length + 1) * (src.length + 32) ≤ 384302 * 332 := Nat.mul_le_mul (by omega) (by omega)
  have p2 : b.length * (2 * a.length + 2) ≤ 30 * 62 := Nat.mul_le_mul h30b (by omega)
  have p3 : a.length * (Sp.cells src).length ≤ 30 * 300 := Nat.mul_le_mul h30 (by rw [Sp.cells_len]; exact h300)
  have p4 : b.length * (Sp.splV (Sp.cells src) 0 a).length ≤ 30 * 12300 := Nat.mul_le_mul h30b (by omega)
  exact ⟨L, _, _, spl_def _ _, spl_def _ _, hC.mid, by omega, by omega, p3, p4, fun x hx => by have := spl2_o src a b x hx; omega, hC.prog, hC.ref, hC.ok, hC.out, by unfold Small; omega, ⟨hsm, by omega, by omega, by omega, by omega⟩, by omega⟩
set_option maxHeartbeats 1500000 in
theorem law_composes (src : List UInt8) (a b : List Ed) (A B : Option Addr) (c d : Nat) (hsrc : src.length ≤ 9223372036854775807) (hf : Fits a) (hf2 : Fits b) (w : World) (hr : EdsAt w w.heap.size A a) (hr2 : EdsAt w w.heap.size B b) :
    Calls Try.prog 8 #[.string ⟨src.toArray⟩, .slice A a.length c, .slice B b.length d] w fun e w' => e = .returned (.bool true) ∧ Below w.heap.size w w' := by
  have HF := Lib.hid hf
  have HF2 := Lib.hid hf2
  clear hf hf2
  obtain ⟨W0, hW0⟩ : ∃ W0, W0 = w.alloc (.cells #[.slice A a.length c, .slice B b.length d] 22) := ⟨_, rfl⟩
  have hrs : RowAt svL W0 (w.heap.size + 1) (some ⟨w.heap.size, 0, none⟩) [(⟨A, a.length, c⟩ : Sv), ⟨B, b.length, d⟩] := by rw [hW0]; exact RowAt.lits _ _ rfl _ rfl
  have hal : AllAt W0 (w.heap.size + 1) [(⟨A, a.length, c⟩ : Sv), ⟨B, b.length, d⟩] [a, b] := by
    rw [hW0]; exact ⟨rfl, (hr.alloc (Nat.le_refl _) _).more (by omega), rfl, (hr2.alloc (Nat.le_refl _) _).more (by omega), trivial⟩
  have hz0 : W0.heap.size = w.heap.size + 1 := by rw [hW0]; simp
  have hsm := small_any src [a, b] [(⟨A, a.length, c⟩ : Sv), ⟨B, b.length, d⟩] (some ⟨w.heap.size, 0, none⟩) 2 hsrc (by simp)
    (by intro l hl; simp only [List.mem_cons, List.not_mem_nil, or_false] at hl; rcases hl with rfl | rfl; exact HF.out.1; exact HF2.out.1)
    (by intro l hl x hx; simp only [List.mem_cons, List.not_mem_nil, or_false] at hl; rcases hl with rfl | rfl; exact (HF.out.2 x hx).1; exact (HF2.out.2 x hx).1)
    W0 (by rw [hz0]; exact hrs) (by rw [hz0]; exact hal)
  have hr1 : EdsAt W0 w.heap.size A a := by rw [hW0]; exact hr.alloc (Nat.le_refl _) _
  have hs1 : EdsAt W0 w.heap.size B b := by rw [hW0]; exact hr2.alloc (Nat.le_refl _) _
  have hb1 : Below w.heap.size w W0 := by rw [hW0]; exact (Below.refl _ _).alloc (Nat.le_refl _) _
  rw [hW0] at hsm
  have HSM : Hid (Calls Try.prog 10 #[.string ⟨src.toArray⟩, .slice (some ⟨w.heap.size, 0, none⟩) 2 2] (w.alloc (.cells #[.slice A a.length c, .slice B b.length d] 22)) fun e w' => e = .returned (.bool (smallB src [a, b])) ∧ (w.alloc (.cells #[.slice A a.length c, .slice B b.length d] 22)) = w') := hsm
  have HW0 := Lib.hid hW0
  have HZ0 := Lib.hid hz0
  clear hsm hrs hal hW0 hz0
  cases hb : smallB src [a, b] with
  | false =>
    rw [hb] at HSM
    clear hb
    go_enter Try.func8, Try.ntmps8
    go_wp2_with fail
    refine HSM.out.mono ?_
    rintro e w1 ⟨rfl, rfl⟩
    go_wp2_with fail
    refine (awake_any _).mono ?_
    rintro e w2 ⟨rfl, hb2⟩
    go_wp2_with fail
    go_ret
    exact ⟨rfl, ((Below.refl _ _).alloc (Nat.le_refl _) _).trans (hb2.mono (by simp))⟩
  | true =>
    rw [hb] at HSM
    simp only [smallB, List.all_cons, List.all_nil, Bool.and_true, Bool.and_eq_true, decide_eq_true_eq] at hb
    obtain ⟨⟨hsa, hsb⟩, h300⟩ := hb
    obtain ⟨hsmall, h30, htx⟩ := short_small h300 hsa
    obtain ⟨h30b, htxb⟩ := short_each hsb
    have HSML := Lib.hid hsmall
    clear hsa hsb hsmall
    by_cases hv : chk src.length 0 (-1) a = 0
    · have HV := Lib.hid hv
      obtain ⟨T, hT⟩ : ∃ T, Sp.asm src (pieces src a) = T := ⟨_, rfl⟩
      have HT := Lib.hid hT
      have HCL := Lib.hid (Sp.cells_len src)
      clear hT hv
      by_cases hv2 : chk T.length 0 (-1) b = 0
      · have HV2 := Lib.hid hv2
        obtain ⟨L, C1, C2, hC⟩ := comp_ref src a b h300 HSML.out h30 htx h30b htxb HV.out T HT.out hv2
        have hc1 := hC.c1
        have hc2 := hC.c2
        have hLl := hC.len
        have HC := Lib.hid hC
        clear hC hv2
        go_enter Try.func8, Try.ntmps8
        go_wp2_with fail
        refine HSM.out.mono ?_
        rintro e w1 ⟨rfl, rfl⟩
        rw [← HW0.out]
        have hz1 := HZ0.out
        go_wp2_with fail
        refine (compose_yes src a b A B c d HC.out.fit _ (hr1.more (by omega)) (hs1.more (by omega)) HV.out T HT.out HV2.out).mono ?_
        rw [HC.out.prog]
        rintro e w2 ⟨v2, rfl, own2, hb2⟩
        obtain ⟨A2, c2, rfl, hrL2⟩ := own2.form
        clear own2
        have hz2 := hb2.size
        have hr2 := hr1.below (hb2.mono (by omega))
        have hs2 := hs1.below (hb2.mono (by omega))
        go_wp2_with fail
        refine (rcheck_any src.length A c a (by omega) _ (hr2.more (by omega))).mono ?_
        rw [HV.out]
        rintro e w3 ⟨rfl, hb3⟩
        have hz3 := hb3.size
        have hr3 := hr2.below (hb3.mono (by omega))
        have hs3 := hs2.below (hb3.mono (by omega))
        have hrL3 := hrL2.below (hb3.mono (by omega))
        go_wp2_with fail
        refine (rcells_any src (by omega) _).mono ?_
        rintro e w4 ⟨v4, rfl, own4, hb4⟩
        have hz4 := hb4.size
        obtain ⟨A4, c4, rfl, hc4, hcc4⟩ := own4.form'
        clear own4
        have hr4 := hr3.below (hb4.mono (by omega))
        have hs4 := hs3.below (hb4.mono (by omega))
        have hrL4 := hrL3.below (hb4.mono (by omega))
        go_wp2_with fail
        refine (rsplice_any (Sp.cells src) a A4 A c4 c (by rw [HCL.out]; exact HV.out) hcc4 (by have := HC.out.prod1; rw [HCL.out] at *; omega) (by omega) _ hc4 (hr4.more (by omega))).mono ?_
        rw [HC.out.s1]
        rintro e w5 ⟨v5, rfl, own5, hb5⟩
        have hz5 := hb5.size
        obtain ⟨A5, c5, rfl, hc5, hcc5⟩ := own5.form'
        clear own5
        have hs5 := hs4.below (hb5.mono (by omega))
        have hrL5 := hrL4.below (hb5.mono (by omega))
        go_wp2_with fail
        refine (rcheck_any C1.length B d b (by omega) _ (hs5.more (by omega))).mono ?_
        rw [show chk C1.length 0 (-1) b = 0 from by rw [HC.out.mid]; exact HV2.out]
        rintro e w6 ⟨rfl, hb6⟩
        have hz6 := hb6.size
        have hs6 := hs5.below (hb6.mono (by omega))
        have hrL6 := hrL5.below (hb6.mono (by omega))
        have hc6 := hc5.below (hb6.mono (by omega))
        go_wp2_with fail
        refine (rsplice_any C1 b A5 B c5 d (by rw [HC.out.mid]; exact HV2.out) hcc5 (by have := HC.out.prod2; omega) (by omega) _ (hc6.more (by omega)) (hs6.more (by omega))).mono ?_
        rw [HC.out.s2]
        rintro e w7 ⟨v7, rfl, own7, hb7⟩
        have hz7 := hb7.size
        obtain ⟨A7, c7, rfl, hc7, hcc7⟩ := own7.form'
        clear own7
        have hrL7 := hrL6.below (hb7.mono (by omega))
        go_wp2_with fail
        refine (apply_yes src L A2 c2 HC.out.small _ (hrL7.more (by omega)) HC.out.ok).mono ?_
        rw [HC.out.out]
        rintro e w8 ⟨rfl, hb8⟩
        have hz8 := hb8.size
        have hrL8 := hrL7.below (hb8.mono (by omega))
        have hc8 := hc7.below (hb8.mono (by omega))
        go_wp2_with fail
        refine (redits_any src.length C2 A7 c7 (by omega) (by omega) (by omega) HC.out.low _ (hc8.more (by omega))).mono ?_
        rw [HC.out.ref]
        rintro e w9 ⟨v9, rfl, own9, hb9⟩
        have hz9 := hb9.size
        obtain ⟨A9, c9, rfl, hr9⟩ := own9.form
        clear own9
        have hrL9 := hrL8.below (hb9.mono (by omega))
        have hc9 := hc8.below (hb9.mono (by omega))
        go_wp2_with fail
        refine (requal_any L L A2 A9 c2 c9 (by omega) (by omega) _ (hrL9.more (by omega)) hr9).mono ?_
        rw [decide_eq_true rfl]
        rintro e w10 ⟨rfl, n10, rfl⟩
        go_wp2_with fail
        have hz10 : (w9.drewN n10).heap.size = w9.heap.size := rfl
        have hc10 : RowAt ceL (w9.drewN n10) (w9.drewN n10).heap.size A7 C2 := RowAt.drewN (hc9.more (B' := w9.heap.size) (by omega)) n10
        refine (rtext_any C2 A7 c7 (by omega) _ hc10).mono ?_
        rintro e w11 ⟨rfl, hb11⟩
        go_wp2_with fail
        refine (awake_any _).mono ?_
        rintro e w12 ⟨rfl, hb12⟩
        go_wp2_with fail
        go_ret
        refine ⟨rfl, ?_⟩
        have hb910 : Below w9.heap.size w9 (w9.drewN n10) := ⟨rfl, rfl, rfl, Nat.le_refl _, fun _ _ => rfl⟩
        have hz11 := hb11.size
        exact ((((((((((hb1.trans (hb2.mono (by omega))).trans (hb3.mono (by omega))).trans (hb4.mono (by omega))).trans (hb5.mono (by omega))).trans (hb6.mono (by omega))).trans (hb7.mono (by omega))).trans (hb8.mono (by omega))).trans (hb9.mono (by omega))).trans (hb910.mono (by omega))).trans (hb11.mono (by omega))).trans (hb12.mono (by omega))
      · have hv' : (chk T.length 0 (-1) b != 0) = true := by simpa using hv2
        have hv2' : (chk T.length 0 (-1) b == 0) = false := by simpa using hv2
        have hc1 := splTo_bound src (Sp.cells src) a 300 h30 (by rw [Sp.cells_len]; exact h300) htx
        have hp1 : a.length * (Sp.cells src).length ≤ 30 * 300 := Nat.mul_le_mul h30 (by rw [Sp.cells_len]; exact h300)
        have hmid : (Sp.splV (Sp.cells src) 0 a).length = T.length := by
          rw [← HT.out, mid_text src a HV.out, Sp.textOf_len]
        have HS1 := Lib.hid (spl_def (Sp.cells src) a)
        have HP1 := Lib.hid hp1
        generalize Sp.splV (Sp.cells src) 0 a = C1 at *
        have HMID : Hid (chk C1.length 0 (-1) b = chk T.length 0 (-1) b) := Lib.hid (by rw [hmid])
        have HV2 := Lib.hid hv2
        clear hv2 hmid hp1
        go_enter Try.func8, Try.ntmps8
        go_wp2_with fail
        refine HSM.out.mono ?_
        rintro e w1 ⟨rfl, rfl⟩
        rw [← HW0.out]
        have hz1 := HZ0.out
        go_wp2_with fail
        refine (compose_no2 src a b A B c d HSML.out (by omega) _ (hr1.more (by omega)) (hs1.more (by omega)) HV.out T HT.out HV2.out).mono ?_
        rintro e w2 ⟨rfl, hb2⟩
        have hz2 := hb2.size
        have hr2 := hr1.below (hb2.mono (by omega))
        have hs2 := hs1.below (hb2.mono (by omega))
        go_wp2_with fail
        refine (rcheck_any src.length A c a (by omega) _ (hr2.more (by omega))).mono ?_
        rw [HV.out]
        rintro e w3 ⟨rfl, hb3⟩
        have hz3 := hb3.size
        have hr3 := hr2.below (hb3.mono (by omega))
        have hs3 := hs2.below (hb3.mono (by omega))
        go_wp2_with fail
        refine (rcells_any src (by omega) _).mono ?_
        rintro e w4 ⟨v4, rfl, own4, hb4⟩
        have hz4 := hb4.size
        obtain ⟨A4, c4, rfl, hc4, hcc4⟩ := own4.form'
        clear own4
        have hr4 := hr3.below (hb4.mono (by omega))
        have hs4 := hs3.below (hb4.mono (by omega))
        go_wp2_with fail
        refine (rsplice_any (Sp.cells src) a A4 A c4 c (by rw [HCL.out]; exact HV.out) hcc4 (by have := HP1.out; rw [HCL.out] at *; omega) (by omega) _ hc4 (hr4.more (by omega))).mono ?_
        rw [HS1.out]
        rintro e w5 ⟨v5, rfl, own5, hb5⟩
        have hz5 := hb5.size
        obtain ⟨A5, c5, rfl, hc5, hcc5⟩ := own5.form'
        clear own5
        have hs5 := hs4.below (hb5.mono (by omega))
        go_wp2_with fail
        refine (rcheck_any C1.length B d b (by omega) _ (hs5.more (by omega))).mono ?_
        rw [HMID.out]
        rintro e w6 ⟨rfl, hb6⟩
        have hz6 := hb6.size
        go_wp2_with fail
        refine (awake_any _).mono ?_
        rintro e w8 ⟨rfl, hb8⟩
        go_wp2_with fail
        go_ret
        exact ⟨rfl, ((((((hb1.trans (hb2.mono (by omega))).trans (hb3.mono (by omega))).trans (hb4.mono (by omega))).trans (hb5.mono (by omega))).trans (hb6.mono (by omega))).trans (hb8.mono (by omega)))⟩
    · have hv' : (chk src.length 0 (-1) a != 0) = true := by simpa using hv
      have hv2 : (chk src.length 0 (-1) a == 0) = false := by simpa using hv
      have HV := Lib.hid hv
      clear hv
      go_enter Try.func8, Try.ntmps8
      go_wp2_with fail
      refine HSM.out.mono ?_
      rintro e w1 ⟨rfl, rfl⟩
      rw [← HW0.out]
      have hz1 := HZ0.out
      go_wp2_with fail
      refine (compose_no1 src a b A B c d HSML.out _ (hr1.more (by omega)) HV.out).mono ?_
      rintro e w2 ⟨rfl, hb2⟩
      have hz2 := hb2.size
      have hr2 := hr1.below (hb2.mono (by omega))
      go_wp2_with fail
      refine (rcheck_any src.length A c a (by omega) _ (hr2.more (by omega))).mono ?_
      rintro e w3 ⟨rfl, hb3⟩
      have hz3 := hb3.size
      go_wp2_with fail
      refine (awake_any _).mono ?_
      rintro e w8 ⟨rfl, hb8⟩
      go_wp2_with fail
      go_ret
      exact ⟨rfl, ((hb1.trans (hb2.mono (by omega))).trans (hb3.mono (by omega))).trans (hb8.mono (by omega))⟩
end Go.Proofs.Ytnnicjbceadnbaa
