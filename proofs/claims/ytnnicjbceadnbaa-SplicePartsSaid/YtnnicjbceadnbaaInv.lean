/- Walks: Invert, Compose. -/
import Derived.Test.YtnnicjbceadnbaaWalk6
import Derived.Test.YtnnicjbceadnbaaWalk7
namespace Go.Proofs.Ytnnicjbceadnbaa
open Go.RowKit
open Sp (Ed chk)
namespace Sp
def ivGo (src : List UInt8) : Int → Int → List Ed → List Ed
  | _, old, [] => added (src.drop old.toNat)
  | a, old, p :: r => if 0 ≤ p.f then added ((src.drop old.toNat).take (p.f.toNat - old.toNat)) ++ kept a (a + p.t) ++ ivGo src (a + p.t) (p.f + p.t) r else ivGo src (a + p.t) old r
/-- pieces of the source come in ascending order, from 'old' on. -/
def Asc (n : Int) : Int → List Ed → Prop
  | old, [] => old ≤ n
  | old, p :: r => 0 ≤ p.t ∧ if 0 ≤ p.f then old ≤ p.f ∧ p.f + p.t ≤ n ∧ Asc n (p.f + p.t) r else Asc n old r
theorem Asc.le {n old : Int} {l : List Ed} (h : Asc n old l) : old ≤ n := by
  induction l generalizing old with
  | nil => exact h
  | cons p r ih =>
    obtain ⟨h0, h⟩ := h
    split at h
    · omega
    · exact ih h
end Sp
/-- the head of Invert's loop. -/
structure InvAt (src : List UInt8) (ps : List Ed) (k : Nat) (a old : Int) (out : List Ed) : Prop where
  eq : Sp.ivGo src 0 0 ps = out ++ Sp.ivGo src a old (ps.drop k)
  asc : Sp.Asc src.length old (ps.drop k)
  at_ : a = Sp.size (ps.take k)
  old0 : 0 ≤ old
  len : out.length ≤ 2 * k
  txt : Sp.txt out ≤ old
  ok : ∀ p ∈ out, p.f ≤ 1073741824 ∧ 0 ≤ p.t ∧ p.t ≤ 1073741824 ∧ -1 ≤ p.f
theorem added_oks (y : List UInt8) (hy : y.length ≤ 1073741824) : ∀ p ∈ Sp.added y, p.f ≤ 1073741824 ∧ 0 ≤ p.t ∧ p.t ≤ 1073741824 ∧ -1 ≤ p.f := by
  intro p hp
  unfold Sp.added at hp
  split at hp
  · cases hp
  · rw [List.mem_singleton] at hp; subst hp
    exact ⟨by show (-1 : Int) ≤ _; omega, by show (0 : Int) ≤ y.length; omega, by show (y.length : Int) ≤ _; omega, by show (-1 : Int) ≤ -1; omega⟩
theorem kept_oks (a b : Int) (ha : 0 ≤ a) (hab : a ≤ b) (hb : b ≤ 1073741824) : ∀ p ∈ Sp.kept a b, p.f ≤ 1073741824 ∧ 0 ≤ p.t ∧ p.t ≤ 1073741824 ∧ -1 ≤ p.f := by
  intro p hp
  unfold Sp.kept at hp
  split at hp
  · cases hp
  · rw [List.mem_singleton] at hp; subst hp
    exact ⟨by show a ≤ _; omega, by show 0 ≤ b - a; omega, by show b - a ≤ _; omega, by show -1 ≤ a; omega⟩
set_option maxHeartbeats 2000000 in
theorem invert_yes (src : List UInt8) (l : List Ed) (A : Option Addr) (c : Nat) (hsm : Small src l) (w : World) (hr : EdsAt w w.heap.size A l) (hv : chk src.length 0 (-1) l = 0) (hasc : Sp.Asc src.length 0 (pieces src l)) :
    Calls Try.prog 18 #[.string ⟨src.toArray⟩, .slice A l.length c] w fun e w' => ∃ v, e = .returned (.tuple #[v, .int .i64 0]) ∧ OwnEds w' w.heap.size 48 v (Sp.normal (Sp.size (pieces src l)) 0 [] (Sp.ivGo src 0 0 (pieces src l))) ∧ Below w.heap.size w w' := by
  have h' := hsm.src_le
  have hval := Sp.chk_ok _ _ _ _ hv
  have HV := Lib.hid hv
  have HVAL := Lib.hid hval
  have HASC := Lib.hid hasc
  have hps := pieces_size src l hsm
  have hpk := pieces_ok src l hsm
  clear hv hval hasc
  obtain ⟨k1, k2, k3⟩ := Sp.kept_size src.length (by omega)
  have HK := Lib.hid k1
  have hko := Sp.kept_ok src.length (by omega) (by omega)
  have HKO := Lib.hid hko
  clear k1 k2 hko
  obtain ⟨P, hP⟩ : ∃ P, P = pieces src l := ⟨_, rfl⟩
  have hP2 : Sp.edited (Sp.kept 0 src.length) src.length 0 l = P := hP.symm
  rw [← hP] at hps hpk HASC ⊢
  have HP2 := Lib.hid hP2
  have HPK := Lib.hid hpk
  have hpsl : P.length ≤ 67108864 := by omega
  have HPS := Lib.hid hps
  clear hP hP2 hpk hps hsm
  go_enter Try.func18, Try.ntmps18
  go_wp2_with fail
  refine (check_list src A c l (by omega) (by omega) _ hr).mono ?_
  rw [HV.out]
  rintro e w1 ⟨rfl, hb1⟩
  have hz1 := hb1.size
  go_wp2_with fail
  refine (kept_any 0 src.length (by omega) (by omega) (by omega) _).mono ?_
  rintro e w2 ⟨v2, rfl, own2, hb2⟩
  have hz2 := hb2.size
  obtain ⟨A2, c2, rfl, hr2⟩ := own2.form
  have hbb2 := hb1.trans (hb2.mono hz1)
  go_wp2_with fail
  refine (edited_any (Sp.kept 0 src.length) l A2 A c2 c src.length ?_ (fun p hp => (HKO.out p hp).1) (by rw [HK.out]; omega) (by omega) (by omega) ?_ (fun p hp => by have := (HKO.out p hp).2.2.2.1; omega) _ hr2 ((hr.below hbb2).more (by omega))).mono ?_
  · have : l.length * ((Sp.kept 0 src.length).length + 1) ≤ l.length * 2 := Nat.mul_le_mul_left _ (by omega)
    omega
  · intro x hx
    obtain ⟨a, b, d⟩ := HVAL.out x hx
    have := txt_mem l x hx
    omega
  rw [HP2.out]
  rintro e w3 ⟨v3, rfl, own3, hb3⟩
  obtain ⟨A3, c3, rfl, hr3⟩ := own3.form
  have hz3 := hb3.size
  have hbb3 := hbb2.trans (hb3.mono (by omega))
  clear own2 hr2 own3
  go_wp2_with fail
  go_loopw [8, 9, 10, 28] (fun v a old i wr => ∃ (k : Nat) (az oz : Int) (out : List Ed), k ≤ P.length ∧ i = .int .i64 k ∧ a = .int .i64 az ∧ old = .int .i64 oz ∧ Hid (InvAt src P k az oz out) ∧ OwnEds wr w3.heap.size 61 v out ∧ Below w3.heap.size w3 wr) (fun _ _ _ i _ => (P.length - intOf i).toNat)
  case atStart => exact ⟨0, 0, 0, [], by omega, rfl, rfl, rfl, Lib.hid ⟨rfl, HASC.out, by simp [Sp.size], by omega, by simp, by simp [Sp.txt], by simp⟩, OwnEds.nil _ _ _, Below.refl _ _⟩
  case round =>
    obtain ⟨k, a, old, out, hk, rfl, rfl, rfl, HI, hown, hb4⟩ := hrel
    have hz4 := hb4.size
    have hlen := HI.out.len
    have hold := HI.out.old0
    by_cases hlt : k < P.length
    · obtain ⟨ad, rfl, hab, d1, d2, d3⟩ := EdsAt.at_ (hr3.below hb4) hlt
      have hdrop : P.drop k = P[k] :: P.drop (k + 1) := List.drop_eq_getElem_cons hlt
      have htk := Sp.take_snoc P k hlt
      have hpok := HPK.out P[k] (List.getElem_mem hlt)
      have hst := Sp.size_take_le P (k + 1) (fun p hp => (HPK.out p hp).1.1)
      have hs0 := Sp.size_nonneg (P.take k) (fun p hp => (HPK.out p (List.mem_of_mem_take hp)).1.1)
      have hat := HI.out.at_
      have hszs : Sp.size (P.take (k + 1)) = Sp.size (P.take k) + P[k].t := by rw [htk, Sp.size_snoc]
      rw [hszs] at hst
      have hps1 := HPS.out.1
      have hac := HI.out.asc
      rw [hdrop] at hac
      obtain ⟨ht0, hac⟩ := hac
      generalize P[k] = x at *
      have HD := Lib.hid hdrop
      have HSZ := Lib.hid hszs
      have ha0 : 0 ≤ a := by omega
      have ha1 : a + x.t ≤ 1073741824 := by omega
      have HAT := Lib.hid hat
      clear hdrop htk hszs hat hst hps1
      obtain ⟨_, _, p1, p2, p3⟩ := hpok
      by_cases hf : 0 ≤ x.f
      · rw [if_pos hf] at hac
        obtain ⟨q1, q2, q3⟩ := hac
        have HQ3 := Lib.hid q3
        clear q3
        obtain ⟨y, hy⟩ : ∃ y, y = (src.drop old.toNat).take (x.f.toNat - old.toNat) := ⟨_, rfl⟩
        have hext : (⟨src.toArray⟩ : ByteArray).extract old.toNat x.f.toNat = ⟨y.toArray⟩ := by rw [hy, extract_list]
        have hyl : y.length ≤ x.f.toNat - old.toNat := by rw [hy, List.length_take]; omega
        have HIV : Hid (Sp.ivGo src a old (x :: P.drop (k + 1)) = Sp.added y ++ Sp.kept a (a + x.t) ++ Sp.ivGo src (a + x.t) (x.f + x.t) (P.drop (k + 1))) := Lib.hid (by rw [Sp.ivGo, if_pos hf, hy])
        clear hy
        have hal := Sp.added_len y
        have hxl : x.f ≤ src.length := by omega
        go_wp2_with fail
        refine (added_any y (by omega) _).mono ?_
        rintro e w5 ⟨v5, rfl, own5, hb5⟩
        have hz5 := hb5.size
        simp only [World.size_alloc] at hz5
        obtain ⟨d0', d1', d2'⟩ := box_ed hb5
        obtain ⟨A5, c5, rfl, hr5⟩ := own5.form
        have hown5 : OwnEds w5 w3.heap.size 61 _ out := (hown.alloc _).below hb5 (fun j hj => ((hown.alloc _).lt j hj).2)
        have hB5 : Below w3.heap.size w3 w5 := (hb4.alloc hz4 _).trans (hb5.mono (by simp; omega))
        have hne := hown.ne_ (Nat.le_refl wr.heap.size)
        go_wp2_with (at_builtin; go_must (refine wpList_append_eds _ rfl (.tmp 35) (.tmp 41) 54 61 rfl pcT w3.heap.size _ out rfl hown5 _ A5 c5 _ rfl hr5 ?_ ?_ ?_))
        any_goals (first | rfl | omega)
        intro v6 w6 hown6 hg6 hat6
        have hB6 := hB5.trans (hown5.grown_below hg6 (by omega))
        have hz6 := hg6.size
        have g0 := grown_box hg6 (by omega) hne d0'
        have g1 := grown_box hg6 (by omega) hne d1'
        have hne6 : some wr.heap.size ≠ v6.ownBlock := by
          rcases hat6 with h | h
          · rw [h]; exact hne
          · rw [h]; intro e; injection e; omega
        clear d0' d1' d2' hg6 hat6 hown5
        go_wp2_with fail
        refine (kept_any a (a + x.t) (by omega) (by omega) (by omega) _).mono ?_
        rintro e w7 ⟨v7, rfl, own7, hb7⟩
        have hz7 := hb7.size
        obtain ⟨A7, c7, rfl, hr7⟩ := own7.form
        have h0 := (hb7.cell (p := ⟨wr.heap.size, 0, none⟩) (show wr.heap.size < _ by omega)).trans g0
        have h1 := (hb7.cell (p := ⟨wr.heap.size, 1, none⟩) (show wr.heap.size < _ by omega)).trans g1
        have hown7 : OwnEds w7 w3.heap.size 61 _ (out ++ Sp.added y) := hown6.below hb7 (fun j hj => (hown6.lt j hj).2)
        have hB7 := hB6.trans (hb7.mono (by omega))
        have hkl : (Sp.kept a (a + x.t)).length ≤ 1 := by unfold Sp.kept; split <;> simp
        clear g0 g1
        go_wp2_with (at_builtin; go_must (refine wpList_append_eds _ rfl (.tmp 43) (.tmp 49) 54 61 rfl pcT w3.heap.size _ _ rfl hown7 _ A7 c7 _ rfl hr7 ?_ ?_ ?_))
        any_goals (first | rfl | omega | (rw [List.length_append]; omega))
        intro v8 w8 hown8 hg8 hat8
        have hB8 := hB7.trans (hown7.grown_below hg8 (by omega))
        have hz8 := hg8.size
        have k0 := grown_box hg8 (by omega) hne6 h0
        have k1 := grown_box hg8 (by omega) hne6 h1
        clear h0 h1 hg8 hat8 hown7
        go_wp2_with fail
        go_roundw
        case rel =>
          refine ⟨k + 1, a + x.t, x.f + x.t, out ++ (Sp.added y ++ Sp.kept a (a + x.t)), by omega, by go_num, rfl, rfl, Lib.hid ⟨?_, HQ3.out, ?_, by omega, ?_, ?_, ?_⟩, hown8, hB8⟩
          · rw [HI.out.eq, HD.out, HIV.out]; simp only [List.append_assoc]
          · rw [HSZ.out, ← HAT.out]
          · simp only [List.length_append]; omega
          · have e1 := (Sp.added_size y).2
            have e2 : Sp.txt (Sp.kept a (a + x.t)) = 0 := by unfold Sp.kept; split <;> simp [Sp.txt]
            have e3 := HI.out.txt
            rw [Sp.txt_append, Sp.txt_append, e1, e2]
            omega
          · intro p hp
            rcases List.mem_append.1 hp with hp | hp
            · exact HI.out.ok p hp
            · rcases List.mem_append.1 hp with hp | hp
              · exact added_oks y (by omega) p hp
              · exact kept_oks a (a + x.t) (by omega) (by omega) (by omega) p hp
        case measure => simp [intOf]; omega
      · rw [if_neg hf] at hac
        have HAC := Lib.hid hac
        clear hac
        have HIV : Hid (Sp.ivGo src a old (x :: P.drop (k + 1)) = Sp.ivGo src (a + x.t) old (P.drop (k + 1))) := Lib.hid (by rw [Sp.ivGo, if_neg hf])
        go_wp2_with fail
        go_roundw
        case rel =>
          refine ⟨k + 1, a + x.t, old, out, by omega, by go_num, rfl, rfl, Lib.hid ⟨?_, HAC.out, ?_, by omega, by omega, HI.out.txt, HI.out.ok⟩, hown.alloc _, hb4.alloc hz4 _⟩
          · rw [HI.out.eq, HD.out, HIV.out]
          · rw [HSZ.out, ← HAT.out]
        case measure => simp [intOf]; omega
    · have hd : P.drop k = [] := List.drop_eq_nil_of_le (by omega)
      have hac := HI.out.asc
      rw [hd] at hac
      have hole : old ≤ src.length := hac
      have heq : Sp.ivGo src 0 0 P = out ++ Sp.added (src.drop old.toNat) := by rw [HI.out.eq, hd]; rfl
      have hat : a = Sp.size P := by rw [HI.out.at_, List.take_of_length_le (by omega)]
      have hps1 := HPS.out.1
      have hsz0 := Sp.size_nonneg P (fun p hp => (HPK.out p hp).1.1)
      obtain ⟨y, hy⟩ : ∃ y, y = src.drop old.toNat := ⟨_, rfl⟩
      rw [← hy] at heq
      have hext : (⟨src.toArray⟩ : ByteArray).extract old.toNat src.length = ⟨y.toArray⟩ := by
        rw [hy, extract_list, List.take_of_length_le (by rw [List.length_drop]; omega)]
      have hyl : y.length ≤ src.length := by rw [hy, List.length_drop]; omega
      have hyl2 : (y.length : Int) + old ≤ src.length := by rw [hy, List.length_drop]; omega
      have HEQ := Lib.hid heq
      have HAT := Lib.hid hat
      have hal := Sp.added_len y
      have hals := Sp.added_size y
      have HALS := Lib.hid hals
      rw [← hat] at hps1 hsz0
      clear hd hac heq hat hy hals
      go_wp2_with fail
      refine (added_any y (by omega) _).mono ?_
      rintro e w5 ⟨v5, rfl, own5, hb5⟩
      have hz5 := hb5.size
      obtain ⟨A5, c5, rfl, hr5⟩ := own5.form
      have hown5 : OwnEds w5 w3.heap.size 61 _ out := hown.below hb5 (fun j hj => (hown.lt j hj).2)
      have hB5 : Below w3.heap.size w3 w5 := hb4.trans (hb5.mono (by omega))
      go_wp2_with (at_builtin; go_must (refine wpList_append_eds _ rfl (.tmp 61) (.tmp 65) 54 61 rfl pcT w3.heap.size _ out rfl hown5 _ A5 c5 _ rfl hr5 ?_ ?_ ?_))
      any_goals (first | rfl | omega)
      intro v6 w6 hown6 hg6 hat6
      have hB6 := hB5.trans (hown5.grown_below hg6 (by omega))
      have hz6 := hB6.size
      obtain ⟨A6, c6, rfl, hr6⟩ := hown6.form
      have hr6 : EdsAt w6 w6.heap.size A6 (out ++ Sp.added y) := hr6
      have HOK := HI.out.ok
      have HTX := HI.out.txt
      have HOKS := Lib.hid HOK
      clear HOK hg6 hat6 hown5
      obtain ⟨R, hR⟩ : ∃ R, R = out ++ Sp.added y := ⟨_, rfl⟩
      have hRl : (out ++ Sp.added y).length = R.length := by rw [hR]
      rw [← hR] at hr6
      have HR := Lib.hid hR
      have hRn : R.length ≤ 268435456 := by rw [hR, List.length_append]; omega
      have hRt : Sp.txt R ≤ 1099511627776 := by rw [hR, Sp.txt_append, HALS.out.2]; omega
      rw [hRl]
      clear hR hRl hown6
      go_wp2_with fail
      refine (normal_any a R A6 c6 hRn hRt ?_ _ hr6).mono ?_
      · intro p hp
        rw [HR.out] at hp
        rcases List.mem_append.1 hp with hp | hp
        · have := HOKS.out p hp; omega
        · have := added_oks y (by omega) p hp; omega
      rintro e w7 ⟨v7, rfl, own7, hb7⟩
      have hz7 := hb7.size
      obtain ⟨A7, c7, rfl, hr7⟩ := own7.form
      go_wp2_with fail
      go_ret2
      refine ⟨_, rfl, ?_, (hbb3.trans (hB6.mono (by omega))).trans (hb7.mono (by omega))⟩
      rw [HEQ.out, ← HR.out, ← HAT.out]
      refine ⟨own7.1, ?_⟩
      rcases own7.2 with hn | ⟨g, cap, cur, hv, hbg, rest⟩
      · exact .inl hn
      · exact .inr ⟨g, cap, cur, hv, by omega, rest⟩
set_option maxHeartbeats 1000000 in
theorem invert_no (src : List UInt8) (l : List Ed) (A : Option Addr) (c : Nat) (hsm : Small src l) (w : World) (hr : EdsAt w w.heap.size A l) (hv : ¬ chk src.length 0 (-1) l = 0) :
    Calls Try.prog 18 #[.string ⟨src.toArray⟩, .slice A l.length c] w fun e w' => e = .returned (.tuple #[.slice none 0 0, .int .i64 (chk src.length 0 (-1) l)]) ∧ Below w.heap.size w w' := by
  have h' := hsm.src_le
  have hv' : (chk src.length 0 (-1) l != 0) = true := by simpa using hv
  clear hv
  go_enter Try.func18, Try.ntmps18
  go_wp2_with fail
  refine (check_list src A c l (by omega) (by omega) _ hr).mono ?_
  rintro e w1 ⟨rfl, hb1⟩
  go_wp2_with fail
  go_ret2
  exact ⟨rfl, hb1⟩
end Go.Proofs.Ytnnicjbceadnbaa
