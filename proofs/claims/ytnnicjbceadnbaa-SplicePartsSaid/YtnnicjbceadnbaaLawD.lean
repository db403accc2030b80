/- The walk of SpliceJoins. -/
import Derived.Test.YtnnicjbceadnbaaPlainM
import Derived.Test.YtnnicjbceadnbaaRef6
import Derived.Test.YtnnicjbceadnbaaLawF
namespace Go.Proofs.Ytnnicjbceadnbaa
open Go.RowKit
open Sp (Ed Ce chk)
/-- Join's answer where a list is not valid, or the lists clash. -/
theorem join_bad (src : List UInt8) (a b : List Ed) (A B : Option Addr) (ca cb : Nat) (hs : src.length ≤ 1073741824) (hab : a.length + b.length ≤ 60) (n : Int) (hn : n ≠ 0)
    (h : (chk src.length 0 (-1) a ≠ 0 ∧ n = chk src.length 0 (-1) a) ∨ (chk src.length 0 (-1) a = 0 ∧ chk src.length 0 (-1) b ≠ 0 ∧ n = chk src.length 0 (-1) b) ∨
      (chk src.length 0 (-1) a = 0 ∧ chk src.length 0 (-1) b = 0 ∧ n = 18 ∧ ∃ W, IsJoin a b W ∧ chk src.length 0 (-1) W ≠ 0))
    (w : World) (ha : EdsAt w w.heap.size A a) (hb : EdsAt w w.heap.size B b) :
    Calls Try.prog 23 #[.string ⟨src.toArray⟩, .slice A a.length ca, .slice B b.length cb] w fun e w' => ∃ A' c', e = .returned (.tuple #[.slice A' 0 c', .int .i64 n]) ∧ Below w.heap.size w w' := by
  refine (join_all 60 (by omega) src a b A B ca cb hs hab w ha hb).mono ?_
  rintro e w' ⟨v, l, m, rfl, hown, hbl, hc⟩
  obtain ⟨A', c', rfl, _⟩ := hown.form
  rcases hc with ⟨h1, rfl, rfl⟩ | ⟨h1, h2, rfl, rfl⟩ | ⟨h1, h2, ⟨J, j1, j2, j3⟩, rfl, rfl⟩ | ⟨h1, h2, j, j3, rfl⟩
  · rcases h with ⟨_, rfl⟩ | ⟨h3, _⟩ | ⟨h3, _⟩
    · exact ⟨A', c', rfl, hbl⟩
    · exact absurd h3 h1
    · exact absurd h3 h1
  · rcases h with ⟨h3, _⟩ | ⟨_, _, rfl⟩ | ⟨_, h3, _⟩
    · exact absurd h1 h3
    · exact ⟨A', c', rfl, hbl⟩
    · exact absurd h3 h2
  · rcases h with ⟨h3, _⟩ | ⟨_, h3, _⟩ | ⟨_, _, rfl, _⟩
    · exact absurd h1 h3
    · exact absurd h2 h3
    · exact ⟨A', c', rfl, hbl⟩
  · rcases h with ⟨h3, _⟩ | ⟨_, h3, _⟩ | ⟨_, _, rfl, W, hW, hW2⟩
    · exact absurd h1 h3
    · exact absurd h2 h3
    · exact absurd (by rw [← j.unique hW j3]; exact j3) hW2
theorem join_good (src : List UInt8) (a b W : List Ed) (A B : Option Addr) (ca cb : Nat) (hs : src.length ≤ 1073741824) (hab : a.length + b.length ≤ 60)
    (h1 : chk src.length 0 (-1) a = 0) (h2 : chk src.length 0 (-1) b = 0) (hW : IsJoin a b W) (h3 : chk src.length 0 (-1) W = 0)
    (w : World) (ha : EdsAt w w.heap.size A a) (hb : EdsAt w w.heap.size B b) :
    Calls Try.prog 23 #[.string ⟨src.toArray⟩, .slice A a.length ca, .slice B b.length cb] w fun e w' => ∃ v, e = .returned (.tuple #[v, .int .i64 0]) ∧ OwnEds w' w.heap.size 48 v W ∧ Below w.heap.size w w' := by
  refine (join_all 60 (by omega) src a b A B ca cb hs hab w ha hb).mono ?_
  rintro e w' ⟨v, l, m, rfl, hown, hbl, hc⟩
  rcases hc with ⟨k1, _⟩ | ⟨_, k1, _⟩ | ⟨_, _, ⟨J, j1, j2, j3⟩, _⟩ | ⟨_, _, j, j3, rfl⟩
  · exact absurd h1 k1
  · exact absurd h2 k1
  · exact absurd (by rw [← hW.unique ⟨j1, j2⟩ h3]; exact h3) j3
  · rw [j.unique hW j3] at hown
    exact ⟨v, rfl, hown, hbl⟩
theorem ded_ex (a b : List Ed) : ∃ W, IsJoin a b W := by
  obtain ⟨Z, h1, h2, h3⟩ := isort_mid [] (ded (a ++ b)) []
  exact ⟨Z, h2, h3⟩
set_option maxHeartbeats 2000000 in
theorem law_joins (src : List UInt8) (a b : List Ed) (A B : Option Addr) (c d : Nat) (hsrc : src.length ≤ 9223372036854775807) (hf : Fits a) (hf2 : Fits b) (w : World) (hr : EdsAt w w.heap.size A a) (hr2 : EdsAt w w.heap.size B b) :
    Calls Try.prog 6 #[.string ⟨src.toArray⟩, .slice A a.length c, .slice B b.length d] w fun e w' => e = .returned (.bool true) ∧ Below w.heap.size w w' := by
  have HF := Lib.hid hf
  have HF2 := Lib.hid hf2
  clear hf hf2
  obtain ⟨W0, hW0⟩ : ∃ W0, W0 = w.alloc (.cells #[.slice A a.length c, .slice B b.length d] 22) := ⟨_, rfl⟩
  have hrs : RowAt svL W0 (w.heap.size + 1) (some ⟨w.heap.size, 0, none⟩) [(⟨A, a.length, c⟩ : Sv), ⟨B, b.length, d⟩] := by rw [hW0]; exact RowAt.lits _ _ rfl _ rfl
  have hal : AllAt W0 (w.heap.size + 1) [(⟨A, a.length, c⟩ : Sv), ⟨B, b.length, d⟩] [a, b] := by
    rw [hW0]; exact ⟨rfl, (hr.alloc (Nat.le_refl _) _).more (by omega), rfl, (hr2.alloc (Nat.le_refl _) _).more (by omega), trivial⟩
  have hz0 : W0.heap.size = w.heap.size + 1 := by rw [hW0]; simp
  have hsm := small_any src [a, b] [(⟨A, a.length, c⟩ : Sv), ⟨B, b.length, d⟩] (some ⟨w.heap.size, 0, none⟩) 2 hsrc (by simp)
    (by intro l hl; simp only [List.mem_cons, List.not_mem_nil, or_false] at hl; rcases hl with rfl | rfl; exact HF.out.1; exact HF2.out.1)
    (by intro l hl x hx; simp only [List.mem_cons, List.not_mem_nil, or_false] at hl; rcases hl with rfl | rfl; exact (HF.out.2 x hx).1; exact (HF2.out.2 x hx).1)
    W0 (by rw [hz0]; exact hrs) (by rw [hz0]; exact hal)
  have hr1 : EdsAt W0 w.heap.size A a := by rw [hW0]; exact hr.alloc (Nat.le_refl _) _
  have hs1 : EdsAt W0 w.heap.size B b := by rw [hW0]; exact hr2.alloc (Nat.le_refl _) _
  have hb1 : Below w.heap.size w W0 := by rw [hW0]; exact (Below.refl _ _).alloc (Nat.le_refl _) _
  rw [hW0] at hsm
  have HSM : Hid (Calls Try.prog 10 #[.string ⟨src.toArray⟩, .slice (some ⟨w.heap.size, 0, none⟩) 2 2] (w.alloc (.cells #[.slice A a.length c, .slice B b.length d] 22)) fun e w' => e = .returned (.bool (smallB src [a, b])) ∧ (w.alloc (.cells #[.slice A a.length c, .slice B b.length d] 22)) = w') := hsm
  have HW0 := Lib.hid hW0
  have HZ0 := Lib.hid hz0
  clear hsm hrs hal hW0 hz0
  cases hb : smallB src [a, b] with
  | false =>
    rw [hb] at HSM
    clear hb
    go_enter Try.func6, Try.ntmps6
    go_wp2_with fail
    refine HSM.out.mono ?_
    rintro e w1 ⟨rfl, rfl⟩
    go_wp2_with fail
    refine (awake_any _).mono ?_
    rintro e w2 ⟨rfl, hb2⟩
    go_wp2_with fail
    go_ret
    exact ⟨rfl, ((Below.refl _ _).alloc (Nat.le_refl _) _).trans (hb2.mono (by simp))⟩
  | true =>
    rw [hb] at HSM
    simp only [smallB, List.all_cons, List.all_nil, Bool.and_true, Bool.and_eq_true, decide_eq_true_eq] at hb
    obtain ⟨⟨hsa, hsb⟩, h300⟩ := hb
    have h30 := (short_each hsa).1
    have h30b := (short_each hsb).1
    clear hsa hsb
    have hab : a.length + b.length ≤ 60 := by omega
    by_cases hv : chk src.length 0 (-1) a = 0
    · have HV := Lib.hid hv
      clear hv
      by_cases hv2 : chk src.length 0 (-1) b = 0
      · have HV2 := Lib.hid hv2
        clear hv2
        obtain ⟨J, hJ⟩ := ded_ex a b
        have HJ := Lib.hid hJ
        have hjl := hJ.len
        clear hJ
        by_cases hv3 : chk src.length 0 (-1) J = 0
        · have HV3 := Lib.hid hv3
          clear hv3
          go_enter Try.func6, Try.ntmps6
          go_wp2_with fail
          refine HSM.out.mono ?_
          rintro e w1 ⟨rfl, rfl⟩
          rw [← HW0.out]
          have hz1 := HZ0.out
          go_wp2_with fail
          refine (join_good src a b J A B c d (by omega) hab HV.out HV2.out HJ.out HV3.out _ (hr1.more (by omega)) (hs1.more (by omega))).mono ?_
          rintro e w2 ⟨v2, rfl, own2, hb2⟩
          obtain ⟨A2, c2, rfl, hrJ2⟩ := own2.form
          clear own2
          have hz2 := hb2.size
          have hr2 := hr1.below (hb2.mono (by omega))
          have hs2 := hs1.below (hb2.mono (by omega))
          go_wp2_with fail
          refine (rcheck_any src.length A c a (by omega) _ (hr2.more (by omega))).mono ?_
          rw [HV.out]
          rintro e w3 ⟨rfl, hb3⟩
          have hz3 := hb3.size
          have hr3 := hr2.below (hb3.mono (by omega))
          have hs3 := hs2.below (hb3.mono (by omega))
          have hrJ3 := hrJ2.below (hb3.mono (by omega))
          go_wp2_with fail
          refine (rcheck_any src.length B d b (by omega) _ (hs3.more (by omega))).mono ?_
          rw [HV2.out]
          rintro e w4 ⟨rfl, hb4⟩
          have hz4 := hb4.size
          have hr4 := hr3.below (hb4.mono (by omega))
          have hs4 := hs3.below (hb4.mono (by omega))
          have hrJ4 := hrJ3.below (hb4.mono (by omega))
          go_wp2_with fail
          refine (rjoin_any a b A B c d (by omega) _ (hr4.more (by omega)) (hs4.more (by omega))).mono ?_
          rintro e w5 ⟨v5, J5, rfl, own5, hJ5, hb5⟩
          obtain rfl : J5 = J := (HJ.out.unique hJ5 HV3.out).symm
          clear hJ5
          obtain ⟨A5, c5, rfl, hrR5⟩ := own5.form
          clear own5
          have hz5 := hb5.size
          have hr5 := hr4.below (hb5.mono (by omega))
          have hs5 := hs4.below (hb5.mono (by omega))
          have hrJ5 := hrJ4.below (hb5.mono (by omega))
          go_wp2_with fail
          refine (join_good src b a J5 B A d c (by omega) (by omega) HV2.out HV.out HJ.out.swap HV3.out _ (hs5.more (by omega)) (hr5.more (by omega))).mono ?_
          rintro e w6 ⟨v6, rfl, own6, hb6⟩
          obtain ⟨A6, c6, rfl, hrM6⟩ := own6.form
          clear own6
          have hz6 := hb6.size
          have hrJ6 := hrJ5.below (hb6.mono (by omega))
          have hrR6 := hrR5.below (hb6.mono (by omega))
          go_wp2_with fail
          refine (rcheck_any src.length A5 c5 J5 (by omega) _ (hrR6.more (by omega))).mono ?_
          rw [HV3.out]
          rintro e w7 ⟨rfl, hb7⟩
          have hz7 := hb7.size
          have hrJ7 := hrJ6.below (hb7.mono (by omega))
          have hrR7 := hrR6.below (hb7.mono (by omega))
          have hrM7 := hrM6.below (hb7.mono (by omega))
          go_wp2_with fail
          refine (requal_any J5 J5 A2 A5 c2 c5 (by omega) (by omega) _ (hrJ7.more (by omega)) (hrR7.more (by omega))).mono ?_
          rw [decide_eq_true rfl]
          rintro e w8 ⟨rfl, n8, rfl⟩
          have hz8 : (w7.drewN n8).heap.size = w7.heap.size := rfl
          go_wp2_with fail
          refine (requal_any J5 J5 A6 A5 c6 c5 (by omega) (by omega) _ (Reads.drewN (hrM7.more (by omega)) n8) (Reads.drewN (hrR7.more (by omega)) n8)).mono ?_
          rw [decide_eq_true rfl]
          rintro e w9 ⟨rfl, n9, rfl⟩
          go_wp2_with fail
          refine (awake_any _).mono ?_
          rintro e w10 ⟨rfl, hb10⟩
          go_wp2_with fail
          go_ret
          refine ⟨rfl, ?_⟩
          have hb79 : Below w7.heap.size w7 (w7.drewN (n8 + n9)) := ⟨rfl, rfl, rfl, Nat.le_refl _, fun _ _ => rfl⟩
          exact (((((((hb1.trans (hb2.mono (by omega))).trans (hb3.mono (by omega))).trans (hb4.mono (by omega))).trans (hb5.mono (by omega))).trans (hb6.mono (by omega))).trans (hb7.mono (by omega))).trans (hb79.mono (by omega))).trans (hb10.mono (by simp; omega))
        · have hv3' : (chk src.length 0 (-1) J != 0) = true := by simpa using hv3
          have HV3 := Lib.hid hv3
          clear hv3
          go_enter Try.func6, Try.ntmps6
          go_wp2_with fail
          refine HSM.out.mono ?_
          rintro e w1 ⟨rfl, rfl⟩
          rw [← HW0.out]
          have hz1 := HZ0.out
          go_wp2_with fail
          refine (join_bad src a b A B c d (by omega) hab 18 (by omega) (.inr (.inr ⟨HV.out, HV2.out, rfl, J, HJ.out, HV3.out⟩)) _ (hr1.more (by omega)) (hs1.more (by omega))).mono ?_
          rintro e w2 ⟨A2, c2, rfl, hb2⟩
          have hz2 := hb2.size
          have hr2 := hr1.below (hb2.mono (by omega))
          have hs2 := hs1.below (hb2.mono (by omega))
          go_wp2_with fail
          refine (rcheck_any src.length A c a (by omega) _ (hr2.more (by omega))).mono ?_
          rw [HV.out]
          rintro e w3 ⟨rfl, hb3⟩
          have hz3 := hb3.size
          have hr3 := hr2.below (hb3.mono (by omega))
          have hs3 := hs2.below (hb3.mono (by omega))
          go_wp2_with fail
          refine (rcheck_any src.length B d b (by omega) _ (hs3.more (by omega))).mono ?_
          rw [HV2.out]
          rintro e w4 ⟨rfl, hb4⟩
          have hz4 := hb4.size
          have hr4 := hr3.below (hb4.mono (by omega))
          have hs4 := hs3.below (hb4.mono (by omega))
          go_wp2_with fail
          refine (rjoin_any a b A B c d (by omega) _ (hr4.more (by omega)) (hs4.more (by omega))).mono ?_
          rintro e w5 ⟨v5, J5, rfl, own5, hJ5, hb5⟩
          have HJ5 := Lib.hid hJ5
          have hj5l := hJ5.len
          clear hJ5
          obtain ⟨A5, c5, rfl, hrR5⟩ := own5.form
          clear own5
          have hz5 := hb5.size
          have hr5 := hr4.below (hb5.mono (by omega))
          have hs5 := hs4.below (hb5.mono (by omega))
          have HV5 : Hid (chk src.length 0 (-1) J5 ≠ 0) := Lib.hid fun h => HV3.out (by rw [← HJ5.out.unique HJ.out h]; exact h)
          have hv5' : (chk src.length 0 (-1) J5 != 0) = true := by simpa using HV5.out
          go_wp2_with fail
          refine (join_bad src b a B A d c (by omega) (by omega) 18 (by omega) (.inr (.inr ⟨HV2.out, HV.out, rfl, J, HJ.out.swap, HV3.out⟩)) _ (hs5.more (by omega)) (hr5.more (by omega))).mono ?_
          rintro e w6 ⟨A6, c6, rfl, hb6⟩
          have hz6 := hb6.size
          have hrR6 := hrR5.below (hb6.mono (by omega))
          go_wp2_with fail
          refine (rcheck_any src.length A5 c5 J5 (by omega) _ (hrR6.more (by omega))).mono ?_
          rintro e w7 ⟨rfl, hb7⟩
          have hz7 := hb7.size
          go_wp2_with fail
          refine (awake_any _).mono ?_
          rintro e w10 ⟨rfl, hb10⟩
          go_wp2_with fail
          go_ret
          refine ⟨rfl, ?_⟩
          exact ((((((hb1.trans (hb2.mono (by omega))).trans (hb3.mono (by omega))).trans (hb4.mono (by omega))).trans (hb5.mono (by omega))).trans (hb6.mono (by omega))).trans (hb7.mono (by omega))).trans (hb10.mono (by omega))
      · have hv2' : (chk src.length 0 (-1) b != 0) = true := by simpa using hv2
        have hv2'' : (chk src.length 0 (-1) b == 0) = false := by simpa using hv2
        have HV2 := Lib.hid hv2
        clear hv2
        go_enter Try.func6, Try.ntmps6
        go_wp2_with fail
        refine HSM.out.mono ?_
        rintro e w1 ⟨rfl, rfl⟩
        rw [← HW0.out]
        have hz1 := HZ0.out
        go_wp2_with fail
        refine (join_bad src a b A B c d (by omega) hab _ HV2.out (.inr (.inl ⟨HV.out, HV2.out, rfl⟩)) _ (hr1.more (by omega)) (hs1.more (by omega))).mono ?_
        rintro e w2 ⟨A2, c2, rfl, hb2⟩
        have hz2 := hb2.size
        have hr2 := hr1.below (hb2.mono (by omega))
        have hs2 := hs1.below (hb2.mono (by omega))
        go_wp2_with fail
        refine (rcheck_any src.length A c a (by omega) _ (hr2.more (by omega))).mono ?_
        rw [HV.out]
        rintro e w3 ⟨rfl, hb3⟩
        have hz3 := hb3.size
        have hs3 := hs2.below (hb3.mono (by omega))
        go_wp2_with fail
        refine (rcheck_any src.length B d b (by omega) _ (hs3.more (by omega))).mono ?_
        rintro e w4 ⟨rfl, hb4⟩
        have hz4 := hb4.size
        go_wp2_with fail
        refine (awake_any _).mono ?_
        rintro e w10 ⟨rfl, hb10⟩
        go_wp2_with fail
        go_ret
        exact ⟨rfl, (((hb1.trans (hb2.mono (by omega))).trans (hb3.mono (by omega))).trans (hb4.mono (by omega))).trans (hb10.mono (by omega))⟩
    · have hv' : (chk src.length 0 (-1) a != 0) = true := by simpa using hv
      have hv'' : (chk src.length 0 (-1) a == 0) = false := by simpa using hv
      have HV := Lib.hid hv
      clear hv
      go_enter Try.func6, Try.ntmps6
      go_wp2_with fail
      refine HSM.out.mono ?_
      rintro e w1 ⟨rfl, rfl⟩
      rw [← HW0.out]
      have hz1 := HZ0.out
      go_wp2_with fail
      refine (join_bad src a b A B c d (by omega) hab _ HV.out (.inl ⟨HV.out, rfl⟩) _ (hr1.more (by omega)) (hs1.more (by omega))).mono ?_
      rintro e w2 ⟨A2, c2, rfl, hb2⟩
      have hz2 := hb2.size
      have hr2 := hr1.below (hb2.mono (by omega))
      go_wp2_with fail
      refine (rcheck_any src.length A c a (by omega) _ (hr2.more (by omega))).mono ?_
      rintro e w3 ⟨rfl, hb3⟩
      have hz3 := hb3.size
      go_wp2_with fail
      refine (awake_any _).mono ?_
      rintro e w10 ⟨rfl, hb10⟩
      go_wp2_with fail
      go_ret
      exact ⟨rfl, ((hb1.trans (hb2.mono (by omega))).trans (hb3.mono (by omega))).trans (hb10.mono (by omega))⟩
end Go.Proofs.Ytnnicjbceadnbaa
