/- Walks: a name. -/
import Derived.Test.YtegdemnfjmaicaaDoorWalk8
import Derived.Outline
namespace Go.Proofs.YtegdemnfjmaicaaDoor
open Go.RowKit
theorem FailPost.from {w w1 w' : World} {pb a e : Nat} (h : FailPost w1 w' pb a e) (hb : Below w.heap.size w w1) : FailPost w w' pb a e := by
  obtain ⟨w2, h2, h3⟩ := h
  exact ⟨w2, hb.trans (h2.mono hb.size), h3⟩
/-- what name answers. -/
def NPost (w : World) (pb : Nat) (R : Ini.Res (Ini.Str × Nat × Nat)) (e : Ending) (w' : World) : Prop :=
  match R with
  | .err x c => e = .returned (.tuple #[.string ⟨#[]⟩, .int .i64 0, .int .i64 0, .bool false]) ∧ FailPost w w' pb x c
  | .ok (t, i, j) => e = .returned (.tuple #[.string ⟨t.toArray⟩, .int .i64 (i : Nat), .int .i64 (j : Nat), .bool true]) ∧ Below w.heap.size w w'
theorem quoted_bounds (s : Ini.Str) (a tz : Nat) (ha : a < tz) (ht : tz ≤ s.length) (t : Ini.Str) (i : Nat) (h : Ini.quoted (seg s a tz) a = .ok (t, i)) : a + 2 ≤ i ∧ i ≤ tz := by
  rw [seg_cons s a tz ha ht, Ini.quoted_Q] at h
  have := Ini.Q_bounds _ _ _ _ _ h
  rw [seg_len s _ tz ht] at this
  omega
theorem seg_drop (s : Ini.Str) (a tz k : Nat) : (seg s a tz).drop k = seg s (a + k) tz := by unfold seg; rw [List.drop_drop]
theorem nB_le (r : Ini.Str) : Ini.nB r ≤ r.length := by unfold Ini.nB; exact (List.takeWhile_sublist _).length_le
theorem nT_le (r : Ini.Str) : Ini.nT r ≤ r.length := by unfold Ini.nT; have := (List.dropWhile_sublist (l := r.reverse) Ini.isB).length_le; simpa using this
theorem seg_take (s : Ini.Str) (a tz n : Nat) (h : a + n ≤ tz) : (seg s a tz).take n = seg s a (a + n) := by
  unfold seg
  rw [List.take_drop, List.take_take, Nat.min_eq_left h]
theorem takeWhile_eq_take (p : UInt8 → Bool) (l : Ini.Str) : l.takeWhile p = l.take (l.takeWhile p).length := by
  induction l with
  | nil => rfl
  | cons c l ih =>
    by_cases hc : p c = true
    · simp only [List.takeWhile_cons, hc, if_true, List.length_cons, List.take_succ_cons]
      rw [← ih]
    · simp [hc]
set_option maxRecDepth 100000 in
set_option maxHeartbeats 4000000 in
theorem name_quoted (pb a tz : Nat) (mark : UInt8) (m : Int) (hm : (mark.toNat : Int) = m) (s : Ini.Str) (ha : a < tz) (ht : tz ≤ s.length) (hs : s.length ≤ 1073741823) (w : World) (hp : ParAt w pb s) (hc : s[a]'(by omega) = 34)
    (R : Ini.Res (Ini.Str × Nat × Nat)) (hR : Ini.name (seg s a tz) a mark = R) :
    Calls Tryd.prog 38 #[.pointer (some ⟨pb, 0, none⟩), .int .i64 a, .int .i64 tz, .int .u8 m] w (NPost w pb R) := by
  have hsrc := hp.src
  unfold SrcAt at hsrc
  have q0 := byte_is s a (by omega) 34 34 34 rfl hc rfl
  have hlt : (a : Int) < (tz : Int) := by omega
  have hhead : (seg s a tz).head? = some 34 := by rw [seg_cons s a tz ha ht, hc]; rfl
  unfold Ini.name at hR
  rw [if_pos hhead] at hR
  have HM := Lib.hid hm
  have HP := Lib.hid hp
  clear hhead hc hm hp
  cases hq : Ini.quoted (seg s a tz) a with
  | err x c =>
    rw [hq] at hR
    have HQ := Lib.hid hq
    have HR : Hid (Ini.Res.err x c = R) := Lib.hid hR
    clear hq hR
    go_enter Tryd.func38, Tryd.ntmps38
    go_wp2_with fail
    refine (quoted_any pb a tz s ha ht hs _ HP.out _ HQ.out).mono ?_
    rintro e w1 ⟨rfl, hf⟩
    have HF := Lib.hid hf
    clear hf
    go_wp2_with fail
    refine bodyPost_ret (v := .tuple #[.string ⟨#[]⟩, .int .i64 0, .int .i64 0, .bool false]) (by simp [results, Tryd.results38, go_sem]) rfl ?_
    rw [← HR.out]
    exact ⟨rfl, HF.out⟩
  | ok p =>
    obtain ⟨t, i⟩ := p
    obtain ⟨b1, b2⟩ := quoted_bounds s a tz ha ht t i hq
    rw [hq] at hR
    have hR2 : (if ((seg s i tz).drop (Ini.nB (seg s i tz))).head? = some mark then Ini.Res.ok (t, i, i + Ini.nB (seg s i tz) + 1) else .err (i + Ini.nB (seg s i tz)) 4) = R := by
      have : (seg s a tz).drop (i - a) = seg s i tz := by rw [seg_drop, show a + (i - a) = i from by omega]
      rw [← hR]
      simp only [this]
    obtain ⟨k, hk⟩ : ∃ k, i + Ini.nB (seg s i tz) = k := ⟨_, rfl⟩
    have hnb := nB_le (seg s i tz)
    rw [seg_len s i tz ht] at hnb
    rw [seg_drop, hk] at hR2
    have HQ := Lib.hid hq
    have HK := Lib.hid hk
    have hk2 : i ≤ k ∧ k ≤ tz := by omega
    obtain ⟨hk2, hk3⟩ := hk2
    clear hq hR hk hnb
    by_cases hlk : k < tz
    · obtain ⟨c, hcc⟩ : ∃ c, s[k]'(by omega) = c := ⟨_, rfl⟩
      rw [seg_cons s k tz hlk ht, hcc] at hR2
      have hlki : (k : Int) < (tz : Int) := by omega
      by_cases hcm : c = mark
      · have q1 := byte_is s k (by omega) c mark m HM.out hcc hcm
        have q1c : ((((⟨s.toArray⟩ : ByteArray)[k]'(by simp [ByteArray.size]; omega)).toNat : Int) != m) = false := by simpa using q1
        rw [if_pos (by rw [List.head?_cons, hcm])] at hR2
        have HR := Lib.hid hR2
        clear hR2 hcm hcc q1
        go_enter Tryd.func38, Tryd.ntmps38
        go_wp2_with fail
        refine (quoted_any pb a tz s ha ht hs _ HP.out _ HQ.out).mono ?_
        rintro e w1 ⟨rfl, hb1⟩
        have HP1 := Lib.hid (HP.out.below hb1 HP.out.lt)
        have hsrc1 := HP1.out.src
        unfold SrcAt at hsrc1
        go_wp2_with fail
        refine (blanks_any pb i tz s b2 ht (by omega) _ HP1.out.src k HK.out).mono ?_
        rintro e w2 ⟨rfl, rfl⟩
        go_wp2_with fail
        refine bodyPost_ret (v := .tuple #[.string ⟨t.toArray⟩, .int .i64 i, .int .i64 ((k : Int) + 1), .bool true]) (by simp [results, Tryd.results38, go_sem]) rfl ?_
        rw [← HR.out]
        exact ⟨by refine congrArg Ending.returned (congrArg Value.tuple ?_); go_num, hb1⟩
      · have q1 := byte_not s k (by omega) c mark m HM.out hcc hcm
        have q1c : ((((⟨s.toArray⟩ : ByteArray)[k]'(by simp [ByteArray.size]; omega)).toNat : Int) != m) = true := by simpa using q1
        rw [if_neg (by rw [List.head?_cons]; intro e; injection e with e; exact hcm e)] at hR2
        have HR := Lib.hid hR2
        clear hR2 hcm hcc
        go_enter Tryd.func38, Tryd.ntmps38
        go_wp2_with fail
        refine (quoted_any pb a tz s ha ht hs _ HP.out _ HQ.out).mono ?_
        rintro e w1 ⟨rfl, hb1⟩
        have HP1 := Lib.hid (HP.out.below hb1 HP.out.lt)
        have hsrc1 := HP1.out.src
        unfold SrcAt at hsrc1
        go_wp2_with fail
        refine (blanks_any pb i tz s b2 ht (by omega) _ HP1.out.src k HK.out).mono ?_
        rintro e w2 ⟨rfl, rfl⟩
        go_wp2_with fail
        refine (fail_par pb k 4 s _ HP1.out).mono ?_
        rintro e w3 ⟨rfl, hf⟩
        have HF := Lib.hid hf
        clear hf
        go_wp2_with fail
        refine bodyPost_ret (v := .tuple #[.string ⟨#[]⟩, .int .i64 0, .int .i64 0, .bool false]) (by simp [results, Tryd.results38, go_sem]) rfl ?_
        rw [← HR.out]
        exact ⟨rfl, _, hb1, HF.out⟩
    · have hge : (tz : Int) ≤ (k : Int) := by omega
      rw [seg_nil s k tz (by omega), if_neg (by simp)] at hR2
      have HR := Lib.hid hR2
      clear hR2
      go_enter Tryd.func38, Tryd.ntmps38
      go_wp2_with fail
      refine (quoted_any pb a tz s ha ht hs _ HP.out _ HQ.out).mono ?_
      rintro e w1 ⟨rfl, hb1⟩
      have HP1 := Lib.hid (HP.out.below hb1 HP.out.lt)
      have hsrc1 := HP1.out.src
      unfold SrcAt at hsrc1
      go_wp2_with fail
      refine (blanks_any pb i tz s b2 ht (by omega) _ HP1.out.src k HK.out).mono ?_
      rintro e w2 ⟨rfl, rfl⟩
      go_wp2_with fail
      refine (fail_par pb k 4 s _ HP1.out).mono ?_
      rintro e w3 ⟨rfl, hf⟩
      have HF := Lib.hid hf
      clear hf
      go_wp2_with fail
      refine bodyPost_ret (v := .tuple #[.string ⟨#[]⟩, .int .i64 0, .int .i64 0, .bool false]) (by simp [results, Tryd.results38, go_sem]) rfl ?_
      rw [← HR.out]
      exact ⟨rfl, _, hb1, HF.out⟩
end Go.Proofs.YtegdemnfjmaicaaDoor
