/- Walks: the other small readers, the program's and the reference's. -/
import Derived.Test.YtegdemnfjmaicaaDoorWalk1
import Derived.Outline
namespace Go.Proofs.YtegdemnfjmaicaaDoor
open Go.RowKit
theorem seg_snoc (s : Ini.Str) (a k : Nat) (h : a ≤ k) (hk : k < s.length) : seg s a (k + 1) = seg s a k ++ [s[k]] := by
  unfold seg
  rw [List.take_succ_eq_append_getElem hk, List.drop_append_of_le_length (by rw [List.length_take]; omega)]
theorem nT_snoc (l : Ini.Str) (c : UInt8) : Ini.nT (l ++ [c]) = if Ini.isB c = true then Ini.nT l else l.length + 1 := by
  unfold Ini.nT
  rw [List.reverse_append]
  show (List.dropWhile Ini.isB (c :: l.reverse)).length = _
  rw [List.dropWhile_cons]
  split
  · rfl
  · simp
set_option maxHeartbeats 1000000 in
theorem rblanks_any (a to : Nat) (s : Ini.Str) (ha : a ≤ to) (ht : to ≤ s.length) (hs : s.length ≤ 1073741824) (w : World) (r : Nat) (hr : a + Ini.nB (seg s a to) = r) :
    Calls Tryd.prog 32 #[.string ⟨s.toArray⟩, .int .i64 a, .int .i64 to] w fun e w' => e = .returned (.int .i64 r) ∧ w = w' := by
  have HR := Lib.hid hr
  clear hr
  go_enter Tryd.func32, Tryd.ntmps32
  go_wp2_with fail
  go_loop [1] (fun i => ∃ k : Nat, a ≤ k ∧ k ≤ to ∧ i = .int .i64 k ∧ Hid (a + Ini.nB (seg s a to) = k + Ini.nB (seg s k to))) (fun i => to - (intOf i).toNat)
  case atStart => exact ⟨a, by omega, ha, rfl, Lib.hid rfl⟩
  case round =>
    obtain ⟨k, h1, h2, rfl, HK⟩ := hrel
    by_cases hlt : k < to
    · have hc := seg_cons s k to hlt ht
      generalize hcc : s[k]'(by omega) = c at *
      have HC := Lib.hid hc
      have HCC := Lib.hid hcc
      clear hc hcc
      by_cases e1 : c = 32
      · have HV : Hid (a + Ini.nB (seg s a to) = k + 1 + Ini.nB (seg s (k + 1) to)) := Lib.hid (by rw [HK.out, HC.out, nB_cons c _ (by rw [e1]; rfl)]; omega)
        have q1 := byte_is s k (by omega) c 32 32 rfl HCC.out e1
        clear e1
        go_wp2_with fail
        go_round
        case rel => exact ⟨k + 1, by omega, by omega, by go_num, HV⟩
        case measure => simp [intOf]; omega
      · have q1 := byte_not s k (by omega) c 32 32 rfl HCC.out e1
        by_cases e2 : c = 9
        · have HV : Hid (a + Ini.nB (seg s a to) = k + 1 + Ini.nB (seg s (k + 1) to)) := Lib.hid (by rw [HK.out, HC.out, nB_cons c _ (by rw [e2]; rfl)]; omega)
          have q2 := byte_is s k (by omega) c 9 9 rfl HCC.out e2
          clear e1 e2
          go_wp2_with fail
          go_round
          case rel => exact ⟨k + 1, by omega, by omega, by go_num, HV⟩
          case measure => simp [intOf]; omega
        · have HV : Hid (a + Ini.nB (seg s a to) = k) := Lib.hid (by
            rw [HK.out, HC.out, nB_zero _ (fun d hd => ?_)]; rfl
            simp only [List.head?_cons, Option.some.injEq] at hd
            subst hd
            simp [Ini.isB, e1, e2])
          have q2 := byte_not s k (by omega) c 9 9 rfl HCC.out e2
          have q1b := byte_nob s k (by omega) c 32 32 rfl HCC.out e1
          have q2b := byte_nob s k (by omega) c 9 9 rfl HCC.out e2
          clear e1 e2
          go_wp2_with fail
          go_ret
          exact ⟨ret_nat (by rw [← HR.out, HV.out]), rfl⟩
    · have HV : Hid (a + Ini.nB (seg s a to) = k) := Lib.hid (by rw [HK.out, seg_nil s k to (by omega)]; rfl)
      go_wp2_with fail
      go_ret
      exact ⟨ret_nat (by rw [← HR.out, HV.out]), rfl⟩
set_option maxHeartbeats 1000000 in
theorem trimmed_any (pb a to : Nat) (s : Ini.Str) (ha : a ≤ to) (ht : to ≤ s.length) (hs : s.length ≤ 1073741824) (w : World) (hp : SrcAt w pb s) (r : Nat) (hr : a + Ini.nT (seg s a to) = r) :
    Calls Tryd.prog 41 #[.pointer (some ⟨pb, 0, none⟩), .int .i64 a, .int .i64 to] w fun e w' => e = .returned (.int .i64 r) ∧ w = w' := by
  unfold SrcAt at hp
  have HR := Lib.hid hr
  clear hr
  go_enter Tryd.func41, Tryd.ntmps41
  go_wp2_with fail
  go_loop [2] (fun i => ∃ k : Nat, a ≤ k ∧ k ≤ to ∧ i = .int .i64 k ∧ Hid (Ini.nT (seg s a to) = Ini.nT (seg s a k))) (fun i => (intOf i).toNat)
  case atStart => exact ⟨to, ha, by omega, rfl, Lib.hid rfl⟩
  case round =>
    obtain ⟨k, h1, h2, rfl, HK⟩ := hrel
    by_cases hlt : a < k
    · obtain ⟨k, rfl⟩ : ∃ j, k = j + 1 := ⟨k - 1, by omega⟩
      have hc := seg_snoc s a k (by omega) (by omega)
      generalize hcc : s[k]'(by omega) = c at *
      have HC := Lib.hid hc
      have HCC := Lib.hid hcc
      clear hc hcc
      rw [show ((k + 1 : Nat) : Int) = (k : Int) + 1 from by omega]
      have b0 : (a : Int) < (k : Int) + 1 := by omega
      have t1 : ((k : Int) + 1 - 1) = (k : Int) := by omega
      by_cases e1 : c = 32
      · have HV : Hid (Ini.nT (seg s a to) = Ini.nT (seg s a k)) := Lib.hid (by rw [HK.out, HC.out, nT_snoc, if_pos (by rw [e1]; rfl)])
        have q1 := byte_is s k (by omega) c 32 32 rfl HCC.out e1
        have q1b := byte_isb s k (by omega) c 32 32 rfl HCC.out e1
        clear e1
        go_wp2_with fail
        go_round
        case rel => exact ⟨k, by omega, by omega, by go_num, HV⟩
        case measure => simp [intOf] <;> omega
      · have q1 := byte_not s k (by omega) c 32 32 rfl HCC.out e1
        have q1b := byte_nob s k (by omega) c 32 32 rfl HCC.out e1
        by_cases e2 : c = 9
        · have HV : Hid (Ini.nT (seg s a to) = Ini.nT (seg s a k)) := Lib.hid (by rw [HK.out, HC.out, nT_snoc, if_pos (by rw [e2]; rfl)])
          have q2 := byte_is s k (by omega) c 9 9 rfl HCC.out e2
          have q2b := byte_isb s k (by omega) c 9 9 rfl HCC.out e2
          clear e1 e2
          go_wp2_with fail
          go_round
          case rel => exact ⟨k, by omega, by omega, by go_num, HV⟩
          case measure => simp [intOf] <;> omega
        · have HV : Hid (a + Ini.nT (seg s a to) = k + 1) := Lib.hid (by rw [HK.out, HC.out, nT_snoc, if_neg (by simp [Ini.isB, e1, e2]), seg_len s a k (by omega)]; omega)
          have q2 := byte_not s k (by omega) c 9 9 rfl HCC.out e2
          have q2b := byte_nob s k (by omega) c 9 9 rfl HCC.out e2
          clear e1 e2
          go_wp2_with fail
          go_ret
          exact ⟨ret_int (by have := HV.out; have := HR.out; omega), rfl⟩
    · have HV : Hid (a + Ini.nT (seg s a to) = k) := Lib.hid (by rw [HK.out, seg_nil s a k (by omega)]; show a + 0 = k; omega)
      go_wp2_with fail
      go_ret
      exact ⟨ret_nat (by rw [← HR.out, HV.out]), rfl⟩
set_option maxHeartbeats 1000000 in
theorem rtrim_any (a to : Nat) (s : Ini.Str) (ha : a ≤ to) (ht : to ≤ s.length) (hs : s.length ≤ 1073741824) (w : World) (r : Nat) (hr : a + Ini.nT (seg s a to) = r) :
    Calls Tryd.prog 47 #[.string ⟨s.toArray⟩, .int .i64 a, .int .i64 to] w fun e w' => e = .returned (.int .i64 r) ∧ w = w' := by
  have HR := Lib.hid hr
  clear hr
  go_enter Tryd.func47, Tryd.ntmps47
  go_wp2_with fail
  go_loop [2] (fun i => ∃ k : Nat, a ≤ k ∧ k ≤ to ∧ i = .int .i64 k ∧ Hid (Ini.nT (seg s a to) = Ini.nT (seg s a k))) (fun i => (intOf i).toNat)
  case atStart => exact ⟨to, ha, by omega, rfl, Lib.hid rfl⟩
  case round =>
    obtain ⟨k, h1, h2, rfl, HK⟩ := hrel
    by_cases hlt : a < k
    · obtain ⟨k, rfl⟩ : ∃ j, k = j + 1 := ⟨k - 1, by omega⟩
      have hc := seg_snoc s a k (by omega) (by omega)
      generalize hcc : s[k]'(by omega) = c at *
      have HC := Lib.hid hc
      have HCC := Lib.hid hcc
      clear hc hcc
      rw [show ((k + 1 : Nat) : Int) = (k : Int) + 1 from by omega]
      have b0 : (a : Int) < (k : Int) + 1 := by omega
      have t1 : ((k : Int) + 1 - 1) = (k : Int) := by omega
      by_cases e1 : c = 32
      · have HV : Hid (Ini.nT (seg s a to) = Ini.nT (seg s a k)) := Lib.hid (by rw [HK.out, HC.out, nT_snoc, if_pos (by rw [e1]; rfl)])
        have q1 := byte_is s k (by omega) c 32 32 rfl HCC.out e1
        have q1b := byte_isb s k (by omega) c 32 32 rfl HCC.out e1
        clear e1
        go_wp2_with fail
        go_round
        case rel => exact ⟨k, by omega, by omega, by go_num, HV⟩
        case measure => simp [intOf] <;> omega
      · have q1 := byte_not s k (by omega) c 32 32 rfl HCC.out e1
        have q1b := byte_nob s k (by omega) c 32 32 rfl HCC.out e1
        by_cases e2 : c = 9
        · have HV : Hid (Ini.nT (seg s a to) = Ini.nT (seg s a k)) := Lib.hid (by rw [HK.out, HC.out, nT_snoc, if_pos (by rw [e2]; rfl)])
          have q2 := byte_is s k (by omega) c 9 9 rfl HCC.out e2
          have q2b := byte_isb s k (by omega) c 9 9 rfl HCC.out e2
          clear e1 e2
          go_wp2_with fail
          go_round
          case rel => exact ⟨k, by omega, by omega, by go_num, HV⟩
          case measure => simp [intOf] <;> omega
        · have HV : Hid (a + Ini.nT (seg s a to) = k + 1) := Lib.hid (by rw [HK.out, HC.out, nT_snoc, if_neg (by simp [Ini.isB, e1, e2]), seg_len s a k (by omega)]; omega)
          have q2 := byte_not s k (by omega) c 9 9 rfl HCC.out e2
          have q2b := byte_nob s k (by omega) c 9 9 rfl HCC.out e2
          clear e1 e2
          go_wp2_with fail
          go_ret
          exact ⟨ret_int (by have := HV.out; have := HR.out; omega), rfl⟩
    · have HV : Hid (a + Ini.nT (seg s a to) = k) := Lib.hid (by rw [HK.out, seg_nil s a k (by omega)]; show a + 0 = k; omega)
      go_wp2_with fail
      go_ret
      exact ⟨ret_nat (by rw [← HR.out, HV.out]), rfl⟩
end Go.Proofs.YtegdemnfjmaicaaDoor
