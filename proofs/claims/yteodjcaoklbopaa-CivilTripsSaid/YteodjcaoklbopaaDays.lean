/- The walks of Days and Date, in the program and in the reference. -/
import Derived.Test.YteodjcaoklbopaaWalks
import Derived.Handy
namespace Go.Proofs.Yteodjcaoklbopaa
open Go.RowKit

theorem ret2_int {k k' : IntKind} {a b a' b' : Int} (h : a = b) (h' : a' = b') : Ending.returned (.tuple #[.int k a, .int k' a']) = .returned (.tuple #[.int k b, .int k' b']) := by rw [h, h']

theorem below_call {B : Nat} {w wr w1 : World} (h : Below B w wr) (hz : B ≤ wr.heap.size) (h1 : Below wr.heap.size wr w1) : Below B w w1 := h.trans (h1.mono hz)

set_option maxHeartbeats 1000000 in
theorem days_no (y m d : Int) (hv : Cal.vld y m d = false) (w : World) :
    Calls Try.prog 11 #[.int .i64 y, .int .i64 m, .int .i64 d] w fun e w' => e = .returned (.tuple #[.int .i64 0, .int .i64 13]) ∧ Below w.heap.size w w' := by
  have hc : y < 0 ∨ (0 ≤ y ∧ 9999 < y) ∨ (0 ≤ y ∧ y ≤ 9999 ∧ m < 1) ∨ (0 ≤ y ∧ y ≤ 9999 ∧ 1 ≤ m ∧ 12 < m) ∨ (0 ≤ y ∧ y ≤ 9999 ∧ 1 ≤ m ∧ m ≤ 12 ∧ d < 1) ∨ (0 ≤ y ∧ y ≤ 9999 ∧ 1 ≤ m ∧ m ≤ 12 ∧ 1 ≤ d ∧ Cal.dim y m < d) := by
    simp [Cal.vld] at hv; omega
  clear hv
  rcases hc with h | ⟨h1, h2⟩ | ⟨h1, h2, h3⟩ | ⟨h1, h2, h3, h4⟩ | ⟨h1, h2, h3, h4, h5⟩ | ⟨h1, h2, h3, h4, h5, h6⟩
  all_goals
    go_enter Try.func11, Try.ntmps11
    go_wp2_with (go_at_call 19; refine (length_any _ _ (by omega) (by omega) _).mono ?_; rintro e w' ⟨rfl, hb⟩)
    go_ret2
    refine ⟨rfl, ?_⟩
    first | exact Below.refl _ _ | exact hb

set_option maxHeartbeats 1000000 in
theorem days_yes (y m d : Int) (hv : Cal.vld y m d = true) (w : World) :
    Calls Try.prog 11 #[.int .i64 y, .int .i64 m, .int .i64 d] w fun e w' => e = .returned (.tuple #[.int .i64 (Cal.num y m d), .int .i64 0]) ∧ Below w.heap.size w w' := by
  have hc := Cal.vld_of hv
  have hd := Cal.dim_bd y m
  have hf := Cal.fst_bd y (by omega) (by omega)
  clear hv
  obtain ⟨h1, h2, h3, h4, h5, h6⟩ := hc
  go_enter Try.func11, Try.ntmps11
  go_wp2_with (first | (go_at_call 19; refine (length_any _ _ (by omega) (by omega) _).mono ?_; rintro e w1 ⟨rfl, hb1⟩) | (go_at_call 20; refine (first_any _ (by omega) (by omega) _).mono ?_; rintro e w' ⟨rfl, rfl⟩))
  go_loopw [8, 9] (fun n i wr => ∃ k : Int, 1 ≤ k ∧ k ≤ m ∧ i = .int .i64 k ∧ n = .int .i64 (Cal.fst y + d - 1 - 719528 + Cal.cum y k) ∧ Below w.heap.size w wr) (fun _ i _ => (13 - intOf i).toNat)
  case atStart => exact ⟨1, by omega, by omega, rfl, by simp [Cal.cum_one], hb1⟩
  case round =>
    obtain ⟨k, hk1, hk2, rfl, rfl, hb⟩ := hrel
    have hz := hb.size
    by_cases hlt : k < m
    · have cb := Cal.cum_bd y k
      have db := Cal.dim_bd y k
      have cs := Cal.cum_succ y k (by omega) (by omega)
      have CS := Lib.hid cs
      clear cs
      go_wp2_with (go_at_call 19; refine (length_any _ _ (by omega) (by omega) _).mono ?_; rintro e w2 ⟨rfl, hb2⟩)
      go_roundw
      case rel => exact ⟨k + 1, by omega, by omega, rfl, by rw [CS.out]; exact congrArg (Value.int .i64) (by omega), below_call hb hz hb2⟩
      case measure => simp [intOf]; omega
    · obtain rfl : k = m := by omega
      go_wp2
      go_ret2
      exact ⟨ret2_int (by unfold Cal.num; omega) rfl, hb⟩

/-! ### Days of the reference -/
set_option maxHeartbeats 1000000 in
theorem rdays_no (y m d : Int) (hv : Cal.vld y m d = false) (w : World) :
    Calls Try.prog 12 #[.int .i64 y, .int .i64 m, .int .i64 d] w fun e w' => e = .returned (.tuple #[.int .i64 0, .int .i64 13]) ∧ w = w' := by
  have hc : y < 0 ∨ (0 ≤ y ∧ 9999 < y) ∨ (0 ≤ y ∧ y ≤ 9999 ∧ m < 1) ∨ (0 ≤ y ∧ y ≤ 9999 ∧ 1 ≤ m ∧ 12 < m) ∨ (0 ≤ y ∧ y ≤ 9999 ∧ 1 ≤ m ∧ m ≤ 12 ∧ d < 1) ∨ (0 ≤ y ∧ y ≤ 9999 ∧ 1 ≤ m ∧ m ≤ 12 ∧ 1 ≤ d ∧ Cal.dim y m < d) := by
    simp [Cal.vld] at hv; omega
  clear hv
  rcases hc with h | ⟨h1, h2⟩ | ⟨h1, h2, h3⟩ | ⟨h1, h2, h3, h4⟩ | ⟨h1, h2, h3, h4, h5⟩ | ⟨h1, h2, h3, h4, h5, h6⟩
  all_goals
    go_enter Try.func12, Try.ntmps12
    go_wp2_with (go_at_call 21; refine (rlength_any _ _ (by omega) (by omega) _).mono ?_; rintro e w' ⟨rfl, rfl⟩)
    go_ret2
    exact ⟨rfl, rfl⟩

end Go.Proofs.Yteodjcaoklbopaa
