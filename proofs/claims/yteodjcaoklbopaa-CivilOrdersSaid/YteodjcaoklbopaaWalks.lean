/- The walks of the calendar's functions: what each call returns. -/
import Derived.Test.YteodjcaoklbopaaRows
import Derived.Test.YteodjcaoklbopaaPlain
import Derived.WalkKit
import Derived.WalkSpells
import Derived.WalkLawsBesides
import Derived.Lib.Hide
namespace Go.Proofs.Yteodjcaoklbopaa
open Go.RowKit

theorem ret_bool {a b : Bool} (h : a = b) : Ending.returned (.bool a) = .returned (.bool b) := by rw [h]
theorem ret_int {k : IntKind} {a b : Int} (h : a = b) : Ending.returned (.int k a) = .returned (.int k b) := by rw [h]

set_option maxHeartbeats 400000 in
theorem leap_any (y : Int) (w : World) :
    Calls Try.prog 13 #[.int .i64 y] w fun e w' => e = .returned (.bool (Cal.leapB y)) ∧ w = w' := by
  go_enter Try.func13, Try.ntmps13
  go_wp2
  all_goals go_ret
  all_goals exact ⟨ret_bool (by simp [Cal.leapB, *]), rfl⟩
set_option maxHeartbeats 400000 in
theorem rleap_any (y : Int) (w : World) :
    Calls Try.prog 14 #[.int .i64 y] w fun e w' => e = .returned (.bool (Cal.leapB y)) ∧ w = w' := by
  go_enter Try.func14, Try.ntmps14
  go_wp2
  all_goals go_ret
  · exact ⟨ret_bool (Cal.lb1 ‹_›), rfl⟩
  · exact ⟨ret_bool (Cal.lb2 ‹_› ‹_›), rfl⟩
  · exact ⟨ret_bool (Cal.lb3 ‹_› ‹_›), rfl⟩

set_option maxHeartbeats 1000000 in
theorem length_any (y m : Int) (h1 : 1 ≤ m) (h2 : m ≤ 12) (w : World) :
    Calls Try.prog 19 #[.int .i64 y, .int .i64 m] w fun e w' => e = .returned (.int .i64 (Cal.dim y m)) ∧ Below w.heap.size w w' := by
  have hc : m = 1 ∨ m = 2 ∨ m = 3 ∨ m = 4 ∨ m = 5 ∨ m = 6 ∨ m = 7 ∨ m = 8 ∨ m = 9 ∨ m = 10 ∨ m = 11 ∨ m = 12 := by omega
  rcases hc with rfl | rfl | rfl | rfl | rfl | rfl | rfl | rfl | rfl | rfl | rfl | rfl
  all_goals
    go_enter Try.func19, Try.ntmps19
    go_wp2_with (go_at_call 13; refine (leap_any _ _).mono ?_; rintro e w' ⟨rfl, rfl⟩)
    all_goals go_ret
    all_goals exact ⟨ret_int (by simp [Cal.dim, Cal.lp, *]), (Below.refl _ _).alloc (Nat.le_refl _) _⟩

set_option maxHeartbeats 400000 in
theorem rlength_any (y m : Int) (h1 : 1 ≤ m) (h2 : m ≤ 12) (w : World) :
    Calls Try.prog 21 #[.int .i64 y, .int .i64 m] w fun e w' => e = .returned (.int .i64 (Cal.dim y m)) ∧ w = w' := by
  go_enter Try.func21, Try.ntmps21
  go_wp2_with (go_at_call 14; refine (rleap_any _ _).mono ?_; rintro e w' ⟨rfl, rfl⟩)
  all_goals go_ret
  all_goals exact ⟨ret_int (by simp_all [Cal.dim, Cal.lp]), rfl⟩
set_option maxHeartbeats 400000 in
theorem ryear_any (y : Int) (w : World) :
    Calls Try.prog 22 #[.int .i64 y] w fun e w' => e = .returned (.int .i64 (365 + Cal.lp y)) ∧ w = w' := by
  by_cases h : Cal.leapB y = true
  all_goals
    go_enter Try.func22, Try.ntmps22
    go_wp2_with (go_at_call 14; refine (rleap_any _ _).mono ?_; rintro e w' ⟨rfl, rfl⟩)
    go_ret
    exact ⟨ret_int (by simp [Cal.lp, h]), rfl⟩
set_option maxHeartbeats 400000 in
theorem first_any (y : Int) (h0 : 0 ≤ y) (h1 : y ≤ 20000) (w : World) :
    Calls Try.prog 20 #[.int .i64 y] w fun e w' => e = .returned (.int .i64 (Cal.fst y)) ∧ w = w' := by
  go_enter Try.func20, Try.ntmps20
  go_wp2
  go_ret
  exact ⟨ret_int (by unfold Cal.fst; omega), rfl⟩
set_option maxHeartbeats 400000 in
theorem weekday_any (n : Int) (w : World) :
    Calls Try.prog 17 #[.int .i64 n] w fun e w' => e = .returned (.int .i64 ((n + 3) % 7)) ∧ w = w' := by
  have hb := Cal.tm7 n
  go_enter Try.func17, Try.ntmps17
  go_wp2
  go_ret
  exact ⟨ret_int (Cal.wd1 n), rfl⟩
set_option maxHeartbeats 400000 in
theorem rweekday_any (n : Int) (w : World) :
    Calls Try.prog 18 #[.int .i64 n] w fun e w' => e = .returned (.int .i64 ((n + 3) % 7)) ∧ w = w' := by
  have hb := Cal.tm7 n
  go_enter Try.func18, Try.ntmps18
  go_wp2
  all_goals go_ret
  · exact ⟨ret_int (Cal.wd2 n ‹_›), rfl⟩
  · exact ⟨ret_int (Cal.wd3 n ‹_›), rfl⟩
end Go.Proofs.Yteodjcaoklbopaa
