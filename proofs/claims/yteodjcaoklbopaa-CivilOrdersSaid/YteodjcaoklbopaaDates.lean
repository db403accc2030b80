/- The walks of Date, in the program and in the reference. -/
import Derived.Test.YteodjcaoklbopaaDays
namespace Go.Proofs.Yteodjcaoklbopaa
open Go.RowKit

set_option maxHeartbeats 1000000 in
theorem date_no (n : Int) (hv : n < -719528 ∨ 2932896 < n) (w : World) :
    Calls Try.prog 15 #[.int .i64 n] w fun e w' => e = .returned (.tuple #[.int .i64 0, .int .i64 0, .int .i64 0, .int .i64 13]) ∧ w = w' := by
  rcases hv with h | h
  · go_enter Try.func15, Try.ntmps15
    go_wp2
    go_returns
    exact ⟨rfl, rfl⟩
  · have h' : ¬ n < -719528 := by omega
    go_enter Try.func15, Try.ntmps15
    go_wp2
    go_returns
    exact ⟨rfl, rfl⟩
set_option maxHeartbeats 1000000 in
theorem rdate_no (n : Int) (hv : n < -719528 ∨ 2932896 < n) (w : World) :
    Calls Try.prog 16 #[.int .i64 n] w fun e w' => e = .returned (.tuple #[.int .i64 0, .int .i64 0, .int .i64 0, .int .i64 13]) ∧ w = w' := by
  rcases hv with h | h
  · go_enter Try.func16, Try.ntmps16
    go_wp2
    go_returns
    exact ⟨rfl, rfl⟩
  · have h' : ¬ n < -719528 := by omega
    go_enter Try.func16, Try.ntmps16
    go_wp2
    go_returns
    exact ⟨rfl, rfl⟩

/-- what Date gives: the one date of that number. -/
def DateIs (n : Int) (B : Nat) (w : World) (e : Ending) (w' : World) : Prop :=
  ∃ y m d : Int, e = .returned (.tuple #[.int .i64 y, .int .i64 m, .int .i64 d, .int .i64 0]) ∧ Cal.vld y m d = true ∧ Cal.num y m d = n ∧ Below B w w'

set_option maxHeartbeats 1000000 in
theorem date_yes (n : Int) (h1 : -719528 ≤ n) (h2 : n ≤ 2932896) (w : World) :
    Calls Try.prog 15 #[.int .i64 n] w (DateIs n w.heap.size w) := by
  have g0 := Cal.fst_guess (n + 719528) (by omega)
  go_enter Try.func15, Try.ntmps15
  go_wp2
  go_loop [7] (fun t => ∃ y : Int, 0 ≤ y ∧ y ≤ 9999 ∧ Cal.fst y ≤ n + 719528 ∧ t = .int .i64 y) (fun t => (9999 - intOf t).toNat)
  case atStart => exact ⟨_, by omega, by omega, g0, rfl⟩
  case round =>
    obtain ⟨y, hy1, hy2, hy3, rfl⟩ := hrel
    have hs := Cal.fst_succ y hy1
    have HS := Lib.hid hs
    clear hs g0
    have hl := Cal.lp_01 y
    have bd := Cal.fst_bd y (by omega) (by omega)
    have bd' := Cal.fst_bd (y + 1) (by omega) (by omega)
    by_cases hc : Cal.fst (y + 1) ≤ n + 719528
    · have hy4 : y < 9999 := by
        have := Cal.fst_10000
        by_cases e : y = 9999
        · subst e; rw [show (9999 : Int) + 1 = 10000 from rfl] at hc; omega
        · omega
      go_wp2_with (go_at_call 20; refine (first_any _ (by omega) (by omega) _).mono ?_; rintro e w' ⟨rfl, rfl⟩)
      go_round
      case rel => exact ⟨y + 1, by omega, by omega, hc, rfl⟩
      case measure => simp [intOf]; omega
    · go_wp2_with (go_at_call 20; refine (first_any _ (by omega) (by omega) _).mono ?_; rintro e w' ⟨rfl, rfl⟩)
      go_loopw [6, 8] (fun r k wr => ∃ m : Int, 1 ≤ m ∧ m ≤ 12 ∧ k = .int .i64 m ∧ 0 ≤ n + 719528 - Cal.fst y - Cal.cum y m ∧ r = .int .i64 (n + 719528 - Cal.fst y - Cal.cum y m) ∧ Below w.heap.size w wr) (fun _ k _ => (12 - intOf k).toNat)
      case atStart => exact ⟨1, by omega, by omega, rfl, by simp [Cal.cum_one]; omega, by simp [Cal.cum_one], Below.refl _ _⟩
      case round =>
        obtain ⟨m, hm1, hm2, rfl, hr, rfl, hb⟩ := hrel
        have hz := hb.size
        have cb := Cal.cum_bd y m
        have db := Cal.dim_bd y m
        have cs := Cal.cum_succ y m hm1 hm2
        have CS := Lib.hid cs
        clear cs
        by_cases hd : Cal.dim y m ≤ n + 719528 - Cal.fst y - Cal.cum y m
        · have hm4 : m < 12 := by
            by_cases e : m = 12
            · subst e
              have h1 := CS.out
              have h2 := HS.out
              have h3 := Cal.cum_13 y
              rw [show (12 : Int) + 1 = 13 from rfl] at h1
              omega
            · omega
          go_wp2_with fail
          refine (length_any _ _ (by omega) (by omega) _).mono ?_
          rintro e w2 ⟨rfl, hb2⟩
          have hz2 := hb2.size
          go_wp2_with fail
          refine (length_any _ _ (by omega) (by omega) _).mono ?_
          rintro e w3 ⟨rfl, hb3⟩
          go_wp2_with fail
          go_roundw
          case rel => exact ⟨m + 1, by omega, by omega, rfl, by rw [CS.out]; omega, by rw [CS.out]; exact congrArg (Value.int .i64) (by omega), below_call (below_call hb hz hb2) (by omega) hb3⟩
          case measure => simp [intOf]; omega
        · go_wp2_with fail
          refine (length_any _ _ (by omega) (by omega) _).mono ?_
          rintro e w2 ⟨rfl, hb2⟩
          go_wp2_with fail
          go_returns
          refine ⟨y, m, n + 719528 - Cal.fst y - Cal.cum y m + 1, rfl, Cal.vld_mk (by omega), by unfold Cal.num; omega, below_call hb hz hb2⟩
set_option maxHeartbeats 1000000 in
theorem rdate_yes (n : Int) (h1 : -719528 ≤ n) (h2 : n ≤ 2932896) (w : World) :
    Calls Try.prog 16 #[.int .i64 n] w (DateIs n w.heap.size w) := by
  go_enter Try.func16, Try.ntmps16
  go_wp2
  go_loop [0, 6] (fun r t => ∃ y : Int, 0 ≤ y ∧ y ≤ 9999 ∧ t = .int .i64 y ∧ r = .int .i64 (n + 719528 - Cal.fst y) ∧ 0 ≤ n + 719528 - Cal.fst y) (fun _ t => (9999 - intOf t).toNat)
  case atStart => exact ⟨0, by omega, by omega, rfl, by simp [Cal.fst], by simp [Cal.fst]; omega⟩
  case round =>
    obtain ⟨y, hy1, hy2, rfl, rfl, hy3⟩ := hrel
    have hs := Cal.fst_succ y hy1
    have HS := Lib.hid hs
    clear hs
    have hl := Cal.lp_01 y
    have bd := Cal.fst_bd y (by omega) (by omega)
    by_cases hc : 365 + Cal.lp y ≤ n + 719528 - Cal.fst y
    · have hy4 : y < 9999 := by
        have := Cal.fst_10000
        by_cases e : y = 9999
        · subst e; have := HS.out; rw [show (9999 : Int) + 1 = 10000 from rfl] at this; omega
        · omega
      go_wp2_with fail
      refine (ryear_any _ _).mono ?_
      rintro e w' ⟨rfl, rfl⟩
      go_wp2_with fail
      refine (ryear_any _ _).mono ?_
      rintro e w' ⟨rfl, rfl⟩
      go_wp2_with fail
      go_round
      case rel => exact ⟨y + 1, by omega, by omega, rfl, by rw [HS.out]; exact congrArg (Value.int .i64) (by omega), by rw [HS.out]; omega⟩
      case measure => simp [intOf]; omega
    · go_wp2_with fail
      refine (ryear_any _ _).mono ?_
      rintro e w' ⟨rfl, rfl⟩
      go_wp2_with fail
      go_loop [0, 7] (fun r k => ∃ m : Int, 1 ≤ m ∧ m ≤ 12 ∧ k = .int .i64 m ∧ 0 ≤ n + 719528 - Cal.fst y - Cal.cum y m ∧ r = .int .i64 (n + 719528 - Cal.fst y - Cal.cum y m)) (fun _ k => (12 - intOf k).toNat)
      case atStart => exact ⟨1, by omega, by omega, rfl, by simp [Cal.cum_one]; omega, by simp [Cal.cum_one]⟩
      case round =>
        obtain ⟨m, hm1, hm2, rfl, hr, rfl⟩ := hrel
        have cb := Cal.cum_bd y m
        have db := Cal.dim_bd y m
        have cs := Cal.cum_succ y m hm1 hm2
        have CS := Lib.hid cs
        clear cs
        by_cases hd : Cal.dim y m ≤ n + 719528 - Cal.fst y - Cal.cum y m
        · have hm4 : m < 12 := by
            by_cases e : m = 12
            · subst e
              have h1 := CS.out
              have h2 := HS.out
              have h3 := Cal.cum_13 y
              rw [show (12 : Int) + 1 = 13 from rfl] at h1
              omega
            · omega
          go_wp2_with fail
          refine (rlength_any _ _ (by omega) (by omega) _).mono ?_
          rintro e w2 ⟨rfl, rfl⟩
          go_wp2_with fail
          refine (rlength_any _ _ (by omega) (by omega) _).mono ?_
          rintro e w3 ⟨rfl, rfl⟩
          go_wp2_with fail
          go_round
          case rel => exact ⟨m + 1, by omega, by omega, rfl, by rw [CS.out]; omega, by rw [CS.out]; exact congrArg (Value.int .i64) (by omega)⟩
          case measure => simp [intOf]; omega
        · go_wp2_with fail
          refine (rlength_any _ _ (by omega) (by omega) _).mono ?_
          rintro e w2 ⟨rfl, rfl⟩
          go_wp2_with fail
          go_returns
          refine ⟨y, m, n + 719528 - Cal.fst y - Cal.cum y m + 1, rfl, Cal.vld_mk (by omega), by unfold Cal.num; omega, Below.refl _ _⟩
end Go.Proofs.Yteodjcaoklbopaa
