/- The walks of the reference's Days. -/
import Derived.Test.YteodjcaoklbopaaDays
namespace Go.Proofs.Yteodjcaoklbopaa
open Go.RowKit
set_option maxHeartbeats 1000000 in
theorem rdays_yes (y m d : Int) (hv : Cal.vld y m d = true) (w : World) :
    Calls Try.prog 12 #[.int .i64 y, .int .i64 m, .int .i64 d] w fun e w' => e = .returned (.tuple #[.int .i64 (Cal.num y m d), .int .i64 0]) ∧ w = w' := by
  have hc := Cal.vld_of hv
  have hd := Cal.dim_bd y m
  have hf := Cal.fst_bd y (by omega) (by omega)
  clear hv
  obtain ⟨h1, h2, h3, h4, h5, h6⟩ := hc
  go_enter Try.func12, Try.ntmps12
  go_wp2_with (first | (go_at_call 21; refine (rlength_any _ _ (by omega) (by omega) _).mono ?_; rintro e w1 ⟨rfl, rfl⟩))
  go_loop [8, 9] (fun n i => ∃ k : Int, 1 ≤ k ∧ k ≤ m ∧ i = .int .i64 k ∧ n = .int .i64 (d - 1 + Cal.cum y k)) (fun _ i => (13 - intOf i).toNat)
  case atStart => exact ⟨1, by omega, by omega, rfl, by simp [Cal.cum_one]⟩
  case round =>
    obtain ⟨k, hk1, hk2, rfl, rfl⟩ := hrel
    have cb := Cal.cum_bd y k
    by_cases hlt : k < m
    · have db := Cal.dim_bd y k
      have cs := Cal.cum_succ y k (by omega) (by omega)
      have CS := Lib.hid cs
      clear cs
      go_wp2_with (go_at_call 21; refine (rlength_any _ _ (by omega) (by omega) _).mono ?_; rintro e w2 ⟨rfl, rfl⟩)
      go_round
      case rel => exact ⟨k + 1, by omega, by omega, rfl, by rw [CS.out]; exact congrArg (Value.int .i64) (by omega)⟩
      case measure => simp [intOf]; omega
    · obtain rfl : k = m := by omega
      go_wp2_with fail
      by_cases hy : y < 1970
      · -- before 1970: the second loop has no round
        go_loop [8, 10] (fun n i => n = .int .i64 (d - 1 + Cal.cum y k) ∧ i = .int .i64 1970) (fun _ _ => 0)
        case atStart => exact ⟨rfl, rfl⟩
        case round =>
          obtain ⟨rfl, rfl⟩ := hrel
          go_wp2_with fail
          go_loop [8, 11] (fun n i => ∃ j : Int, y ≤ j ∧ j ≤ 1970 ∧ i = .int .i64 j ∧ n = .int .i64 (d - 1 + Cal.cum y k - Cal.fst j + Cal.fst y)) (fun _ i => (1970 - intOf i).toNat)
          case atStart => exact ⟨y, by omega, by omega, rfl, congrArg (Value.int .i64) (by omega)⟩
          case round =>
            obtain ⟨j, hj1, hj2, rfl, rfl⟩ := hrel
            have bj := Cal.fst_bd j (by omega) (by omega)
            have bl := Cal.lp_01 j
            by_cases hlt : j < 1970
            · have cs := Cal.fst_succ j (by omega)
              have CS := Lib.hid cs
              clear cs
              go_wp2_with (go_at_call 22; refine (ryear_any _ _).mono ?_; rintro e w2 ⟨rfl, rfl⟩)
              go_round
              case rel => exact ⟨j + 1, by omega, by omega, rfl, by rw [CS.out]; exact congrArg (Value.int .i64) (by omega)⟩
              case measure => simp [intOf]; omega
            · obtain rfl : j = 1970 := by omega
              go_wp2
              go_ret2
              exact ⟨ret2_int (by unfold Cal.num; rw [Cal.fst_1970]; omega) rfl, rfl⟩
      · have hm := Cal.fst_mono 1970 y (by omega) (by omega)
        rw [Cal.fst_1970] at hm
        go_loop [8, 10] (fun n i => ∃ j : Int, 1970 ≤ j ∧ j ≤ y ∧ i = .int .i64 j ∧ n = .int .i64 (d - 1 + Cal.cum y k + Cal.fst j - 719528)) (fun _ i => (10000 - intOf i).toNat)
        case atStart => exact ⟨1970, by omega, by omega, rfl, congrArg (Value.int .i64) (by rw [Cal.fst_1970]; omega)⟩
        case round =>
          obtain ⟨j, hj1, hj2, rfl, rfl⟩ := hrel
          have bj := Cal.fst_bd j (by omega) (by omega)
          have bl := Cal.lp_01 j
          by_cases hlt : j < y
          · have cs := Cal.fst_succ j (by omega)
            have CS := Lib.hid cs
            clear cs
            go_wp2_with (go_at_call 22; refine (ryear_any _ _).mono ?_; rintro e w2 ⟨rfl, rfl⟩)
            go_round
            case rel => exact ⟨j + 1, by omega, by omega, rfl, by rw [CS.out]; exact congrArg (Value.int .i64) (by omega)⟩
            case measure => simp [intOf]; omega
          · obtain rfl : j = y := by omega
            go_wp2_with fail
            go_loop [8, 11] (fun n i => n = .int .i64 (d - 1 + Cal.cum j k + Cal.fst j - 719528) ∧ i = .int .i64 j) (fun _ _ => 0)
            case atStart => exact ⟨rfl, rfl⟩
            case round =>
              obtain ⟨rfl, rfl⟩ := hrel
              go_wp2
              go_ret2
              exact ⟨ret2_int (by unfold Cal.num; omega) rfl, rfl⟩
end Go.Proofs.Yteodjcaoklbopaa
