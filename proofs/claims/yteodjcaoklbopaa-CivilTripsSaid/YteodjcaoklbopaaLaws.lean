/- The walks of the calendar's laws. -/
import Derived.Test.YteodjcaoklbopaaDays
import Derived.Test.YteodjcaoklbopaaDaysR
import Derived.Test.YteodjcaoklbopaaDates
namespace Go.Proofs.Yteodjcaoklbopaa
open Go.RowKit

theorem num_now : Cal.num 2026 11 16 = 20773 := by decide
theorem vld_now : Cal.vld 2026 11 16 = true := by decide
theorem num_eve : Cal.num 1969 12 31 = -1 := by decide
theorem vld_eve : Cal.vld 1969 12 31 = true := by decide

set_option maxHeartbeats 1000000 in
theorem awake_any (w : World) : Calls Try.prog 10 #[] w fun e w' => e = .returned (.bool true) ∧ Below w.heap.size w w' := by
  go_enter Try.func10, Try.ntmps10
  go_wp2_with fail
  refine (days_yes _ _ _ vld_now _).mono ?_
  rw [num_now]
  rintro e w1 ⟨rfl, hb1⟩
  have hz1 := hb1.size
  go_wp2_with fail
  refine (date_yes _ (by omega) (by omega) _).mono ?_
  rintro e w2 ⟨y, m, d, rfl, hv, hn, hb2⟩
  obtain ⟨rfl, rfl, rfl⟩ := Cal.num_inj hv vld_eve (hn.trans num_eve.symm)
  clear hn hv
  go_wp2_with (go_at_call 17; refine (weekday_any _ _).mono ?_; rintro e w3 ⟨rfl, rfl⟩)
  go_ret
  exact ⟨rfl, below_call hb1 (by omega) hb2⟩

set_option maxHeartbeats 1000000 in
theorem law_days (y m d : Int) (w : World) : Calls Try.prog 3 #[.int .i64 y, .int .i64 m, .int .i64 d] w fun e w' => e = .returned (.bool true) ∧ Below w.heap.size w w' := by
  by_cases hv : Cal.vld y m d = true
  · go_enter Try.func3, Try.ntmps3
    go_wp2_with fail
    refine (awake_any _).mono ?_
    rintro e w1 ⟨rfl, hb1⟩
    have hz1 := hb1.size
    go_wp2_with fail
    refine (days_yes _ _ _ hv _).mono ?_
    rintro e w2 ⟨rfl, hb2⟩
    have hz2 := hb2.size
    go_wp2_with fail
    refine (rdays_yes _ _ _ hv _).mono ?_
    rintro e w3 ⟨rfl, rfl⟩
    go_wp2_with fail
    refine (leap_any _ _).mono ?_
    rintro e w3 ⟨rfl, rfl⟩
    go_wp2_with fail
    refine (rleap_any _ _).mono ?_
    rintro e w3 ⟨rfl, rfl⟩
    go_wp2_with fail
    go_ret
    exact ⟨ret_bool (by simp), below_call hb1 (by omega) hb2⟩
  · have hv : Cal.vld y m d = false := by simpa using hv
    go_enter Try.func3, Try.ntmps3
    go_wp2_with fail
    refine (awake_any _).mono ?_
    rintro e w1 ⟨rfl, hb1⟩
    have hz1 := hb1.size
    go_wp2_with fail
    refine (days_no _ _ _ hv _).mono ?_
    rintro e w2 ⟨rfl, hb2⟩
    have hz2 := hb2.size
    go_wp2_with fail
    refine (rdays_no _ _ _ hv _).mono ?_
    rintro e w3 ⟨rfl, rfl⟩
    go_wp2_with fail
    refine (leap_any _ _).mono ?_
    rintro e w3 ⟨rfl, rfl⟩
    go_wp2_with fail
    refine (rleap_any _ _).mono ?_
    rintro e w3 ⟨rfl, rfl⟩
    go_wp2_with fail
    go_ret
    exact ⟨ret_bool (by simp), below_call hb1 (by omega) hb2⟩

set_option maxHeartbeats 1000000 in
theorem law_dates (n : Int) (w : World) : Calls Try.prog 4 #[.int .i64 n] w fun e w' => e = .returned (.bool true) ∧ Below w.heap.size w w' := by
  by_cases hv : -719528 ≤ n ∧ n ≤ 2932896
  · obtain ⟨h1, h2⟩ := hv
    go_enter Try.func4, Try.ntmps4
    go_wp2_with fail
    refine (awake_any _).mono ?_
    rintro e w1 ⟨rfl, hb1⟩
    have hz1 := hb1.size
    go_wp2_with fail
    refine (date_yes _ h1 h2 _).mono ?_
    rintro e w2 ⟨y, m, d, rfl, hv, hn, hb2⟩
    have hz2 := hb2.size
    have HN := Lib.hid hn
    clear hn
    go_wp2_with fail
    refine (rdate_yes _ h1 h2 _).mono ?_
    rintro e w3 ⟨y', m', d', rfl, hv', hn', hb3⟩
    obtain ⟨rfl, rfl, rfl⟩ := Cal.num_inj hv hv' (HN.out.trans hn'.symm)
    clear hn'
    go_wp2_with fail
    go_ret
    exact ⟨ret_bool (by simp), below_call (below_call hb1 (by omega) hb2) (by omega) hb3⟩
  · have hv : n < -719528 ∨ 2932896 < n := by omega
    go_enter Try.func4, Try.ntmps4
    go_wp2_with fail
    refine (awake_any _).mono ?_
    rintro e w1 ⟨rfl, hb1⟩
    go_wp2_with fail
    refine (date_no _ hv _).mono ?_
    rintro e w2 ⟨rfl, rfl⟩
    go_wp2_with fail
    refine (rdate_no _ hv _).mono ?_
    rintro e w3 ⟨rfl, rfl⟩
    go_wp2_with fail
    go_ret
    exact ⟨ret_bool (by simp), hb1⟩

set_option maxHeartbeats 1000000 in
theorem law_weeks (n : Int) (hw : (Lit.int .i64 n).wf = true) (w : World) : Calls Try.prog 6 #[.int .i64 n] w fun e w' => e = .returned (.bool true) ∧ Below w.heap.size w w' := by
  have hbd : -9223372036854775808 ≤ n ∧ n ≤ 9223372036854775807 := by simpa [Lit.wf, IntKind.min, IntKind.max, IntKind.signed, IntKind.bits] using hw
  by_cases hl : n = 9223372036854775807
  · have hl' : (n == 9223372036854775807) = true := by simpa using hl
    clear hl hw hbd
    go_enter Try.func6, Try.ntmps6
    go_wp2_with fail
    refine (awake_any _).mono ?_
    rintro e w1 ⟨rfl, hb1⟩
    go_wp2_with fail
    refine (weekday_any _ _).mono ?_
    rintro e w3 ⟨rfl, rfl⟩
    go_wp2_with fail
    refine (rweekday_any _ _).mono ?_
    rintro e w3 ⟨rfl, rfl⟩
    go_wp2_with fail
    go_ret
    exact ⟨ret_bool (by simp), hb1⟩
  · have hl' : (n == 9223372036854775807) = false := by simpa using hl
    have h2 : n ≤ 9223372036854775806 := by omega
    have h1 : -9223372036854775808 ≤ n := hbd.1
    clear hl hw hbd
    go_enter Try.func6, Try.ntmps6
    go_wp2_with fail
    refine (awake_any _).mono ?_
    rintro e w1 ⟨rfl, hb1⟩
    go_wp2_with fail
    refine (weekday_any _ _).mono ?_
    rintro e w3 ⟨rfl, rfl⟩
    go_wp2_with fail
    refine (rweekday_any _ _).mono ?_
    rintro e w3 ⟨rfl, rfl⟩
    go_wp2_with fail
    refine (weekday_any _ _).mono ?_
    rintro e w3 ⟨rfl, rfl⟩
    go_wp2_with fail
    go_ret
    exact ⟨ret_bool (by simp; omega), hb1⟩

set_option maxHeartbeats 1000000 in
theorem law_cycles (n : Int) (w : World) : Calls Try.prog 8 #[.int .i64 n] w fun e w' => e = .returned (.bool true) ∧ Below w.heap.size w w' := by
  by_cases hv : -719528 ≤ n ∧ n ≤ 2932896
  · obtain ⟨h1, h2⟩ := hv
    go_enter Try.func8, Try.ntmps8
    go_wp2_with fail
    refine (awake_any _).mono ?_
    rintro e w1 ⟨rfl, hb1⟩
    have hz1 := hb1.size
    go_wp2_with fail
    refine (date_yes _ h1 h2 _).mono ?_
    rintro e w2 ⟨y, m, d, rfl, hv, hn, hb2⟩
    have hz2 := hb2.size
    have hvo := Cal.vld_of hv
    have HN := Lib.hid hn
    clear hn
    by_cases hy : 9599 < y
    · have hv' : Cal.vld (y + 400) m d = false := by simp [Cal.vld]; omega
      have HV := Lib.hid hv
      have HV' := Lib.hid hv'
      clear hv hv'
      go_wp2_with fail
      refine (days_no _ _ _ HV'.out _).mono ?_
      rintro e w3 ⟨rfl, hb3⟩
      go_wp2_with fail
      go_ret
      exact ⟨ret_bool (by simp), below_call (below_call hb1 (by omega) hb2) (by omega) hb3⟩
    · have hv' : Cal.vld (y + 400) m d = true := by
        have := Cal.dim_400 y m (by omega)
        exact Cal.vld_mk (by omega)
      have hn' : Cal.num (y + 400) m d = n + 146097 := by
        have e1 := Cal.fst_400 y (by omega)
        have e2 := Cal.cum_400 y m (by omega)
        have := HN.out
        unfold Cal.num at *
        omega
      have HL := Lib.hid (Cal.leapB_400 y (by omega))
      have HV := Lib.hid hv
      have HV' := Lib.hid hv'
      have HN' := Lib.hid hn'
      clear hv hv' hn'
      go_wp2_with fail
      refine (days_yes _ _ _ HV'.out _).mono ?_
      rw [HN'.out]
      rintro e w3 ⟨rfl, hb3⟩
      go_wp2_with fail
      refine (weekday_any _ _).mono ?_
      rintro e w4 ⟨rfl, rfl⟩
      go_wp2_with fail
      refine (weekday_any _ _).mono ?_
      rintro e w4 ⟨rfl, rfl⟩
      have HD : (n + 146097 + 3) % 7 = (n + 3) % 7 := by omega
      rw [HD]
      clear HD
      go_wp2_with fail
      refine (leap_any _ _).mono ?_
      rintro e w4 ⟨rfl, rfl⟩
      go_wp2_with fail
      refine (leap_any _ _).mono ?_
      rw [HL.out]
      rintro e w4 ⟨rfl, rfl⟩
      go_wp2_with fail
      go_ret
      exact ⟨ret_bool (by simp), below_call (below_call hb1 (by omega) hb2) (by omega) hb3⟩
  · have hv : n < -719528 ∨ 2932896 < n := by omega
    go_enter Try.func8, Try.ntmps8
    go_wp2_with fail
    refine (awake_any _).mono ?_
    rintro e w1 ⟨rfl, hb1⟩
    go_wp2_with fail
    refine (date_no _ hv _).mono ?_
    rintro e w2 ⟨rfl, rfl⟩
    go_wp2_with fail
    go_ret
    exact ⟨ret_bool (by simp), hb1⟩
end Go.Proofs.Yteodjcaoklbopaa
