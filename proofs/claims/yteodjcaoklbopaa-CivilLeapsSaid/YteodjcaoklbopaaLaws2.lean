/- The walks of the calendar's laws, continued. -/
import Derived.Test.YteodjcaoklbopaaLaws
import Derived.Deep.QuietTactic
import Derived.BigQuiet
namespace Go.Proofs.Yteodjcaoklbopaa
open Go.RowKit

set_option maxHeartbeats 1000000 in
theorem law_leaps (n : Int) (w : World) : Calls Try.prog 9 #[.int .i64 n] w fun e w' => e = .returned (.bool true) ∧ Below w.heap.size w w' := by
  by_cases hv : n < 0 ∨ 9999 < n
  · have hv' : Cal.vld n 2 28 = false := by simp [Cal.vld]; omega
    have HV' := Lib.hid hv'
    clear hv'
    rcases hv with h | h
    all_goals
      go_enter Try.func9, Try.ntmps9
      go_wp2_with fail
      refine (awake_any _).mono ?_
      rintro e w1 ⟨rfl, hb1⟩
      have hz1 := hb1.size
      go_wp2_with fail
      refine (days_no _ _ _ HV'.out _).mono ?_
      rintro e w3 ⟨rfl, hb3⟩
      go_wp2_with fail
      go_ret
      exact ⟨ret_bool (by simp), below_call hb1 (by omega) hb3⟩
  · have h1 : 0 ≤ n := by omega
    have h2 : n ≤ 9999 := by omega
    clear hv
    have HA : Hid (Cal.vld n 1 1 = true) := Lib.hid (Cal.vld_mk (by simp [Cal.dim]; omega))
    have HB : Hid (Cal.vld n 12 31 = true) := Lib.hid (Cal.vld_mk (by simp [Cal.dim]; omega))
    have HD : Hid (Cal.num n 12 31 = Cal.num n 1 1 + 364 + Cal.lp n) := Lib.hid (by simp [Cal.num, Cal.cum, Cal.tbl]; omega)
    have bb := Cal.num_bd HA.out
    by_cases hl : Cal.leapB n = true
    · have HC : Hid (Cal.vld n 2 29 = true) := Lib.hid (Cal.vld_mk (by simp [Cal.dim, Cal.lp, hl]; omega))
      have HP : Hid (Cal.lp n = 1) := Lib.hid (by simp [Cal.lp, hl])
      have HL := Lib.hid hl
      clear hl
      go_enter Try.func9, Try.ntmps9
      go_wp2_with fail
      refine (awake_any _).mono ?_
      rintro e w1 ⟨rfl, hb1⟩
      have hz1 := hb1.size
      go_wp2_with fail
      refine (days_yes _ _ _ HC.out _).mono ?_
      rintro e w2 ⟨rfl, hb2⟩
      have hz2 := hb2.size
      go_wp2_with fail
      refine (days_yes _ _ _ HA.out _).mono ?_
      rintro e w3 ⟨rfl, hb3⟩
      have hz3 := hb3.size
      go_wp2_with fail
      refine (days_yes _ _ _ HB.out _).mono ?_
      rw [HD.out, HP.out]
      rintro e w4 ⟨rfl, hb4⟩
      go_wp2_with fail
      refine (leap_any _ _).mono ?_
      rw [HL.out]
      rintro e w5 ⟨rfl, rfl⟩
      go_wp2_with fail
      refine (leap_any _ _).mono ?_
      rw [HL.out]
      rintro e w5 ⟨rfl, rfl⟩
      go_wp2_with fail
      go_ret
      exact ⟨ret_bool (by simp; omega), below_call (below_call (below_call hb1 (by omega) hb2) (by omega) hb3) (by omega) hb4⟩
    · have hl : Cal.leapB n = false := by simpa using hl
      have HC : Hid (Cal.vld n 2 29 = false) := Lib.hid (by simp [Cal.vld, Cal.dim, Cal.lp, hl])
      have HP : Hid (Cal.lp n = 0) := Lib.hid (by simp [Cal.lp, hl])
      have HL := Lib.hid hl
      clear hl
      go_enter Try.func9, Try.ntmps9
      go_wp2_with fail
      refine (awake_any _).mono ?_
      rintro e w1 ⟨rfl, hb1⟩
      have hz1 := hb1.size
      go_wp2_with fail
      refine (days_no _ _ _ HC.out _).mono ?_
      rintro e w2 ⟨rfl, hb2⟩
      have hz2 := hb2.size
      go_wp2_with fail
      refine (days_yes _ _ _ HA.out _).mono ?_
      rintro e w3 ⟨rfl, hb3⟩
      have hz3 := hb3.size
      go_wp2_with fail
      refine (days_yes _ _ _ HB.out _).mono ?_
      rw [HD.out, HP.out]
      rintro e w4 ⟨rfl, hb4⟩
      go_wp2_with fail
      refine (leap_any _ _).mono ?_
      rw [HL.out]
      rintro e w5 ⟨rfl, rfl⟩
      go_wp2_with fail
      refine (leap_any _ _).mono ?_
      rw [HL.out]
      rintro e w5 ⟨rfl, rfl⟩
      go_wp2_with fail
      go_ret
      exact ⟨ret_bool (by simp; omega), below_call (below_call (below_call hb1 (by omega) hb2) (by omega) hb3) (by omega) hb4⟩

theorem wf_i16 {a : Int} (h : (Lit.int .i16 a).wf = true) : -32768 ≤ a ∧ a ≤ 32767 := by
  simpa [Lit.wf, IntKind.min, IntKind.max, IntKind.signed, IntKind.bits] using h

/-- a boxed array of three, seen from any later world. -/
theorem box3 {w wk : World} {x y z : Value} {T : TypeId} (h : Below (w.alloc (.cells #[x, y, z] T)).heap.size (w.alloc (.cells #[x, y, z] T)) wk) :
    wk.cell? ⟨w.heap.size, 0, none⟩ = some x ∧ wk.cell? ⟨w.heap.size, 1, none⟩ = some y ∧ wk.cell? ⟨w.heap.size, 2, none⟩ = some z := by
  refine ⟨?_, ?_, ?_⟩ <;> (rw [h.cell (by simp)]; simp [go_sem])
theorem unbox {w wk : World} {o : Obj} (h : Below (w.alloc o).heap.size (w.alloc o) wk) : Below w.heap.size w wk :=
  ((Below.refl _ _).alloc (Nat.le_refl _) _).trans (h.mono (by simp))
theorem unbox' {w wk : World} {o o' : Obj} (h : Below ((w.alloc o).alloc o').heap.size ((w.alloc o).alloc o') wk) : Below (w.alloc o).heap.size (w.alloc o) wk := unbox h

set_option maxHeartbeats 1000000 in
theorem law_trips (n a b c : Int) (ha : (Lit.int .i16 a).wf = true) (hb : (Lit.int .i16 b).wf = true) (hc : (Lit.int .i16 c).wf = true) (w : World) :
    Calls Try.prog 5 #[.int .i64 n, .agg #[.int .i16 a, .int .i16 b, .int .i16 c]] w fun e w' => e = .returned (.bool true) ∧ Below w.heap.size w w' := by
  have ba := wf_i16 ha
  have bb := wf_i16 hb
  have bc := wf_i16 hc
  clear ha hb hc
  go_enter Try.func5, Try.ntmps5
  go_wp2_with fail
  refine (awake_any _).mono ?_
  rintro e w1 ⟨rfl, hb1⟩
  have hz1 := hb1.size
  go_wp2_with fail
  by_cases hv : -719528 ≤ n ∧ n ≤ 2932896
  · obtain ⟨h1, h2⟩ := hv
    refine (date_yes _ h1 h2 _).mono ?_
    rintro e w2 ⟨y, m, d, rfl, hv, hn, hb2⟩
    have hz2 := hb2.size
    have HN := Lib.hid hn
    have HV := Lib.hid hv
    clear hn hv
    go_wp2_with fail
    refine (days_yes _ _ _ HV.out _).mono ?_
    rw [HN.out]
    rintro e w3 ⟨rfl, hb3⟩
    have hz3 := hb3.size
    have HB := below_call (below_call hb1 hz1 hb2) (Nat.le_trans hz1 hz2) hb3
    clear hb1 hb2 hb3
    obtain ⟨c0, c1, c2⟩ := box3 HB
    go_wp2_with fail
    by_cases hd : Cal.vld a b c = true
    · refine (days_yes _ _ _ hd _).mono ?_
      rintro e w4 ⟨rfl, hb4⟩
      have hz4 := hb4.size
      have bn := Cal.num_bd hd
      have HD := Lib.hid hd
      clear hd c0 c1 c2
      go_wp2_with fail
      refine (date_yes _ bn.1 bn.2 _).mono ?_
      rintro e w5 ⟨y', m', d', rfl, hv5, hn5, hb5⟩
      obtain ⟨rfl, rfl, rfl⟩ := Cal.num_inj hv5 HD.out hn5
      clear hv5 hn5
      have HB' := below_call (below_call HB (by omega) hb4) (by omega) hb5
      clear hb4 hb5
      obtain ⟨c0, c1, c2⟩ := box3 HB'
      go_wp2_with fail
      go_ret
      exact ⟨ret_bool (by simp), unbox HB'⟩
    · refine (days_no _ _ _ (by simpa using hd) _).mono ?_
      rintro e w4 ⟨rfl, hb4⟩
      go_wp2_with fail
      go_ret
      exact ⟨ret_bool (by simp), unbox (below_call HB (by omega) hb4)⟩
  · refine (date_no _ (by omega) _).mono ?_
    rintro e w3 ⟨rfl, rfl⟩
    have HB := hb1
    have hz3 := hz1
    clear hb1 hz1
    obtain ⟨c0, c1, c2⟩ := box3 HB
    go_wp2_with fail
    by_cases hd : Cal.vld a b c = true
    · refine (days_yes _ _ _ hd _).mono ?_
      rintro e w4 ⟨rfl, hb4⟩
      have hz4 := hb4.size
      have bn := Cal.num_bd hd
      have HD := Lib.hid hd
      clear hd c0 c1 c2
      go_wp2_with fail
      refine (date_yes _ bn.1 bn.2 _).mono ?_
      rintro e w5 ⟨y', m', d', rfl, hv5, hn5, hb5⟩
      obtain ⟨rfl, rfl, rfl⟩ := Cal.num_inj hv5 HD.out hn5
      clear hv5 hn5
      have HB' := below_call (below_call HB (by omega) hb4) (by omega) hb5
      clear hb4 hb5
      obtain ⟨c0, c1, c2⟩ := box3 HB'
      go_wp2_with fail
      go_ret
      exact ⟨ret_bool (by simp), unbox HB'⟩
    · refine (days_no _ _ _ (by simpa using hd) _).mono ?_
      rintro e w4 ⟨rfl, hb4⟩
      go_wp2_with fail
      go_ret
      exact ⟨ret_bool (by simp), unbox (below_call HB (by omega) hb4)⟩
theorem box3' {w wk : World} {x y z : Value} {T : TypeId} {o : Obj} (h : Below ((w.alloc (.cells #[x, y, z] T)).alloc o).heap.size ((w.alloc (.cells #[x, y, z] T)).alloc o) wk) :
    wk.cell? ⟨w.heap.size, 0, none⟩ = some x ∧ wk.cell? ⟨w.heap.size, 1, none⟩ = some y ∧ wk.cell? ⟨w.heap.size, 2, none⟩ = some z := box3 (unbox' h)
theorem eq3 (a b c a' b' c' : Int) (w : World) :
    (Op.equalIn 10000 35 (.agg #[.int .i16 a, .int .i16 b, .int .i16 c]) (.agg #[.int .i16 a', .int .i16 b', .int .i16 c'])).run Try.prog w = .ok (a == a' && (b == b' && c == c')) w := by
  have hs : (Try.prog.info? 34).isSome = true := by kernel_rfl
  obtain ⟨i, hi⟩ := Option.isSome_iff_exists.1 hs
  have h1 : Try.prog.cellsOf 34 = 1 := by kernel_rfl
  rw [run_equalIn_array w 9999 _ _ Try.underlying35 hi, h1]
  simp only [List.range, List.range.loop, Op.eqItems]
  simp [go_sem]
  by_cases e1 : a = a' <;> by_cases e2 : b = b' <;> by_cases e3 : c = c' <;> simp [e1, e2, e3]
theorem num_beq {a b c a' b' c' : Int} (h : Cal.vld a b c = true) (h' : Cal.vld a' b' c' = true) :
    ((a == a' && (b == b' && c == c')) == (Cal.num a b c == Cal.num a' b' c')) = true := by
  by_cases e : Cal.num a b c = Cal.num a' b' c'
  · obtain ⟨rfl, rfl, rfl⟩ := Cal.num_inj h h' e
    simp
  · have e1 : (Cal.num a b c == Cal.num a' b' c') = false := by simpa using e
    have e2 : (a == a' && (b == b' && c == c')) = false := by
      rw [Bool.eq_false_iff]
      intro hh
      simp at hh
      exact e (by rw [hh.1, hh.2.1, hh.2.2])
    rw [e1, e2]; rfl
def lxs (p q : Int) (l : Bool) : Bool := if p = q then l else decide (p < q)
theorem lxs_eq {p q : Int} {l : Bool} (h : p = q) : lxs p q l = l := by simp [lxs, h]
theorem lxs_ne {p q : Int} {l : Bool} (h : ¬ p = q) : lxs p q l = decide (p < q) := by simp [lxs, h]
theorem lxs_num {a b c a' b' c' : Int} (h : Cal.vld a b c = true) (h' : Cal.vld a' b' c' = true) :
    lxs a a' (lxs b b' (lxs c c' false)) = decide (Cal.num a b c < Cal.num a' b' c') := by
  by_cases e1 : a = a'
  · by_cases e2 : b = b'
    · by_cases e3 : c = c'
      · subst e1 e2 e3; simp [lxs]
      · rw [lxs_eq e1, lxs_eq e2, lxs_ne e3]
        by_cases hl : c < c'
        · have := Cal.num_lt h h' (by omega); simp [hl, this]
        · have := Cal.num_lt h' h (by omega); simp [hl]; omega
    · rw [lxs_eq e1, lxs_ne e2]
      by_cases hl : b < b'
      · have := Cal.num_lt h h' (by omega); simp [hl, this]
      · have := Cal.num_lt h' h (by omega); simp [hl]; omega
  · rw [lxs_ne e1]
    by_cases hl : a < a'
    · have := Cal.num_lt h h' (by omega); simp [hl, this]
    · have := Cal.num_lt h' h (by omega); simp [hl]; omega
set_option maxHeartbeats 1000000 in
theorem law_orders (a b c a' b' c' : Int) (ha : (Lit.int .i16 a).wf = true) (hb : (Lit.int .i16 b).wf = true) (hc : (Lit.int .i16 c).wf = true) (ha' : (Lit.int .i16 a').wf = true) (hb' : (Lit.int .i16 b').wf = true) (hc' : (Lit.int .i16 c').wf = true) (w : World) :
    Calls Try.prog 7 #[.agg #[.int .i16 a, .int .i16 b, .int .i16 c], .agg #[.int .i16 a', .int .i16 b', .int .i16 c']] w fun e w' => e = .returned (.bool true) ∧ Below w.heap.size w w' := by
  have xa := wf_i16 ha
  have xb := wf_i16 hb
  have xc := wf_i16 hc
  have xa' := wf_i16 ha'
  have xb' := wf_i16 hb'
  have xc' := wf_i16 hc'
  clear ha hb hc ha' hb' hc'
  go_enter Try.func7, Try.ntmps7
  go_wp2_with fail
  refine (awake_any _).mono ?_
  rintro e w1 ⟨rfl, hb1⟩
  have hz1 := hb1.size
  simp only [World.size_alloc] at hz1
  obtain ⟨c0, c1, c2⟩ := box3' hb1
  obtain ⟨d0, d1, d2⟩ := box3 hb1
  simp only [World.size_alloc] at d0 d1 d2
  by_cases hd : Cal.vld a b c = true
  case neg =>
    go_wp2_with fail
    refine (days_no _ _ _ (by simpa using hd) _).mono ?_
    rintro e w2 ⟨rfl, hb2⟩
    have hz2 := hb2.size
    have HB := below_call hb1 (by simp; omega) hb2
    clear hb1 hb2 c0 c1 c2 d0 d1 d2
    obtain ⟨d0, d1, d2⟩ := box3 HB
    simp only [World.size_alloc] at d0 d1 d2
    go_wp2_with fail
    by_cases hd' : Cal.vld a' b' c' = true
    · refine (days_yes _ _ _ hd' _).mono ?_
      rintro e w3 ⟨rfl, hb3⟩
      go_wp2_with fail
      go_ret
      exact ⟨ret_bool (by simp), unbox (unbox' (below_call HB (by simp; omega) hb3))⟩
    · refine (days_no _ _ _ (by simpa using hd') _).mono ?_
      rintro e w3 ⟨rfl, hb3⟩
      go_wp2_with fail
      go_ret
      exact ⟨ret_bool (by simp), unbox (unbox' (below_call HB (by simp; omega) hb3))⟩
  case pos =>
    go_wp2_with fail
    refine (days_yes _ _ _ hd _).mono ?_
    rintro e w2 ⟨rfl, hb2⟩
    have hz2 := hb2.size
    have HB := below_call hb1 (by simp; omega) hb2
    clear hb1 hb2 c0 c1 c2 d0 d1 d2
    obtain ⟨d0, d1, d2⟩ := box3 HB
    simp only [World.size_alloc] at d0 d1 d2
    go_wp2_with fail
    by_cases hd' : Cal.vld a' b' c' = true
    case neg =>
      refine (days_no _ _ _ (by simpa using hd') _).mono ?_
      rintro e w3 ⟨rfl, hb3⟩
      go_wp2_with fail
      go_ret
      exact ⟨ret_bool (by simp), unbox (unbox' (below_call HB (by simp; omega) hb3))⟩
    case pos =>
      refine (days_yes _ _ _ hd' _).mono ?_
      rintro e w3 ⟨rfl, hb3⟩
      have hz3 := hb3.size
      have HC := below_call HB (by simp; omega) hb3
      clear HB hb3 d0 d1 d2
      obtain ⟨c0, c1, c2⟩ := box3' HC
      obtain ⟨d0, d1, d2⟩ := box3 HC
      simp only [World.size_alloc] at d0 d1 d2
      go_wp2_with fail
      have HN := Lib.hid (lxs_num hd hd')
      have HV := Lib.hid hd
      have HV' := Lib.hid hd'
      clear hd hd'
      have he := eq3 a b c a' b' c'
      go_loopw [9, 10] (fun l i wr => ∃ q : Nat, wr = w3.drewN q ∧ ((i = .int .i64 2 ∧ l = .bool false) ∨ (i = .int .i64 1 ∧ l = .bool (lxs c c' false)) ∨ (i = .int .i64 0 ∧ l = .bool (lxs b b' (lxs c c' false))) ∨ (i = .int .i64 (-1) ∧ l = .bool (lxs a a' (lxs b b' (lxs c c' false)))))) (fun _ i _ => (intOf i + 1).toNat)
      case atStart => exact ⟨0, rfl, Or.inl ⟨rfl, rfl⟩⟩
      case round =>
        obtain ⟨q, rfl, hrel⟩ := hrel
        rcases hrel with ⟨rfl, rfl⟩ | ⟨rfl, rfl⟩ | ⟨rfl, rfl⟩ | ⟨rfl, rfl⟩
        · by_cases e : c = c'
          · have HE := Lib.hid (lxs_eq (l := false) e)
            have et : (c != c') = false := by simpa using e
            clear e
            go_wp2_with fail
            go_quiet (fail)
            go_wp2_with fail
            go_roundw
            case rel => exact ⟨_, rfl, Or.inr (Or.inl ⟨rfl, by rw [HE.out]⟩)⟩
            case measure => simp [intOf]
          · have HE := Lib.hid (lxs_ne (l := false) e)
            have et : (c != c') = true := by simpa using e
            clear e
            go_wp2_with fail
            go_quiet (fail)
            go_wp2_with fail
            go_quiet (fail)
            go_wp2_with fail
            go_roundw
            case rel => exact ⟨_, rfl, Or.inr (Or.inl ⟨rfl, by rw [HE.out]⟩)⟩
            case measure => simp [intOf]
        · by_cases e : b = b'
          · have HE := Lib.hid (lxs_eq (l := lxs c c' false) e)
            have et : (b != b') = false := by simpa using e
            clear e
            go_wp2_with fail
            go_quiet (fail)
            go_wp2_with fail
            go_roundw
            case rel => exact ⟨_, rfl, Or.inr (Or.inr (Or.inl ⟨rfl, by rw [HE.out]⟩))⟩
            case measure => simp [intOf]
          · have HE := Lib.hid (lxs_ne (l := lxs c c' false) e)
            have et : (b != b') = true := by simpa using e
            clear e
            go_wp2_with fail
            go_quiet (fail)
            go_wp2_with fail
            go_quiet (fail)
            go_wp2_with fail
            go_roundw
            case rel => exact ⟨_, rfl, Or.inr (Or.inr (Or.inl ⟨rfl, by rw [HE.out]⟩))⟩
            case measure => simp [intOf]
        · by_cases e : a = a'
          · have HE := Lib.hid (lxs_eq (l := lxs b b' (lxs c c' false)) e)
            have et : (a != a') = false := by simpa using e
            clear e
            go_wp2_with fail
            go_quiet (fail)
            go_wp2_with fail
            go_roundw
            case rel => exact ⟨_, rfl, Or.inr (Or.inr (Or.inr ⟨rfl, by rw [HE.out]⟩))⟩
            case measure => simp [intOf]
          · have HE := Lib.hid (lxs_ne (l := lxs b b' (lxs c c' false)) e)
            have et : (a != a') = true := by simpa using e
            clear e
            go_wp2_with fail
            go_quiet (fail)
            go_wp2_with fail
            go_quiet (fail)
            go_wp2_with fail
            go_roundw
            case rel => exact ⟨_, rfl, Or.inr (Or.inr (Or.inr ⟨rfl, by rw [HE.out]⟩))⟩
            case measure => simp [intOf]
        · go_wp2_with fail
          · go_ret
            exact ⟨ret_bool (num_beq HV.out HV'.out), unbox (unbox' (below_drewN HC _))⟩
end Go.Proofs.Yteodjcaoklbopaa
