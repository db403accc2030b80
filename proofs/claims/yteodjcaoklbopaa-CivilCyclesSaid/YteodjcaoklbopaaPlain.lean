/- Plain arithmetic of the proleptic calendar: no program in sight. -/
namespace Go.Proofs.Yteodjcaoklbopaa
namespace Cal
def leapB (y : Int) : Bool := (y.tmod 4 == 0) && (!(y.tmod 100 == 0) || (y.tmod 400 == 0))
def lp (y : Int) : Int := if leapB y = true then 1 else 0
def dim (y m : Int) : Int := if m = 2 then 28 + lp y else if m = 4 ∨ m = 6 ∨ m = 9 ∨ m = 11 then 30 else 31
def tbl (m : Int) : Int := if m ≤ 3 then 59 else if m ≤ 4 then 90 else if m ≤ 5 then 120 else if m ≤ 6 then 151 else if m ≤ 7 then 181 else if m ≤ 8 then 212 else if m ≤ 9 then 243 else if m ≤ 10 then 273 else if m ≤ 11 then 304 else if m ≤ 12 then 334 else 365
def cum (y m : Int) : Int := if m ≤ 1 then 0 else if m ≤ 2 then 31 else tbl m + lp y
def fst (y : Int) : Int := 365 * y + (y + 3) / 4 - (y + 99) / 100 + (y + 399) / 400
def num (y m d : Int) : Int := fst y + cum y m + d - 1 - 719528
def vld (y m d : Int) : Bool := decide (0 ≤ y) && decide (y ≤ 9999) && decide (1 ≤ m) && decide (m ≤ 12) && decide (1 ≤ d) && decide (d ≤ dim y m)

theorem lp_01 (y : Int) : 0 ≤ lp y ∧ lp y ≤ 1 := by unfold lp; split <;> omega
theorem leapB_iff (y : Int) (h : 0 ≤ y) : leapB y = true ↔ (y % 4 = 0 ∧ (y % 100 ≠ 0 ∨ y % 400 = 0)) := by
  unfold leapB
  rw [Int.tmod_eq_emod_of_nonneg h, Int.tmod_eq_emod_of_nonneg h, Int.tmod_eq_emod_of_nonneg h]
  simp
theorem fst_succ (y : Int) (h : 0 ≤ y) : fst (y + 1) = fst y + 365 + lp y := by
  unfold lp
  have hl := leapB_iff y h
  unfold fst
  by_cases c : leapB y = true
  · rw [if_pos c]; have := hl.1 c; omega
  · rw [if_neg c]
    have : ¬ (y % 4 = 0 ∧ (y % 100 ≠ 0 ∨ y % 400 = 0)) := fun hh => c (hl.2 hh)
    omega
theorem fst_mono (a b : Int) (h0 : 0 ≤ a) (h : a ≤ b) : fst a + 365 * (b - a) ≤ fst b := by unfold fst; omega
theorem fst_bd (a : Int) (h0 : 0 ≤ a) (h : a ≤ 10000) : 0 ≤ fst a ∧ fst a ≤ 3652425 := by unfold fst; omega
theorem fst_guess (n : Int) (h0 : 0 ≤ n) : fst (n / 366) ≤ n := by unfold fst; omega
theorem fst_1970 : fst 1970 = 719528 := by decide
theorem fst_10000 : fst 10000 = 3652425 := by decide
theorem dim_bd (y m : Int) : 28 ≤ dim y m ∧ dim y m ≤ 31 := by
  have := lp_01 y
  unfold dim; split
  · omega
  · split <;> omega
theorem cum_one (y : Int) : cum y 1 = 0 := rfl
theorem cum_succ (y m : Int) (h1 : 1 ≤ m) (h2 : m ≤ 12) : cum y (m + 1) = cum y m + dim y m := by
  have hc : m = 1 ∨ m = 2 ∨ m = 3 ∨ m = 4 ∨ m = 5 ∨ m = 6 ∨ m = 7 ∨ m = 8 ∨ m = 9 ∨ m = 10 ∨ m = 11 ∨ m = 12 := by omega
  rcases hc with rfl | rfl | rfl | rfl | rfl | rfl | rfl | rfl | rfl | rfl | rfl | rfl <;> simp [cum, dim, tbl] <;> omega
theorem tbl_bd (m : Int) : 59 ≤ tbl m ∧ tbl m ≤ 365 := by
  unfold tbl
  iterate 10 (split; decide)
  decide
theorem cum_bd (y m : Int) : 0 ≤ cum y m ∧ cum y m ≤ 366 := by
  have := lp_01 y
  have := tbl_bd m
  unfold cum
  split
  · omega
  · split <;> omega
theorem cum_13 (y : Int) : cum y 13 = 365 + lp y := rfl
theorem cum_mono (y a b : Int) (h1 : 1 ≤ a) (h : a ≤ b) (h2 : b ≤ 13) : cum y a ≤ cum y b := by
  have hh : ∀ k : Nat, ∀ a : Int, 1 ≤ a → a + k ≤ 13 → cum y a ≤ cum y (a + k) := by
    intro k
    induction k with
    | zero => intro a _ _; simp
    | succ k ih =>
      intro a h1 h2
      have h3 := ih a h1 (by omega)
      have h4 := cum_succ y (a + k) (by omega) (by omega)
      have := dim_bd y (a + k)
      rw [show a + ((k + 1 : Nat) : Int) = a + k + 1 from by omega]
      omega
  have := hh (b - a).toNat a h1 (by omega)
  rwa [show a + ((b - a).toNat : Int) = b from by omega] at this
theorem vld_mk {y m d : Int} (h : 0 ≤ y ∧ y ≤ 9999 ∧ 1 ≤ m ∧ m ≤ 12 ∧ 1 ≤ d ∧ d ≤ dim y m) : vld y m d = true := by
  simp [vld]; omega
theorem vld_of {y m d : Int} (h : vld y m d = true) : 0 ≤ y ∧ y ≤ 9999 ∧ 1 ≤ m ∧ m ≤ 12 ∧ 1 ≤ d ∧ d ≤ dim y m := by
  simp [vld] at h; omega
/-- within the year. -/
theorem in_year {y m d : Int} (h1 : 1 ≤ m) (h2 : m ≤ 12) (h3 : 1 ≤ d) (h4 : d ≤ dim y m) : 0 ≤ cum y m + d - 1 ∧ cum y m + d - 1 < 365 + lp y := by
  have := cum_bd y m
  have := cum_succ y m h1 h2
  have h5 := cum_mono y (m + 1) 13 (by omega) (by omega) (by omega)
  rw [cum_13] at h5
  omega
/-- the order of dates is that of their numbers. -/
theorem num_lt {y m d y' m' d' : Int} (h : vld y m d = true) (h' : vld y' m' d' = true) (hl : y < y' ∨ y = y' ∧ (m < m' ∨ m = m' ∧ d < d')) : num y m d < num y' m' d' := by
  have a := vld_of h
  have b := vld_of h'
  have ia := in_year (y := y) (m := m) (d := d) (by omega) (by omega) (by omega) (by omega)
  have ib := in_year (y := y') (m := m') (d := d') (by omega) (by omega) (by omega) (by omega)
  unfold num
  rcases hl with hl | ⟨rfl, hl | ⟨rfl, hl⟩⟩
  · have h1 := fst_succ y (by omega)
    have h2 := fst_mono (y + 1) y' (by omega) (by omega)
    omega
  · have h1 := cum_succ y m (by omega) (by omega)
    have h2 := cum_mono y (m + 1) m' (by omega) (by omega) (by omega)
    omega
  · omega
theorem num_inj {y m d y' m' d' : Int} (h : vld y m d = true) (h' : vld y' m' d' = true) (hn : num y m d = num y' m' d') : y = y' ∧ m = m' ∧ d = d' := by
  by_cases c1 : y < y' ∨ y = y' ∧ (m < m' ∨ m = m' ∧ d < d')
  · have := num_lt h h' c1; omega
  · by_cases c2 : y' < y ∨ y' = y ∧ (m' < m ∨ m' = m ∧ d' < d)
    · have := num_lt h' h c2; omega
    · omega
theorem num_bd {y m d : Int} (h : vld y m d = true) : -719528 ≤ num y m d ∧ num y m d ≤ 2932896 := by
  have a := vld_of h
  have ia := in_year (y := y) (m := m) (d := d) (by omega) (by omega) (by omega) (by omega)
  have h1 := fst_succ y (by omega)
  have h2 := fst_mono (y + 1) 10000 (by omega) (by omega)
  have h3 := fst_bd y (by omega) (by omega)
  rw [fst_10000] at h2
  unfold num; omega
/-- years in steps of 400. -/
theorem leapB_400 (y : Int) (h : 0 ≤ y) : leapB (y + 400) = leapB y := by
  have a := leapB_iff y h
  have b := leapB_iff (y + 400) (by omega)
  rw [Bool.eq_iff_iff, a, b]; omega
theorem fst_400 (y : Int) (h : 0 ≤ y) : fst (y + 400) = fst y + 146097 := by unfold fst; omega
theorem lp_400 (y : Int) (h : 0 ≤ y) : lp (y + 400) = lp y := by unfold lp; rw [leapB_400 y h]
theorem dim_400 (y m : Int) (h : 0 ≤ y) : dim (y + 400) m = dim y m := by unfold dim; rw [lp_400 y h]
theorem cum_400 (y m : Int) (h : 0 ≤ y) : cum (y + 400) m = cum y m := by unfold cum; rw [lp_400 y h]
theorem tm_eq (n k : Int) : n.tmod k = n - k * n.tdiv k := by have := Int.mul_tdiv_add_tmod n k; omega
theorem lb1 {y : Int} (h : y.tmod 400 = 0) : true = leapB y := by
  have h4 : y.tmod 4 = 0 := Int.tmod_eq_zero_of_dvd (by have := Int.dvd_of_tmod_eq_zero h; omega)
  simp [leapB, h, h4]
theorem lb2 {y : Int} (h : ¬ y.tmod 400 = 0) (h' : y.tmod 4 = 0) : (y.tmod 400 == 0 || y.tmod 100 != 0) = leapB y := by
  have hh : (y.tmod 400 == 0) = false := by simpa using h
  simp [leapB, h', hh]; rfl
theorem lb3 {y : Int} (h : ¬ y.tmod 400 = 0) (h' : ¬ y.tmod 4 = 0) : (y.tmod 400 == 0) = leapB y := by
  have hh : (y.tmod 400 == 0) = false := by simpa using h
  have hh' : (y.tmod 4 == 0) = false := by simpa using h'
  simp [leapB, hh, hh']
theorem tm7_neg (n : Int) : -7 < n.tmod 7 := by
  have h := Int.tmod_lt_of_pos (-n) (b := 7) (by omega)
  rw [Int.neg_tmod] at h
  omega
theorem tm7 (n : Int) : -6 ≤ n.tmod 7 ∧ n.tmod 7 ≤ 6 := by
  have h1 := Int.tmod_lt_of_pos n (b := 7) (by omega)
  have h2 := tm7_neg n
  omega
theorem wd1 (n : Int) : (n.tmod 7 + 10) % 7 = (n + 3) % 7 := by have := tm_eq n 7; omega
theorem wd2 (n : Int) (h : n.tmod 7 < 0) : (n.tmod 7 + 7 + 3) % 7 = (n + 3) % 7 := by have := tm_eq n 7; omega
theorem wd3 (n : Int) (h : 0 ≤ n.tmod 7) : (n.tmod 7 + 3) % 7 = (n + 3) % 7 := by have := tm_eq n 7; omega
end Cal
end Go.Proofs.Yteodjcaoklbopaa
