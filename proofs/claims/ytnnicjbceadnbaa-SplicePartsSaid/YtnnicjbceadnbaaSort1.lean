/- Walks: cmp.Compare, cmp.Or, the comparison of Join. -/
import Derived.Test.YtnnicjbceadnbaaRef1
import Derived.Deep.RegionWith
import Derived.Deep.RegionHeld3
namespace Go.Proofs.Ytnnicjbceadnbaa
open Go.RowKit
open Sp (Ed Ce chk)
def cmpI (a b : Int) : Int := if a < b then -1 else if b < a then 1 else 0
def orI (a b : Int) : Int := if a = 0 then b else a
def cmpEd (x y : Ed) : Int := if x.f = y.f then cmpI x.t y.t else cmpI x.f y.f
set_option maxHeartbeats 400000 in
theorem isnan_any (a : Int) (w : World) : Calls Try.prog 42 #[.int .i64 a] w fun e w' => e = .returned (.bool false) ∧ w = w' := by
  go_enter Try.func42, Try.ntmps42
  go_wp2
  go_ret
  exact ⟨ret_bool (by simp), rfl⟩
set_option maxHeartbeats 400000 in
theorem compare_any (a b : Int) (w : World) : Calls Try.prog 37 #[.int .i64 a, .int .i64 b] w fun e w' => e = .returned (.int .i64 (cmpI a b)) ∧ w = w' := by
  by_cases h1 : a < b
  · have hh : Hid (cmpI a b = -1) := Lib.hid (by simp [cmpI, h1])
    go_enter Try.func37, Try.ntmps37
    go_wp2_with (go_at_call 42; refine (isnan_any _ _).mono ?_; rintro e w' ⟨rfl, rfl⟩)
    go_ret
    exact ⟨ret_int hh.out.symm, rfl⟩
  · by_cases h2 : b < a
    · have hh : Hid (cmpI a b = 1) := Lib.hid (by simp [cmpI, h1, h2])
      go_enter Try.func37, Try.ntmps37
      go_wp2_with (go_at_call 42; refine (isnan_any _ _).mono ?_; rintro e w' ⟨rfl, rfl⟩)
      go_ret
      exact ⟨ret_int hh.out.symm, rfl⟩
    · have hh : Hid (cmpI a b = 0) := Lib.hid (by simp [cmpI, h1, h2])
      go_enter Try.func37, Try.ntmps37
      go_wp2_with (go_at_call 42; refine (isnan_any _ _).mono ?_; rintro e w' ⟨rfl, rfl⟩)
      go_ret
      exact ⟨ret_int hh.out.symm, rfl⟩
set_option maxHeartbeats 400000 in
theorem or2_any (a b : Int) (g : Nat) (w : World) (h0 : w.cell? ⟨g, 0, none⟩ = some (.int .i64 a)) (h1 : w.cell? ⟨g, 1, none⟩ = some (.int .i64 b)) :
    Calls Try.prog 36 #[.slice (some ⟨g, 0, none⟩) 2 2] w fun e w' => e = .returned (.int .i64 (orI a b)) ∧ w = w' := by
  by_cases ha : a = 0
  · by_cases hb : b = 0
    · subst ha hb
      go_enter Try.func36, Try.ntmps36
      go_wp2_with fail
      go_rounds 3
      go_ret
      exact ⟨rfl, rfl⟩
    · have hb' : (b != 0) = true := by simpa using hb
      clear hb
      subst ha
      go_enter Try.func36, Try.ntmps36
      go_wp2_with fail
      go_rounds 3
      go_ret
      exact ⟨ret_int (by simp [orI]), rfl⟩
  · have ha' : (a != 0) = true := by simpa using ha
    have ha'' : (a == 0) = false := by simpa using ha
    have hh : Hid (orI a b = a) := Lib.hid (by simp [orI, ha])
    clear ha
    go_enter Try.func36, Try.ntmps36
    go_wp2_with fail
    go_rounds 3
    go_ret
    exact ⟨ret_int hh.out.symm, rfl⟩
theorem cmpEd_or (x y : Ed) : orI (cmpI x.f y.f) (cmpI x.t y.t) = cmpEd x y := by
  unfold cmpEd orI
  by_cases h : x.f = y.f
  · simp [h, cmpI]
  · have : cmpI x.f y.f ≠ 0 := by unfold cmpI; split; · decide
                                  split; · decide
                                  omega
    rw [if_neg this, if_neg h]
set_option maxHeartbeats 1000000 in
theorem joincmp_any (x y : Ed) (w : World) : Calls Try.prog 35 #[.agg #[.int .i64 x.f, .int .i64 x.t, .string ⟨x.s.toArray⟩], .agg #[.int .i64 y.f, .int .i64 y.t, .string ⟨y.s.toArray⟩]] w fun e w' => e = .returned (.int .i64 (cmpEd x y)) ∧ Below w.heap.size w w' := by
  have HC := Lib.hid (cmpEd_or x y)
  go_enter Try.func35, Try.ntmps35
  go_wp2_with fail
  go_region_held3 (fun w' => w'.cell? ⟨w.heap.size, 0, none⟩ = some (.int .i64 x.f) ∧ w'.cell? ⟨w.heap.size, 1, none⟩ = some (.int .i64 x.t) ∧ w'.cell? ⟨w.heap.size + 1, 0, none⟩ = some (.int .i64 y.f) ∧ w'.cell? ⟨w.heap.size + 1, 1, none⟩ = some (.int .i64 y.t))
    (first | go_keep | (simp [go_sem]))
    ((first
      | (go_at_call 37; refine (compare_any _ _ _).mono ?_; rintro e w' ⟨rfl, rfl⟩)
      | (go_at_call 36; refine (or2_any (cmpI x.f y.f) (cmpI x.t y.t) _ _ (by simp [go_sem]) (by simp [go_sem])).mono ?_; rintro e w' ⟨rfl, rfl⟩)))
  go_wp2_with fail
  go_ret
  refine ⟨ret_int HC.out, ?_⟩
  go_grown
end Go.Proofs.Ytnnicjbceadnbaa
