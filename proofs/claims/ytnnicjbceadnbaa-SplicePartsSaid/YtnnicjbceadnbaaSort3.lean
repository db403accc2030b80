/- Walks: SortStableFunc at fewer than 20 edits; Index, Contains. -/
import Derived.Test.YtnnicjbceadnbaaSort2
namespace Go.Proofs.Ytnnicjbceadnbaa
open Go.RowKit
open Sp (Ed Ce chk)
set_option maxHeartbeats 1000000 in
theorem stable_few (g cap : Nat) (l : List Ed) (rest : List Value) (w : World) (hr : SRow w g l rest) (hl : l.length < 20) :
    Calls Try.prog 41 #[.slice (some ⟨g, 0, none⟩) l.length cap, .int .i64 l.length, .func (Fn.func 35) #[] #[]] w fun e w' => e = .returned (.tuple #[]) ∧ SRow w' g (Sp.isort ltEd 0 l.length l) rest ∧ KeptBut' w w' (· = g) := by
  have HR := Lib.hid hr
  clear hr
  go_enter Try.func41, Try.ntmps41
  go_wp2_with fail
  go_loopw [7, 8] (fun a b wr => a = .int .i64 0 ∧ b = .int .i64 20 ∧ wr = w) (fun _ _ _ => 0)
  case atStart => exact ⟨rfl, rfl, rfl⟩
  case round =>
    obtain ⟨rfl, rfl, rfl⟩ := hrel
    go_wp2_with fail
    refine (insertion_any g cap 0 l.length l rest _ HR.out (Nat.le_refl _) (by omega) (by omega)).mono ?_
    rintro e w1 ⟨rfl, hS, hK⟩
    have HS := Lib.hid hS
    have HK := Lib.hid hK
    clear hS hK
    go_wp2_with fail
    go_loopw [6, 7, 8] (fun c a b wr => c = .int .i64 20 ∧ wr = w1) (fun _ _ _ _ => 0)
    case atStart => exact ⟨rfl, rfl⟩
    case round =>
      obtain ⟨rfl, rfl⟩ := hrel
      go_wp2_with fail
      go_end0
      exact ⟨rfl, HS.out, HK.out⟩
set_option maxHeartbeats 1000000 in
theorem sort_few (g cap : Nat) (l : List Ed) (rest : List Value) (w : World) (hr : SRow w g l rest) (hl : l.length < 20) :
    Calls Try.prog 34 #[.slice (some ⟨g, 0, none⟩) l.length cap, .func (Fn.func 35) #[] #[]] w fun e w' => e = .returned (.tuple #[]) ∧ SRow w' g (Sp.isort ltEd 0 l.length l) rest ∧ KeptBut' w w' (· = g) := by
  have HR := Lib.hid hr
  clear hr
  go_enter Try.func34, Try.ntmps34
  go_wp2_with fail
  refine (stable_few g cap l rest _ HR.out hl).mono ?_
  rintro e w1 ⟨rfl, hS, hK⟩
  have HS := Lib.hid hS
  have HK := Lib.hid hK
  clear hS hK
  go_wp2_with fail
  go_end0
  exact ⟨rfl, HS.out, HK.out⟩
def idxOf (l : List Ed) (x : Ed) : Int := match l.findIdx? (· = x) with
  | some i => i
  | none => -1
theorem findIdx_take (l : List Ed) (x : Ed) (k : Nat) (h : ∀ y ∈ l.take k, y ≠ x) (hk : l[k]? = some x) : l.findIdx? (· = x) = some k := by
  rw [List.findIdx?_eq_some_iff_getElem]
  obtain ⟨h1, h2⟩ := List.getElem?_eq_some_iff.1 hk
  refine ⟨h1, by simp [h2], fun j hj => ?_⟩
  have : l[j] ∈ l.take k := by
    rw [List.mem_take_iff_getElem]
    exact ⟨j, by omega, rfl⟩
  simpa using h _ this
set_option maxHeartbeats 1000000 in
theorem index_any (l : List Ed) (A : Option Addr) (c : Nat) (x : Ed) (hl : l.length ≤ 1073741824) (w : World) (hr : EdsAt w w.heap.size A l) :
    Calls Try.prog 40 #[.slice A l.length c, .agg #[.int .i64 x.f, .int .i64 x.t, .string ⟨x.s.toArray⟩]] w fun e w' => e = .returned (.int .i64 (idxOf l x)) ∧ Below w.heap.size w w' := by
  go_enter Try.func40, Try.ntmps40
  go_wp2_with fail
  obtain ⟨w0, hw0⟩ : ∃ w0 : World, w0 = w.alloc (.cells #[.int .i64 x.f, .int .i64 x.t, .string ⟨x.s.toArray⟩] 48) := ⟨_, rfl⟩
  have hb0 : Below w.heap.size w w0 := by rw [hw0]; exact (Below.refl _ _).alloc (Nat.le_refl _) _
  have x1 : w0.cell? ⟨w.heap.size, 0, none⟩ = some (.int .i64 x.f) := by rw [hw0]; simp [go_sem]
  have x2 : w0.cell? ⟨w.heap.size, 1, none⟩ = some (.int .i64 x.t) := by rw [hw0]; simp [go_sem]
  have x3 : w0.cell? ⟨w.heap.size, 2, none⟩ = some (.string ⟨x.s.toArray⟩) := by rw [hw0]; simp [go_sem]
  rw [← hw0]
  clear hw0
  go_loopw [8] (fun i wr => ∃ k : Nat, k ≤ l.length ∧ i = .int .i64 k ∧ Hid (∀ y ∈ l.take k, y ≠ x) ∧ ∃ n, wr = w0.drewN n) (fun i _ => (l.length - intOf i).toNat)
  case atStart => exact ⟨0, by omega, rfl, Lib.hid (by simp), 0, rfl⟩
  case round =>
    obtain ⟨k, hk, rfl, HN, q, rfl⟩ := hrel
    by_cases hlt : k < l.length
    · obtain ⟨ad, rfl, hab, c1, c2, c3⟩ := EdsAt.at_ (hr.below hb0) hlt
      have h1 := Sp.take_snoc l k hlt
      have he := eqEd x l[k]
      have hgl : l[k]? = some l[k] := List.getElem?_eq_getElem hlt
      have HGL := Lib.hid hgl
      have H1 := Lib.hid h1
      clear hgl h1
      generalize l[k] = y at *
      by_cases hxy : x = y
      · have hd : decide (x = y) = true := by simpa using hxy
        have HV : Hid (idxOf l x = k) := Lib.hid (by
          have := findIdx_take l x k HN.out (by rw [hxy]; exact HGL.out)
          simp [idxOf, this])
        rw [hd] at he
        clear hxy hd
        go_wp2_with fail
        go_quiet (fail)
        go_wp2_with fail
        go_ret
        exact ⟨ret_int HV.out.symm, (hb0.drewN _).drewN _⟩
      · have hd : decide (x = y) = false := by simpa using hxy
        rw [hd] at he
        have HX := Lib.hid hxy
        clear hxy hd
        go_wp2_with fail
        go_quiet (fail)
        go_wp2_with fail
        go_roundw
        case rel => exact ⟨k + 1, by omega, by go_num, Lib.hid (by
          rw [H1.out]; intro z hz
          rcases List.mem_append.1 hz with hz | hz
          · exact HN.out z hz
          · rw [List.mem_singleton] at hz; subst hz; exact fun e => HX.out e.symm), _, rfl⟩
        case measure => simp [intOf]; omega
    · have HV : Hid (idxOf l x = -1) := Lib.hid (by
        have h := HN.out
        rw [List.take_of_length_le (by omega)] at h
        have : l.findIdx? (· = x) = none := by
          rw [List.findIdx?_eq_none_iff]; intro y hy; simpa using h y hy
        simp [idxOf, this])
      go_wp2_with fail
      go_ret
      exact ⟨ret_int HV.out.symm, hb0.drewN _⟩
set_option maxHeartbeats 1000000 in
theorem contains_any (l : List Ed) (A : Option Addr) (c : Nat) (x : Ed) (hl : l.length ≤ 1073741824) (w : World) (hr : EdsAt w w.heap.size A l) :
    Calls Try.prog 33 #[.slice A l.length c, .agg #[.int .i64 x.f, .int .i64 x.t, .string ⟨x.s.toArray⟩]] w fun e w' => e = .returned (.bool (decide (x ∈ l))) ∧ Below w.heap.size w w' := by
  have HV : Hid (decide (0 ≤ idxOf l x) = decide (x ∈ l)) := Lib.hid (by
    rw [decide_eq_decide]
    unfold idxOf
    cases h : l.findIdx? (· = x) with
    | none =>
      rw [List.findIdx?_eq_none_iff] at h
      simp
      intro hm
      simpa using h x hm
    | some i =>
      rw [List.findIdx?_eq_some_iff_getElem] at h
      obtain ⟨h1, h2, _⟩ := h
      simp at h2
      simp
      rw [← h2]; exact List.getElem_mem h1)
  go_enter Try.func33, Try.ntmps33
  go_wp2_with fail
  refine (index_any l A c x hl _ ((hr.alloc (Nat.le_refl _) _).more (by simp))).mono ?_
  rintro e w1 ⟨rfl, hb1⟩
  go_wp2_with fail
  go_ret
  exact ⟨ret_bool (by simpa using HV.out), ((Below.refl _ _).alloc (Nat.le_refl _) _).trans (hb1.mono (by simp))⟩
/-- what a sort of edits does, at lists of at most N. -/
def Sorts (N : Nat) : Prop := ∀ (g cap : Nat) (l : List Ed) (rest : List Value) (w : World), SRow w g l rest → l.length ≤ N →
  Calls Try.prog 34 #[.slice (some ⟨g, 0, none⟩) l.length cap, .func (Fn.func 35) #[] #[]] w fun e w' => e = .returned (.tuple #[]) ∧ SRow w' g (Sp.isort ltEd 0 l.length l) rest ∧ KeptBut' w w' (· = g)
theorem sorts_few : Sorts 19 := fun g cap l rest w hr hl => sort_few g cap l rest w hr (by omega)
set_option maxHeartbeats 1000000 in
theorem sort_none (A : Option Addr) (cap : Nat) (w : World) : Calls Try.prog 34 #[.slice A 0 cap, .func (Fn.func 35) #[] #[]] w fun e w' => e = .returned (.tuple #[]) ∧ w = w' := by
  have hins : ∀ w : World, Calls Try.prog 43 #[.slice A 0 cap, .int .i64 0, .int .i64 0, .func (Fn.func 35) #[] #[]] w fun e w' => e = .returned (.tuple #[]) ∧ w = w' := by
    intro w
    go_enter Try.func43, Try.ntmps43
    go_wp2_with fail
    go_rounds 1
    go_end0
    exact ⟨rfl, rfl⟩
  have hst : Calls Try.prog 41 #[.slice A 0 cap, .int .i64 0, .func (Fn.func 35) #[] #[]] w fun e w' => e = .returned (.tuple #[]) ∧ w = w' := by
    have HI := Lib.hid hins
    clear hins
    go_enter Try.func41, Try.ntmps41
    go_wp2_with fail
    go_loopw [7, 8] (fun a b wr => a = .int .i64 0 ∧ b = .int .i64 20 ∧ wr = w) (fun _ _ _ => 0)
    case atStart => exact ⟨rfl, rfl, rfl⟩
    case round =>
      obtain ⟨rfl, rfl, rfl⟩ := hrel
      go_wp2_with fail
      refine (HI.out _).mono ?_
      rintro e w1 ⟨rfl, rfl⟩
      go_wp2_with fail
      go_rounds 1
      go_end0
      exact ⟨rfl, rfl⟩
  have HS := Lib.hid hst
  clear hst hins
  go_enter Try.func34, Try.ntmps34
  go_wp2_with fail
  refine HS.out.mono ?_
  rintro e w1 ⟨rfl, rfl⟩
  go_wp2_with fail
  go_end0
  exact ⟨rfl, rfl⟩
/-- a row of the call's own that is not empty, as a known block. -/
theorem OwnEds.row {w : World} {base : Nat} {v : Value} {l : List Ed} (h : OwnEds w base 48 v l) (hl : l ≠ []) :
    ∃ g cap rest, v = .slice (some ⟨g, 0, none⟩) l.length cap ∧ SRow w g l rest ∧ base ≤ g ∧ (∀ w' l', l'.length = l.length → SRow w' g l' rest → OwnEds w' base 48 v l') := by
  rcases h.2 with ⟨_, hn⟩ | ⟨g, cap, cur, hv, hbg, hh, hc, hm, hcs, htk⟩
  · exact absurd (List.eq_nil_of_length_eq_zero hn) hl
  · have hcl := edsCells_len l
    have hsplit : cur = (edsCells l ++ cur.toList.drop (l.length * 3)).toArray := by
      apply Array.ext'
      rw [← htk]; simp
    refine ⟨g, cap, cur.toList.drop (l.length * 3), hv, ?_, hbg, fun w' l' hl' hS => ?_⟩
    · unfold SRow; rw [← hsplit]; exact hh
    · have hcl' := edsCells_len l'
      refine ⟨hcl', .inr ⟨g, cap, _, by rw [hl']; exact hv, hbg, hS, by omega, hm, ?_, ?_⟩⟩
      · simp only [List.size_toArray, List.length_append, List.length_drop, Array.length_toList]
        omega
      · simp only
        rw [List.take_append_of_le_length (by omega), List.take_of_length_le (by omega)]
end Go.Proofs.Ytnnicjbceadnbaa
