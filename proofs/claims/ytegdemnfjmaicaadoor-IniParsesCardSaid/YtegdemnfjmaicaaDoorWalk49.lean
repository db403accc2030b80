/- Walks: IniParses. -/
import Derived.Test.YtegdemnfjmaicaaDoorWalk47
import Derived.Test.YtegdemnfjmaicaaDoorWalk48
import Derived.Test.YtegdemnfjmaicaaDoorWalk27
namespace Go.Proofs.YtegdemnfjmaicaaDoor
open Go.RowKit
theorem lines_notes : ∀ (n : Nat) (st : Ini.St) (r : Ini.Str) (a : Nat) (st' : Ini.St), Ini.lines n st r a = .ok st' → st'.notes.length ≤ st.notes.length + n := by
  intro n
  induction n with
  | zero =>
    intro st r a st' h
    unfold Ini.lines at h
    injection h with h
    subst h
    omega
  | succ n ih =>
    intro st r a st' h
    unfold Ini.lines at h
    split at h
    · have := Ini.line_notes h; omega
    · split at h
      · cases h
      · rename_i st1 h1
        have := Ini.line_notes h1
        have := ih _ _ _ _ h
        omega
theorem parse_notes {s : Ini.Str} {st : Ini.St} (h : Ini.parse s = .ok st) : st.notes.length ≤ s.length + 1 := by
  unfold Ini.parse at h
  split at h
  · cases h
  · split at h
    · cases h
    · split at h
      · cases h
      · have := lines_notes _ _ _ _ _ h
        simpa [Ini.start] using this
theorem rparse_any (s : Ini.Str) (hs : s.length ≤ 65536) (w : World) (R : Ini.Res Ini.St) (hR : Ini.parse s = R) : Calls Tryd.prog 11 #[.string ⟨s.toArray⟩] w (RPPost w s R) := by
  unfold Ini.parse at hR
  rw [if_neg (by omega)] at hR
  cases hb : Ini.bad s with
  | some a =>
    rw [hb] at hR
    simp only at hR
    rw [← hR]
    exact rparse_bad s hs w a hb
  | none =>
    rw [hb] at hR
    simp only at hR
    cases hc : Ini.ctl s 0 with
    | some a =>
      rw [hc] at hR
      simp only at hR
      rw [← hR]
      exact rparse_ctl s hs w hb a hc
    | none =>
      rw [hc] at hR
      simp only at hR
      exact rparse_lines s hs w hb hc R hR
set_option maxRecDepth 100000 in
set_option maxHeartbeats 4000000 in
theorem parses_long (src : Ini.Str) (w : World) (hT : Lib.Utf8Tabs 0 1 w) (hw : 2 ≤ w.heap.size) (hl : ¬ src.length ≤ 1000) :
    Calls Tryd.prog 3 #[.string ⟨src.toArray⟩] w fun e w' => e = .returned (.bool true) ∧ Below w.heap.size w w' := by
  have HT := Lib.hid hT
  clear hT
  have hlI : (1000 : Int) < (src.length : Int) := by omega
  go_enter Tryd.func3, Tryd.ntmps3
  go_wp2_with fail
  refine (awake_any w HT.out hw).mono ?_
  rintro e w1 ⟨rfl, hb1⟩
  have HB1 := Lib.hid hb1
  clear hb1
  go_wp2_with fail
  go_ret
  exact ⟨rfl, HB1.out⟩
theorem nodoc_at (w : World) (B : Nat) : GAt w B none [] [] := ⟨RowAt.nil, rfl, fun j h => by simp at h, fun j h => by simp at h⟩
set_option maxRecDepth 100000 in
set_option maxHeartbeats 4000000 in
theorem parses_err (src : Ini.Str) (w : World) (hT : Lib.Utf8Tabs 0 1 w) (hw : 2 ≤ w.heap.size) (hl : src.length ≤ 1000) (x c : Nat) (hp : Ini.parse src = .err x c) :
    Calls Tryd.prog 3 #[.string ⟨src.toArray⟩] w fun e w' => e = .returned (.bool true) ∧ Below w.heap.size w w' := by
  have HT := Lib.hid hT
  have HP := Lib.hid hp
  clear hT hp
  have hlI : ¬ ((1000 : Int) < (src.length : Int)) := by omega
  go_enter Tryd.func3, Tryd.ntmps3
  go_wp2_with fail
  refine (awake_any w HT.out hw).mono ?_
  rintro e w1 ⟨rfl, hb1⟩
  have HB1 := Lib.hid hb1
  clear hb1
  go_upto_region 5 with fail
  go_wp2_with fail
  refine (parse_any src (by omega) _ (tabs_below HT.out HB1.out hw) (Nat.le_trans hw HB1.out.size) _ HP.out).mono ?_
  rintro e1 w3 ⟨hb3, rfl⟩
  have HB3 : Hid (Below w.heap.size w w3) := Lib.hid (HB1.out.trans (hb3.mono HB1.out.size))
  unfold noDoc
  clear hb3
  go_upto_region 6 with fail
  obtain ⟨w4, hw4⟩ : ∃ w4, w3.alloc (.cells docCells 29) = w4 := ⟨_, rfl⟩
  have l4 : Below w3.heap.size w3 w4 := by rw [← hw4]; exact (Below.refl _ _).alloc (Nat.le_refl _) _
  have HB4 : Hid (Below w.heap.size w w4) := Lib.hid (HB3.out.trans (l4.mono HB3.out.size))
  have B4 : Hid (Blk w4 w3.heap.size 29 docCells) := Lib.hid (by rw [← hw4]; exact Blk.new _ _ _)
  unfold docCells at hw4
  rw [hw4]
  clear hw4 l4
  go_wp2_with fail
  refine (rparse_any src (by omega) _ _ HP.out).mono ?_
  rintro e1 w5 ⟨hb5, rfl⟩
  have HB5 : Hid (Below w.heap.size w w5) := Lib.hid (HB4.out.trans (hb5.mono HB4.out.size))
  have B5 := Lib.hid (B4.out.below hb5 B4.out.lt)
  unfold noDoc
  clear hb5 B4
  go_upto_region 7 with fail
  obtain ⟨w6, hw6⟩ : ∃ w6, w5.alloc (.cells docCells 29) = w6 := ⟨_, rfl⟩
  have l6 : Below w5.heap.size w5 w6 := by rw [← hw6]; exact (Below.refl _ _).alloc (Nat.le_refl _) _
  have HB6 : Hid (Below w.heap.size w w6) := Lib.hid (HB5.out.trans (l6.mono HB5.out.size))
  have b5 : Blk w6 w3.heap.size 29 docCells := B5.out.below l6 B5.out.lt
  have b6 : Blk w6 w5.heap.size 29 docCells := by rw [← hw6]; exact Blk.new _ _ _
  unfold docCells at hw6 b5 b6
  rw [hw6]
  have x0 : w6.cell? ⟨w3.heap.size, 0, none⟩ = some (.int .i64 0) := b5.cell 0
  have x1 : w6.cell? ⟨w3.heap.size, 1, none⟩ = some (.string ⟨#[]⟩) := b5.cell 1
  have x2 : w6.cell? ⟨w3.heap.size, 2, none⟩ = some (.slice none 0 0) := b5.cell 2
  have x3 : w6.cell? ⟨w3.heap.size, 3, none⟩ = some (.int .i64 0) := b5.cell 3
  have x4 : w6.cell? ⟨w3.heap.size, 4, none⟩ = some (.slice none 0 0) := b5.cell 4
  have x5 : w6.cell? ⟨w3.heap.size, 5, none⟩ = some (.slice none 0 0) := b5.cell 5
  have y0 : w6.cell? ⟨w5.heap.size, 0, none⟩ = some (.int .i64 0) := b6.cell 0
  have y1 : w6.cell? ⟨w5.heap.size, 1, none⟩ = some (.string ⟨#[]⟩) := b6.cell 1
  have y2 : w6.cell? ⟨w5.heap.size, 2, none⟩ = some (.slice none 0 0) := b6.cell 2
  have y3 : w6.cell? ⟨w5.heap.size, 3, none⟩ = some (.int .i64 0) := b6.cell 3
  have y4 : w6.cell? ⟨w5.heap.size, 4, none⟩ = some (.slice none 0 0) := b6.cell 4
  have y5 : w6.cell? ⟨w5.heap.size, 5, none⟩ = some (.slice none 0 0) := b6.cell 5
  clear hw6 l6 b5 b6
  go_wp2_with fail
  refine (samedoc_same 0 [] none none none none none none 0 0 0 0 0 0 [] [] [] [] [] w6 (nodoc_at _ _) (nodoc_at _ _) RowAt.nil RowAt.nil RowAt.nil RowAt.nil (by simp) (by simp) (by simp) (by simp)).mono ?_
  rintro e w7 ⟨rfl, hb7⟩
  have HB7 : Hid (Below w.heap.size w w7) := Lib.hid (HB6.out.trans (hb7.mono HB6.out.size))
  clear hb7
  go_wp2_with fail
  (try go_ret)
  exact ⟨rfl, HB7.out⟩
set_option maxRecDepth 100000 in
set_option maxHeartbeats 4000000 in
theorem parses_ok (src : Ini.Str) (w : World) (hT : Lib.Utf8Tabs 0 1 w) (hw : 2 ≤ w.heap.size) (hl : src.length ≤ 1000) (st : Ini.St) (hp : Ini.parse src = .ok st) :
    Calls Tryd.prog 3 #[.string ⟨src.toArray⟩] w fun e w' => e = .returned (.bool true) ∧ Below w.heap.size w w' := by
  have HT := Lib.hid hT
  have HP := Lib.hid hp
  have HF := Lib.hid (parse_fit hp)
  have HN := Lib.hid (parse_notes hp)
  clear hT hp
  have hlI : ¬ ((1000 : Int) < (src.length : Int)) := by omega
  go_enter Tryd.func3, Tryd.ntmps3
  go_wp2_with fail
  refine (awake_any w HT.out hw).mono ?_
  rintro e w1 ⟨rfl, hb1⟩
  have HB1 := Lib.hid hb1
  clear hb1
  go_upto_region 5 with fail
  go_wp2_with fail
  refine (parse_any src (by omega) _ (tabs_below HT.out HB1.out hw) (Nat.le_trans hw HB1.out.size) _ HP.out).mono ?_
  rintro e1 w3 ⟨hb3, V, pb, rfl, hp1⟩
  have HB3 : Hid (Below w.heap.size w w3) := Lib.hid (HB1.out.trans (hb3.mono HB1.out.size))
  obtain ⟨A1, c1, e1, hg⟩ := GAt.of_rows hp1.nodes hp1.rows
  obtain ⟨A2, c2, e2, hs2⟩ := hp1.spans.form
  obtain ⟨A3, c3, e3, hn2⟩ := hp1.notes.form
  rw [e1, e2, e3]
  have HG := Lib.hid hg
  have HS2 := Lib.hid hs2
  have HN2 := Lib.hid hn2
  clear hb3 hp1 hg e1 e2 e3 hs2 hn2
  go_upto_region 6 with fail
  obtain ⟨w4, hw4⟩ : ∃ w4, w3.alloc (.cells #[.int .i64 3, .string ⟨src.toArray⟩, .slice A1 V.vs.length c1, .int .i64 0, .slice A2 st.spans.length c2, .slice A3 st.notes.length c3] 29) = w4 := ⟨_, rfl⟩
  have l4 : Below w3.heap.size w3 w4 := by rw [← hw4]; exact (Below.refl _ _).alloc (Nat.le_refl _) _
  have HB4 : Hid (Below w.heap.size w w4) := Lib.hid (HB3.out.trans (l4.mono HB3.out.size))
  have B4 : Hid (Blk w4 w3.heap.size 29 #[.int .i64 3, .string ⟨src.toArray⟩, .slice A1 V.vs.length c1, .int .i64 0, .slice A2 st.spans.length c2, .slice A3 st.notes.length c3]) := Lib.hid (by rw [← hw4]; exact Blk.new _ _ _)
  have L34 := Lib.hid l4
  rw [hw4]
  clear hw4 l4
  go_wp2_with fail
  refine (rparse_any src (by omega) _ _ HP.out).mono ?_
  rintro e1 w5 ⟨hb5, V', pb', rfl, hp1⟩
  have HB5 : Hid (Below w.heap.size w w5) := Lib.hid (HB4.out.trans (hb5.mono HB4.out.size))
  have L35 : Hid (Below w3.heap.size w3 w5) := Lib.hid (L34.out.trans (hb5.mono L34.out.size))
  have B5 := Lib.hid (B4.out.below hb5 B4.out.lt)
  obtain ⟨A4, c4, e1, hg⟩ := GAt.of_rows hp1.nodes hp1.rows
  obtain ⟨A5, c5, e2, hs2⟩ := hp1.spans.form
  obtain ⟨A6, c6, e3, hn2⟩ := hp1.notes.form
  rw [e1, e2, e3]
  have HGB := Lib.hid hg
  have HS3 := Lib.hid hs2
  have HN3 := Lib.hid hn2
  clear hb5 hp1 hg e1 e2 e3 hs2 hn2 B4 L34
  go_upto_region 7 with fail
  obtain ⟨w6, hw6⟩ : ∃ w6, w5.alloc (.cells #[.int .i64 3, .string ⟨src.toArray⟩, .slice A4 V'.vs.length c4, .int .i64 0, .slice A5 st.spans.length c5, .slice A6 st.notes.length c6] 29) = w6 := ⟨_, rfl⟩
  have l6 : Below w5.heap.size w5 w6 := by rw [← hw6]; exact (Below.refl _ _).alloc (Nat.le_refl _) _
  have HB6 : Hid (Below w.heap.size w w6) := Lib.hid (HB5.out.trans (l6.mono HB5.out.size))
  have b5 : Blk w6 w3.heap.size 29 _ := B5.out.below l6 B5.out.lt
  have b6 : Blk w6 w5.heap.size 29 #[.int .i64 3, .string ⟨src.toArray⟩, .slice A4 V'.vs.length c4, .int .i64 0, .slice A5 st.spans.length c5, .slice A6 st.notes.length c6] := by rw [← hw6]; exact Blk.new _ _ _
  have L36 : Hid (Below w3.heap.size w3 w6) := Lib.hid (L35.out.trans (l6.mono L35.out.size))
  have L56 := Lib.hid l6
  rw [hw6]
  have x0 : w6.cell? ⟨w3.heap.size, 0, none⟩ = some (.int .i64 3) := b5.cell 0
  have x1 : w6.cell? ⟨w3.heap.size, 1, none⟩ = some (.string ⟨src.toArray⟩) := b5.cell 1
  have x2 : w6.cell? ⟨w3.heap.size, 2, none⟩ = some (.slice A1 V.vs.length c1) := b5.cell 2
  have x3 : w6.cell? ⟨w3.heap.size, 3, none⟩ = some (.int .i64 0) := b5.cell 3
  have x4 : w6.cell? ⟨w3.heap.size, 4, none⟩ = some (.slice A2 st.spans.length c2) := b5.cell 4
  have x5 : w6.cell? ⟨w3.heap.size, 5, none⟩ = some (.slice A3 st.notes.length c3) := b5.cell 5
  have y0 : w6.cell? ⟨w5.heap.size, 0, none⟩ = some (.int .i64 3) := b6.cell 0
  have y1 : w6.cell? ⟨w5.heap.size, 1, none⟩ = some (.string ⟨src.toArray⟩) := b6.cell 1
  have y2 : w6.cell? ⟨w5.heap.size, 2, none⟩ = some (.slice A4 V'.vs.length c4) := b6.cell 2
  have y3 : w6.cell? ⟨w5.heap.size, 3, none⟩ = some (.int .i64 0) := b6.cell 3
  have y4 : w6.cell? ⟨w5.heap.size, 4, none⟩ = some (.slice A5 st.spans.length c5) := b6.cell 4
  have y5 : w6.cell? ⟨w5.heap.size, 5, none⟩ = some (.slice A6 st.notes.length c6) := b6.cell 5
  clear hw6 l6 b5 b6
  go_wp2_with fail
  refine (samedoc_same 3 src A1 A4 A2 A5 A3 A6 c1 c4 c2 c5 c3 c6 V.vs V'.vs st.nodes st.spans st.notes w6 ((HG.out.below L36.out).more L36.out.size) ((HGB.out.below L56.out).more L56.out.size) ((HS2.out.below L36.out).more L36.out.size) ((HS3.out.below L56.out).more L56.out.size) ((HN2.out.below L36.out).more L36.out.size) ((HN3.out.below L56.out).more L56.out.size)
    (by have := HF.out.nl; omega) (by have := HF.out.sl; have := HF.out.nl; omega) (by have := HN.out; omega) HF.out.lists).mono ?_
  rintro e w7 ⟨rfl, hb7⟩
  have HB7 : Hid (Below w.heap.size w w7) := Lib.hid (HB6.out.trans (hb7.mono HB6.out.size))
  clear hb7
  go_wp2_with fail
  (try go_ret)
  exact ⟨rfl, HB7.out⟩
theorem parses_law (src : Ini.Str) (w : World) (hT : Lib.Utf8Tabs 0 1 w) (hw : 2 ≤ w.heap.size) :
    Calls Tryd.prog 3 #[.string ⟨src.toArray⟩] w fun e w' => e = .returned (.bool true) ∧ Below w.heap.size w w' := by
  by_cases hl : src.length ≤ 1000
  · cases hp : Ini.parse src with
    | err x c => exact parses_err src w hT hw hl x c hp
    | ok st => exact parses_ok src w hT hw hl st hp
  · exact parses_long src w hT hw hl
end Go.Proofs.YtegdemnfjmaicaaDoor
