/- Walks: Parse. -/
import Derived.Test.YtegdemnfjmaicaaDoorWalk13Z
import Derived.Test.YtegdemnfjmaicaaDoorWalk17Z
import Derived.Test.YtegdemnfjmaicaaDoorWalk19
import Derived.RangeFuncNested
import Derived.RangeFuncBound
import Derived.RangeFuncCalls
import Derived.Shelf.RegionOpen
namespace Go.Proofs.YtegdemnfjmaicaaDoor
open Go.RowKit Go.Shelf
attribute [local go_sem] Oper.semAt_some
/-- the empty document. -/
def noDoc : Value := .agg #[.int .i64 0, .string ⟨#[]⟩, .slice none 0 0, .int .i64 0, .slice none 0 0, .slice none 0 0]
/-- what Parse answers. -/
def PPost (w : World) (s : Ini.Str) (R : Ini.Res Ini.St) (e : Ending) (w' : World) : Prop :=
  Below w.heap.size w w' ∧ match R with
  | .err a c => e = .returned (.tuple #[noDoc, .int .i64 (a : Nat), .int .i64 (c : Nat)])
  | .ok st => ∃ V pb, e = .returned (.tuple #[.agg #[.int .i64 3, .string ⟨s.toArray⟩, V.nv, .int .i64 0, V.sv, V.tv], .int .i64 0, .int .i64 0]) ∧ PAt w.heap.size V w' pb s st
/-- the results' boxes. -/
def docCells : Array Value := #[.int .i64 0, .string ⟨#[]⟩, .slice none 0 0, .int .i64 0, .slice none 0 0, .slice none 0 0]
structure RBox (w wx : World) : Prop where
  below : Below w.heap.size w wx
  size : w.heap.size + 3 ≤ wx.heap.size
  d : Blk wx w.heap.size 29 docCells
  a : Blk wx (w.heap.size + 1) 3 #[.int .i64 0]
  e : Blk wx (w.heap.size + 1 + 1) 30 #[.int .i64 0]
theorem RBox.make (w : World) : RBox w (((w.alloc (.cells docCells 29)).alloc (.cells #[.int .i64 0] 3)).alloc (.cells #[.int .i64 0] 30)) := by
  refine ⟨(((Below.refl _ _).alloc (Nat.le_refl _) _).alloc (by simp) _).alloc (by simp; omega) _, by simp, ((Blk.new w 29 docCells).alloc _).alloc _, ?_, ?_⟩
  · have := (Blk.new (w.alloc (.cells docCells 29)) 3 #[.int .i64 0]).alloc (.cells #[.int .i64 0] 30)
    rw [World.size_alloc] at this
    exact this
  · have := Blk.new ((w.alloc (.cells docCells 29)).alloc (.cells #[.int .i64 0] 3)) 30 #[.int .i64 0]
    rw [World.size_alloc, World.size_alloc] at this
    exact this
theorem RBox.later {w wx wy : World} (h : RBox w wx) (hb : Below wx.heap.size wx wy) : RBox w wy :=
  ⟨h.below.trans (hb.mono h.below.size), Nat.le_trans h.size hb.size, h.d.below hb h.d.lt, h.a.below hb h.a.lt, h.e.below hb h.e.lt⟩
structure RFacts (w wx : World) : Prop where
  d0 : wx.cell? ⟨w.heap.size, 0, none⟩ = some (.int .i64 0)
  d1 : wx.cell? ⟨w.heap.size, 1, none⟩ = some (.string ⟨#[]⟩)
  d2 : wx.cell? ⟨w.heap.size, 2, none⟩ = some (.slice none 0 0)
  d3 : wx.cell? ⟨w.heap.size, 3, none⟩ = some (.int .i64 0)
  d4 : wx.cell? ⟨w.heap.size, 4, none⟩ = some (.slice none 0 0)
  d5 : wx.cell? ⟨w.heap.size, 5, none⟩ = some (.slice none 0 0)
  a0 : wx.cell? ⟨w.heap.size + 1, 0, none⟩ = some (.int .i64 0)
  e0 : wx.cell? ⟨w.heap.size + 1 + 1, 0, none⟩ = some (.int .i64 0)
  df : ∀ i, wx.frozen? ⟨w.heap.size, i, none⟩ = false
  af : ∀ i, wx.frozen? ⟨w.heap.size + 1, i, none⟩ = false
  ef : ∀ i, wx.frozen? ⟨w.heap.size + 1 + 1, i, none⟩ = false
theorem RBox.facts {w wx : World} (h : RBox w wx) : RFacts w wx :=
  ⟨h.d.cell 0, h.d.cell 1, h.d.cell 2, h.d.cell 3, h.d.cell 4, h.d.cell 5, h.a.cell 0, h.e.cell 0, h.d.frozen, h.a.frozen, h.e.frozen⟩
/-- the results' boxes, filled. -/
def fill (wx : World) (k : Nat) (v0 v1 v2 v3 v4 v5 a e : Value) : World :=
  (((((((wx.setCell ⟨k, 0, none⟩ v0).setCell ⟨k, 1, none⟩ v1).setCell ⟨k, 2, none⟩ v2).setCell ⟨k, 3, none⟩ v3).setCell ⟨k, 4, none⟩ v4).setCell ⟨k, 5, none⟩ v5).setCell ⟨k + 1, 0, none⟩ a).setCell ⟨k + 1 + 1, 0, none⟩ e
theorem fill_size (wx : World) (k : Nat) (v0 v1 v2 v3 v4 v5 a e : Value) : (fill wx k v0 v1 v2 v3 v4 v5 a e).heap.size = wx.heap.size := by
  unfold fill; simp only [setCell_size]
theorem fill_far {wx : World} {k : Nat} {v0 v1 v2 v3 v4 v5 a e : Value} {g : Nat} {t : TypeId} {cs : Array Value} (h : Blk wx g t cs) (hg : k + 3 ≤ g) : Blk (fill wx k v0 v1 v2 v3 v4 v5 a e) g t cs := by
  unfold fill
  have h1 := h.far (p := ⟨k, 0, none⟩) (by simp; omega) v0
  have h2 := h1.far (p := ⟨k, 1, none⟩) (by simp; omega) v1
  have h3 := h2.far (p := ⟨k, 2, none⟩) (by simp; omega) v2
  have h4 := h3.far (p := ⟨k, 3, none⟩) (by simp; omega) v3
  have h5 := h4.far (p := ⟨k, 4, none⟩) (by simp; omega) v4
  have h6 := h5.far (p := ⟨k, 5, none⟩) (by simp; omega) v5
  have h7 := h6.far (p := ⟨k + 1, 0, none⟩) (by simp; omega) a
  exact h7.far (p := ⟨k + 1 + 1, 0, none⟩) (by simp; omega) e
theorem fill_below {w wx : World} (h : Below w.heap.size w wx) (v0 v1 v2 v3 v4 v5 a e : Value) : Below w.heap.size w (fill wx w.heap.size v0 v1 v2 v3 v4 v5 a e) := by
  unfold fill
  have h1 := h.setCell (p := ⟨w.heap.size, 0, none⟩) (by simp) v0
  have h2 := h1.setCell (p := ⟨w.heap.size, 1, none⟩) (by simp) v1
  have h3 := h2.setCell (p := ⟨w.heap.size, 2, none⟩) (by simp) v2
  have h4 := h3.setCell (p := ⟨w.heap.size, 3, none⟩) (by simp) v3
  have h5 := h4.setCell (p := ⟨w.heap.size, 4, none⟩) (by simp) v4
  have h6 := h5.setCell (p := ⟨w.heap.size, 5, none⟩) (by simp) v5
  have h7 := h6.setCell (p := ⟨w.heap.size + 1, 0, none⟩) (by simp) a
  exact h7.setCell (p := ⟨w.heap.size + 1 + 1, 0, none⟩) (by simp; omega) e
structure RFull (w wx : World) (v0 v1 v2 v3 v4 v5 a e : Value) : Prop where
  below : Below w.heap.size w wx
  d : Blk wx w.heap.size 29 #[v0, v1, v2, v3, v4, v5]
  a : Blk wx (w.heap.size + 1) 3 #[a]
  e : Blk wx (w.heap.size + 1 + 1) 30 #[e]
theorem RBox.fill {w wx : World} (h : RBox w wx) (v0 v1 v2 v3 v4 v5 a e : Value) : RFull w (fill wx w.heap.size v0 v1 v2 v3 v4 v5 a e) v0 v1 v2 v3 v4 v5 a e := by
  refine ⟨fill_below h.below _ _ _ _ _ _ _ _, ?_, ?_, ?_⟩
  · have h6 := (((((h.d.set_ 0 v0).set_ 1 v1).set_ 2 v2).set_ 3 v3).set_ 4 v4).set_ 5 v5
    have h7 := h6.far (p := ⟨w.heap.size + 1, 0, none⟩) (by simp) a
    exact h7.far (p := ⟨w.heap.size + 1 + 1, 0, none⟩) (by simp; omega) e
  · have h1 := h.a.far (p := ⟨w.heap.size, 0, none⟩) (by simp) v0
    have h2 := h1.far (p := ⟨w.heap.size, 1, none⟩) (by simp) v1
    have h3 := h2.far (p := ⟨w.heap.size, 2, none⟩) (by simp) v2
    have h4 := h3.far (p := ⟨w.heap.size, 3, none⟩) (by simp) v3
    have h5 := h4.far (p := ⟨w.heap.size, 4, none⟩) (by simp) v4
    have h6 := h5.far (p := ⟨w.heap.size, 5, none⟩) (by simp) v5
    exact (h6.set_ 0 a).far (p := ⟨w.heap.size + 1 + 1, 0, none⟩) (by simp) e
  · have h1 := h.e.far (p := ⟨w.heap.size, 0, none⟩) (by simp; omega) v0
    have h2 := h1.far (p := ⟨w.heap.size, 1, none⟩) (by simp; omega) v1
    have h3 := h2.far (p := ⟨w.heap.size, 2, none⟩) (by simp; omega) v2
    have h4 := h3.far (p := ⟨w.heap.size, 3, none⟩) (by simp; omega) v3
    have h5 := h4.far (p := ⟨w.heap.size, 4, none⟩) (by simp; omega) v4
    have h6 := h5.far (p := ⟨w.heap.size, 5, none⟩) (by simp; omega) v5
    exact (h6.far (p := ⟨w.heap.size + 1, 0, none⟩) (by simp) a).set_ 0 e
/-- the results are read. -/
theorem RFull.run {w wx : World} {v0 v1 v2 v3 v4 v5 a e : Value} (h : RFull w wx v0 v1 v2 v3 v4 v5 a e) (tmps : Array Value) (h2 : tmps[2]? = some (.pointer (some ⟨w.heap.size, 0, none⟩))) (h3 : tmps[3]? = some (.pointer (some ⟨w.heap.size + 1, 0, none⟩))) (h4 : tmps[4]? = some (.pointer (some ⟨w.heap.size + 1 + 1, 0, none⟩))) :
    (results Tryd.f10 tmps).run Tryd.prog wx = .ok (.tuple #[.agg #[v0, v1, v2, v3, v4, v5], a, e]) wx := by
  have d0 : wx.cell? ⟨w.heap.size, 0, none⟩ = some v0 := h.d.cell 0
  have d1 : wx.cell? ⟨w.heap.size, 1, none⟩ = some v1 := h.d.cell 1
  have d2 : wx.cell? ⟨w.heap.size, 2, none⟩ = some v2 := h.d.cell 2
  have d3 : wx.cell? ⟨w.heap.size, 3, none⟩ = some v3 := h.d.cell 3
  have d4 : wx.cell? ⟨w.heap.size, 4, none⟩ = some v4 := h.d.cell 4
  have d5 : wx.cell? ⟨w.heap.size, 5, none⟩ = some v5 := h.d.cell 5
  have a0 : wx.cell? ⟨w.heap.size + 1, 0, none⟩ = some a := h.a.cell 0
  have e0 : wx.cell? ⟨w.heap.size + 1 + 1, 0, none⟩ = some e := h.e.cell 0
  simp [results, Tryd.results10, go_sem, h2, h3, h4, d0, d1, d2, d3, d4, d5, a0, e0]
set_option maxRecDepth 100000 in
set_option maxHeartbeats 4000000 in
theorem parse_bad (s : Ini.Str) (hs : s.length ≤ 65536) (w : World) (hT : Lib.Utf8Tabs 0 1 w) (hw : 2 ≤ w.heap.size) (a : Nat) (hb : Ini.bad s = some a) :
    CallsIn Fence.wide 9 Tryd.prog 10 #[.string ⟨s.toArray⟩] w (PPost w s (.err a 11)) := by
  have HT := Lib.hid hT
  have HB : Hid (ckVal (Ini.bad s) = .tuple #[.int .i64 a, .int .i64 11]) := Lib.hid (by rw [hb]; rfl)
  clear hT hb
  have hsI : (s.length : Int) ≤ 65536 := by omega
  refine callsIn_of_wp_marks Tryd.func10 rfl trivial ?_ rfl
  simp only [Tryd.ntmps10, List.size_toArray, List.length_cons, List.length_nil, Nat.reduceAdd, Nat.reduceSub, Array.replicate_succ, Array.replicate_zero, List.push_toArray, List.append_toArray, List.nil_append, List.cons_append]
  gi_wp2
  obtain ⟨w3, hw3⟩ : ∃ w3, ((w.alloc (.cells docCells 29)).alloc (.cells #[.int .i64 0] 3)).alloc (.cells #[.int .i64 0] 30) = w3 := ⟨_, rfl⟩
  have HBX : Hid (RBox w w3) := Lib.hid (by rw [← hw3]; exact RBox.make w)
  unfold docCells at hw3
  rw [hw3]
  clear hw3
  refine ⟨trivial, (callsIn_wide.2 (check_any s (by omega) _ (tabs_below HT.out HBX.out.below hw) (Nat.le_trans hw HBX.out.below.size) _ HB.out)).mono ?_⟩
  rintro e w4 ⟨rfl, hb4⟩
  have HBY : Hid (RBox w w4) := Lib.hid (HBX.out.later hb4)
  clear hb4
  obtain ⟨d0, d1, d2, d3, d4, d5, a0, e0, df, af, ef⟩ := HBY.out.facts
  gi_wp2
  have hF := HBY.out.fill (.int .i64 0) (.string ⟨#[]⟩) (.slice none 0 0) (.int .i64 0) (.slice none 0 0) (.slice none 0 0) (.int .i64 a) (.int .i64 11)
  exact ⟨_, hF.run _ rfl rfl rfl, hF.below, rfl⟩
set_option maxRecDepth 100000 in
set_option maxHeartbeats 4000000 in
theorem parse_ctl (s : Ini.Str) (hs : s.length ≤ 65536) (w : World) (hT : Lib.Utf8Tabs 0 1 w) (hw : 2 ≤ w.heap.size) (hb : Ini.bad s = none) (a : Nat) (hc : Ini.ctl s 0 = some a) :
    CallsIn Fence.wide 9 Tryd.prog 10 #[.string ⟨s.toArray⟩] w (PPost w s (.err a 4)) := by
  have HT := Lib.hid hT
  have HB : Hid (ckVal (Ini.bad s) = .tuple #[.int .i64 (-1), .int .i64 0]) := Lib.hid (by rw [hb]; rfl)
  have HC : Hid (offVal (Ini.ctl s 0) = .int .i64 a) := Lib.hid (by rw [hc]; rfl)
  clear hT hb hc
  have hsI : (s.length : Int) ≤ 65536 := by omega
  refine callsIn_of_wp_marks Tryd.func10 rfl trivial ?_ rfl
  simp only [Tryd.ntmps10, List.size_toArray, List.length_cons, List.length_nil, Nat.reduceAdd, Nat.reduceSub, Array.replicate_succ, Array.replicate_zero, List.push_toArray, List.append_toArray, List.nil_append, List.cons_append]
  gi_wp2
  obtain ⟨w3, hw3⟩ : ∃ w3, ((w.alloc (.cells docCells 29)).alloc (.cells #[.int .i64 0] 3)).alloc (.cells #[.int .i64 0] 30) = w3 := ⟨_, rfl⟩
  have HBX : Hid (RBox w w3) := Lib.hid (by rw [← hw3]; exact RBox.make w)
  unfold docCells at hw3
  rw [hw3]
  clear hw3
  refine ⟨trivial, (callsIn_wide.2 (check_any s (by omega) _ (tabs_below HT.out HBX.out.below hw) (Nat.le_trans hw HBX.out.below.size) _ HB.out)).mono ?_⟩
  rintro e w4 ⟨rfl, hb4⟩
  have HBY : Hid (RBox w w4) := Lib.hid (HBX.out.later hb4)
  clear hb4
  obtain ⟨d0, d1, d2, d3, d4, d5, a0, e0, df, af, ef⟩ := HBY.out.facts
  gi_wp2
  refine ⟨trivial, (callsIn_wide.2 (control_any s (by omega) _ _ HC.out)).mono ?_⟩
  rintro e w5 ⟨rfl, rfl⟩
  gi_wp2
  have hF := HBY.out.fill (.int .i64 0) (.string ⟨#[]⟩) (.slice none 0 0) (.int .i64 0) (.slice none 0 0) (.slice none 0 0) (.int .i64 a) (.int .i64 4)
  exact ⟨_, hF.run _ rfl rfl rfl, hF.below, rfl⟩
end Go.Proofs.YtegdemnfjmaicaaDoor
