/- Walks: Parse, whole. Walks: awake. -/
import Derived.Test.YtegdemnfjmaicaaDoorWalk21
import Derived.Test.YtegdemnfjmaicaaDoorWalk22
import Derived.Deep.DeepCutAuto
import Derived.Deep.CutBlock
namespace Go.Proofs.YtegdemnfjmaicaaDoor
open Go.RowKit
/-- Parse answers as the plain parser does. -/
theorem parse_any (s : Ini.Str) (hs : s.length ≤ 65536) (w : World) (hT : Lib.Utf8Tabs 0 1 w) (hw : 2 ≤ w.heap.size) (R : Ini.Res Ini.St) (hR : Ini.parse s = R) :
    Calls Tryd.prog 10 #[.string ⟨s.toArray⟩] w (PPost w s R) := by
  refine (callsIn_wide (n := 9)).1 ?_
  unfold Ini.parse at hR
  rw [if_neg (by omega)] at hR
  cases hb : Ini.bad s with
  | some a =>
    rw [hb] at hR
    simp only at hR
    rw [← hR]
    exact parse_bad s hs w hT hw a hb
  | none =>
    rw [hb] at hR
    simp only at hR
    cases hc : Ini.ctl s 0 with
    | some a =>
      rw [hc] at hR
      simp only at hR
      rw [← hR]
      exact parse_ctl s hs w hT hw hb a hc
    | none =>
      rw [hc] at hR
      simp only at hR
      rw [Ini.lines_runs] at hR
      exact parse_lines s hs w hT hw hb hc R hR
end Go.Proofs.YtegdemnfjmaicaaDoor
namespace Go.Proofs.YtegdemnfjmaicaaDoor
open Go.RowKit
def ex1 : Ini.Str := [97, 32, 61, 32, 49, 10, 59, 32, 110, 111, 116, 101, 10, 91, 115, 93, 10, 98, 61, 34, 120, 92, 110, 121, 34, 10]
def ex2 : Ini.Str := [97, 61, 34, 120]
def ex3 : Ini.Str := [97, 61, 49, 10, 97, 61, 50]
def want1 : List Ini.Nd := [⟨10, [], [1, 3], [2, 4]⟩, ⟨5, [97], [], []⟩, ⟨5, [49], [], []⟩, ⟨5, [115], [], []⟩, ⟨10, [], [5], [6]⟩, ⟨5, [98], [], []⟩, ⟨5, [120, 10, 121], [], []⟩]
def spans1 : List Ini.Sp := [⟨0, -1, 0, 0, 26, 0, 0, false⟩, ⟨2, 0, 0, 4, 5, 0, 1, true⟩, ⟨4, 0, 1, 13, 25, 14, 15, false⟩, ⟨6, 2, 0, 19, 25, 17, 18, true⟩]
def notes1 : List Ini.Note := [⟨6, 12, [59, 32, 110, 111, 116, 101]⟩]
theorem run1 : Ini.parse ex1 = .ok ⟨want1, spans1, notes1, 4, 2⟩ := by kernel_rfl
theorem run2 : Ini.parse ex2 = .err 4 4 := by kernel_rfl
theorem run3 : Ini.parse ex3 = .err 4 8 := by kernel_rfl
theorem RowAt.ofBlk {α : Type} {L : Lay α} {w : World} {g : Nat} {E : TypeId} {cs : Array Value} {l : List α} {B : Nat} (h : Blk w g E cs) (hcs : cs.toList = L.all l) (hg : g < B) : RowAt L w B (some ⟨g, 0, none⟩) l := by
  refine ⟨L.all_len l, fun _ => ⟨_, rfl, hg, fun j u hj => ?_⟩⟩
  rw [← hcs] at hj
  have : (⟨g, 0, none⟩ : Addr).add j = ⟨g, j, none⟩ := by
    unfold Addr.add
    by_cases h : j = 0
    · simp [h]
    · simp [h]
  rw [this, h.cell]
  simpa using hj
/-- the nodes that awake wants, as they lie. -/
def wantV (b : Nat) : List NV := [⟨10, [], ⟨some ⟨b, 0, none⟩, 2, 2⟩, ⟨some ⟨b + 1, 0, none⟩, 2, 2⟩⟩, ⟨5, [97], SV.nil, SV.nil⟩, ⟨5, [49], SV.nil, SV.nil⟩, ⟨5, [115], SV.nil, SV.nil⟩, ⟨10, [], ⟨some ⟨b + 1 + 1, 0, none⟩, 1, 1⟩, ⟨some ⟨b + 1 + 1 + 1, 0, none⟩, 1, 1⟩⟩, ⟨5, [98], SV.nil, SV.nil⟩, ⟨5, [120, 10, 121], SV.nil, SV.nil⟩]
theorem nil_row {w : World} {B : Nat} : RowAt intL w B SV.nil.a [] := RowAt.nil
theorem want_at (w6 w7 : World) (h : ((((w6.alloc (.cells #[.int .i64 1, .int .i64 3] 3)).alloc (.cells #[.int .i64 2, .int .i64 4] 3)).alloc (.cells #[.int .i64 5] 3)).alloc (.cells #[.int .i64 6] 3)).alloc (.cells (nodeL.all (wantV w6.heap.size)).toArray 49) = w7) :
    GAt w7 w7.heap.size (some ⟨w6.heap.size + 1 + 1 + 1 + 1, 0, none⟩) (wantV w6.heap.size) want1 ∧ Below w6.heap.size w6 w7 := by
  obtain ⟨a1, ha1⟩ : ∃ a, w6.alloc (.cells #[.int .i64 1, .int .i64 3] 3) = a := ⟨_, rfl⟩
  have z1 : a1.heap.size = w6.heap.size + 1 := by rw [← ha1]; simp
  have b1 : Blk a1 w6.heap.size 3 #[.int .i64 1, .int .i64 3] := by rw [← ha1]; exact Blk.new _ _ _
  have l1 : Below w6.heap.size w6 a1 := by rw [← ha1]; exact (Below.refl _ _).alloc (Nat.le_refl _) _
  rw [ha1] at h
  obtain ⟨a2, ha2⟩ : ∃ a, a1.alloc (.cells #[.int .i64 2, .int .i64 4] 3) = a := ⟨_, rfl⟩
  have z2 : a2.heap.size = w6.heap.size + 1 + 1 := by rw [← ha2]; simp [z1]
  have b2 : Blk a2 (w6.heap.size + 1) 3 #[.int .i64 2, .int .i64 4] := by rw [← ha2, ← z1]; exact Blk.new _ _ _
  have m2 : Below a1.heap.size a1 a2 := by rw [← ha2]; exact (Below.refl _ _).alloc (Nat.le_refl _) _
  rw [ha2] at h
  obtain ⟨a3, ha3⟩ : ∃ a, a2.alloc (.cells #[.int .i64 5] 3) = a := ⟨_, rfl⟩
  have z3 : a3.heap.size = w6.heap.size + 1 + 1 + 1 := by rw [← ha3]; simp [z2]
  have b3 : Blk a3 (w6.heap.size + 1 + 1) 3 #[.int .i64 5] := by rw [← ha3, ← z2]; exact Blk.new _ _ _
  have m3 : Below a2.heap.size a2 a3 := by rw [← ha3]; exact (Below.refl _ _).alloc (Nat.le_refl _) _
  rw [ha3] at h
  obtain ⟨a4, ha4⟩ : ∃ a, a3.alloc (.cells #[.int .i64 6] 3) = a := ⟨_, rfl⟩
  have z4 : a4.heap.size = w6.heap.size + 1 + 1 + 1 + 1 := by rw [← ha4]; simp [z3]
  have b4 : Blk a4 (w6.heap.size + 1 + 1 + 1) 3 #[.int .i64 6] := by rw [← ha4, ← z3]; exact Blk.new _ _ _
  have m4 : Below a3.heap.size a3 a4 := by rw [← ha4]; exact (Below.refl _ _).alloc (Nat.le_refl _) _
  rw [ha4] at h
  have z5 : w7.heap.size = w6.heap.size + 1 + 1 + 1 + 1 + 1 := by rw [← h]; simp [z4]
  have b5 : Blk w7 (w6.heap.size + 1 + 1 + 1 + 1) 49 (nodeL.all (wantV w6.heap.size)).toArray := by rw [← h, ← z4]; exact Blk.new _ _ _
  have m5 : Below a4.heap.size a4 w7 := by rw [← h]; exact (Below.refl _ _).alloc (Nat.le_refl _) _
  have c4 : Blk w7 (w6.heap.size + 1 + 1 + 1) 3 _ := b4.below m5 b4.lt
  have c3 : Blk w7 (w6.heap.size + 1 + 1) 3 _ := (b3.below m4 b3.lt).below m5 (by omega)
  have c2 : Blk w7 (w6.heap.size + 1) 3 _ := ((b2.below m3 b2.lt).below m4 (by omega)).below m5 (by omega)
  have c1 : Blk w7 w6.heap.size 3 _ := (((b1.below m2 b1.lt).below m3 (by omega)).below m4 (by omega)).below m5 (by omega)
  have r1 : RowAt intL w7 w7.heap.size (some ⟨w6.heap.size, 0, none⟩) [1, 3] := RowAt.ofBlk c1 rfl (by omega)
  have r2 : RowAt intL w7 w7.heap.size (some ⟨w6.heap.size + 1, 0, none⟩) [2, 4] := RowAt.ofBlk c2 rfl (by omega)
  have r3 : RowAt intL w7 w7.heap.size (some ⟨w6.heap.size + 1 + 1, 0, none⟩) [5] := RowAt.ofBlk c3 rfl (by omega)
  have r4 : RowAt intL w7 w7.heap.size (some ⟨w6.heap.size + 1 + 1 + 1, 0, none⟩) [6] := RowAt.ofBlk c4 rfl (by omega)
  refine ⟨⟨RowAt.ofBlk b5 (by simp) (by omega), rfl, ?_, ?_⟩, ?_⟩
  · intro j h1 h2
    have h1 : j < 7 := h1
    match j, h1 with
    | 0, _ => exact ⟨rfl, rfl⟩
    | 1, _ => exact ⟨rfl, rfl⟩
    | 2, _ => exact ⟨rfl, rfl⟩
    | 3, _ => exact ⟨rfl, rfl⟩
    | 4, _ => exact ⟨rfl, rfl⟩
    | 5, _ => exact ⟨rfl, rfl⟩
    | 6, _ => exact ⟨rfl, rfl⟩
  · intro j h1 h2
    have h1 : j < 7 := h1
    match j, h1 with
    | 0, _ => exact ⟨r1, rfl, r2, rfl⟩
    | 1, _ => exact ⟨nil_row, rfl, nil_row, rfl⟩
    | 2, _ => exact ⟨nil_row, rfl, nil_row, rfl⟩
    | 3, _ => exact ⟨nil_row, rfl, nil_row, rfl⟩
    | 4, _ => exact ⟨r3, rfl, r4, rfl⟩
    | 5, _ => exact ⟨nil_row, rfl, nil_row, rfl⟩
    | 6, _ => exact ⟨nil_row, rfl, nil_row, rfl⟩
  · exact (((l1.trans (m2.mono (by omega))).trans (m3.mono (by omega))).trans (m4.mono (by omega))).trans (m5.mono (by omega))
set_option maxRecDepth 100000 in
set_option maxHeartbeats 4000000 in
theorem awake_any (w : World) (hT : Lib.Utf8Tabs 0 1 w) (hw : 2 ≤ w.heap.size) : Calls Tryd.prog 9 #[] w fun e w' => e = .returned (.bool true) ∧ Below w.heap.size w w' := by
  have HT := Lib.hid hT
  clear hT
  go_enter Tryd.func9, Tryd.ntmps9
  go_wp2_with fail
  refine (parse_any ex1 (by decide) w HT.out hw _ run1).mono ?_
  rintro e w1 ⟨hb1, V, pb, rfl, hp⟩
  obtain ⟨A1, c1, e1, hg⟩ := GAt.of_rows hp.nodes hp.rows
  obtain ⟨A2, c2, e2, hs⟩ := hp.spans.form
  obtain ⟨A3, c3, e3, _⟩ := hp.notes.form
  have HB1 := Lib.hid hb1
  have HG := Lib.hid hg
  have HS := Lib.hid hs
  have hvl : V.vs.length = 7 := hg.len
  rw [e1, e2, e3, hvl]
  rw [show (spans1).length = 4 from rfl, show (notes1).length = 1 from rfl]
  clear hb1 hg hs hp e1 e2 e3
  go_wp2_with fail
  obtain ⟨w2, hw2⟩ : ∃ w2, w1.alloc (.cells #[.int .i64 3, .string ⟨ex1.toArray⟩, .slice A1 7 c1, .int .i64 0, .slice A2 4 c2, .slice A3 1 c3] 29) = w2 := ⟨_, rfl⟩
  have b2 : Blk w2 w1.heap.size 29 #[.int .i64 3, .string ⟨ex1.toArray⟩, .slice A1 7 c1, .int .i64 0, .slice A2 4 c2, .slice A3 1 c3] := by rw [← hw2]; exact Blk.new _ _ _
  have l2 : Below w1.heap.size w1 w2 := by rw [← hw2]; exact (Below.refl _ _).alloc (Nat.le_refl _) _
  rw [hw2]
  have z2 : w1.heap.size + 1 = w2.heap.size := by rw [← hw2]; simp
  have HB2 : Hid (Below w.heap.size w w2) := Lib.hid (HB1.out.trans (l2.mono HB1.out.size))
  have B2 := Lib.hid b2
  have L2 := Lib.hid l2
  have Z2 := Lib.hid z2
  clear hw2 b2 l2 z2
  refine (parse_any ex2 (by decide) _ (tabs_below HT.out HB2.out hw) (Nat.le_trans hw HB2.out.size) _ run2).mono ?_
  rintro e w3 ⟨hb3, rfl⟩
  have L3 : Hid (Below w2.heap.size w2 w3) := Lib.hid hb3
  have HB3 : Hid (Below w.heap.size w w3) := Lib.hid (HB2.out.trans (hb3.mono HB2.out.size))
  clear hb3
  unfold noDoc
  go_wp2_with fail
  obtain ⟨w4, hw4⟩ : ∃ w4, w3.alloc (.cells #[.int .i64 0, .string ⟨#[]⟩, .slice none 0 0, .int .i64 0, .slice none 0 0, .slice none 0 0] 29) = w4 := ⟨_, rfl⟩
  have l4 : Below w3.heap.size w3 w4 := by rw [← hw4]; exact (Below.refl _ _).alloc (Nat.le_refl _) _
  rw [hw4]
  have HB4 : Hid (Below w.heap.size w w4) := Lib.hid (HB3.out.trans (l4.mono HB3.out.size))
  have L4 : Hid (Below w2.heap.size w2 w4) := Lib.hid (L3.out.trans (l4.mono L3.out.size))
  clear hw4 l4 L3 HB3
  refine (parse_any ex3 (by decide) _ (tabs_below HT.out HB4.out hw) (Nat.le_trans hw HB4.out.size) _ run3).mono ?_
  rintro e w5 ⟨hb5, rfl⟩
  have HB5 : Hid (Below w.heap.size w w5) := Lib.hid (HB4.out.trans (hb5.mono HB4.out.size))
  have L5 : Hid (Below w2.heap.size w2 w5) := Lib.hid (L4.out.trans (hb5.mono L4.out.size))
  clear hb5
  unfold noDoc
  go_upto_region 4 with fail
  obtain ⟨w6, hw6⟩ : ∃ w6, w5.alloc (.cells #[.int .i64 0, .string ⟨#[]⟩, .slice none 0 0, .int .i64 0, .slice none 0 0, .slice none 0 0] 29) = w6 := ⟨_, rfl⟩
  have l6 : Below w5.heap.size w5 w6 := by rw [← hw6]; exact (Below.refl _ _).alloc (Nat.le_refl _) _
  rw [hw6]
  have HB6 : Hid (Below w.heap.size w w6) := Lib.hid (HB5.out.trans (l6.mono HB5.out.size))
  have L6 : Hid (Below w2.heap.size w2 w6) := Lib.hid (L5.out.trans (l6.mono L5.out.size))
  clear hw6 l6 L5 HB5 L4 HB4
  go_upto_region 5 with fail
  obtain ⟨w7, hw7⟩ : ∃ w7, ((((w6.alloc (.cells #[.int .i64 1, .int .i64 3] 3)).alloc (.cells #[.int .i64 2, .int .i64 4] 3)).alloc (.cells #[.int .i64 5] 3)).alloc (.cells #[.int .i64 6] 3)).alloc (.cells (nodeL.all (wantV w6.heap.size)).toArray 49) = w7 := ⟨_, rfl⟩
  obtain ⟨hg2, l7⟩ := want_at w6 w7 hw7
  have L7 : Hid (Below w2.heap.size w2 w7) := Lib.hid (L6.out.trans (l7.mono L6.out.size))
  have HB7 : Hid (Below w.heap.size w w7) := Lib.hid (HB6.out.trans (l7.mono HB6.out.size))
  have HG2 := Lib.hid hg2
  change Code.wp _ _ _ _ (((((w6.alloc (.cells #[.int .i64 1, .int .i64 3] 3)).alloc (.cells #[.int .i64 2, .int .i64 4] 3)).alloc (.cells #[.int .i64 5] 3)).alloc (.cells #[.int .i64 6] 3)).alloc (.cells (nodeL.all (wantV w6.heap.size)).toArray 49))
  rw [hw7]
  have hl1 : Below w1.heap.size w1 w7 := L2.out.trans (L7.out.mono L2.out.size)
  have bD : Blk w7 w1.heap.size 29 #[.int .i64 3, .string ⟨ex1.toArray⟩, .slice A1 7 c1, .int .i64 0, .slice A2 4 c2, .slice A3 1 c3] := B2.out.below L7.out B2.out.lt
  have d2 : w7.cell? ⟨w1.heap.size, 2, none⟩ = some (.slice A1 7 c1) := bD.cell 2
  have d3 : w7.cell? ⟨w1.heap.size, 3, none⟩ = some (.int .i64 0) := bD.cell 3
  have d4 : w7.cell? ⟨w1.heap.size, 4, none⟩ = some (.slice A2 4 c2) := bD.cell 4
  have d5 : w7.cell? ⟨w1.heap.size, 5, none⟩ = some (.slice A3 1 c3) := bD.cell 5
  have HSG : Hid (Calls Tryd.prog 13 #[.agg #[.slice A1 7 c1, .int .i64 0], .agg #[.slice (some ⟨w6.heap.size + 1 + 1 + 1 + 1, 0, none⟩) 7 7, .int .i64 0]] w7 fun e w' => e = .returned (.bool true) ∧ Below w7.heap.size w7 w') := Lib.hid (by
    have := samegraph_any A1 (some ⟨w6.heap.size + 1 + 1 + 1 + 1, 0, none⟩) c1 7 V.vs (wantV w6.heap.size) want1 want1 w7 ((HG.out.below hl1).more hl1.size) HG2.out (by decide) true (by simp) (by decide)
    rw [hvl] at this
    exact this)
  have HL1 := Lib.hid hl1
  have BD := Lib.hid bD
  clear hw7 l7 hg2 hl1 bD hvl
  go_wp2_with fail
  refine HSG.out.mono ?_
  rintro e w8 ⟨rfl, hb8⟩
  have hl8 : Below w1.heap.size w1 w8 := HL1.out.trans (hb8.mono HL1.out.size)
  have bD : Blk w8 w1.heap.size 29 #[.int .i64 3, .string ⟨ex1.toArray⟩, .slice A1 7 c1, .int .i64 0, .slice A2 4 c2, .slice A3 1 c3] := BD.out.below hb8 BD.out.lt
  have d4 : w8.cell? ⟨w1.heap.size, 4, none⟩ = some (.slice A2 4 c2) := bD.cell 4
  have d5 : w8.cell? ⟨w1.heap.size, 5, none⟩ = some (.slice A3 1 c3) := bD.cell 5
  obtain ⟨ad, rfl, _, _, hcs⟩ := (HS.out.below hl8).get (k := 2) (by decide)
  have s3 : w8.cell? { block := (ad.add (2 * 9)).block, off := (ad.add (2 * 9)).off + 3 } = some (.int .i64 13) := hcs 3 _ (by omega) rfl
  have s4 : w8.cell? { block := (ad.add (2 * 9)).block, off := (ad.add (2 * 9)).off + 4 } = some (.int .i64 25) := hcs 4 _ (by omega) rfl
  have s3' : w8.cell? { block := ad.block, off := ad.off + 18 + 3 } = some (.int .i64 13) := by simpa [Addr.add] using s3
  have s4' : w8.cell? { block := ad.block, off := ad.off + 18 + 4 } = some (.int .i64 25) := by simpa [Addr.add] using s4
  have HB8 : Hid (Below w.heap.size w w8) := Lib.hid (HB7.out.trans (hb8.mono HB7.out.size))
  clear hb8 hl8 bD hcs s3 s4
  go_wp2_with fail
  (try go_ret)
  exact ⟨rfl, HB8.out⟩
end Go.Proofs.YtegdemnfjmaicaaDoor
