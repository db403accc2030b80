/- Walks: the reference's Parse. -/
import Derived.Test.YtegdemnfjmaicaaDoorWalk45Z
import Derived.Test.YtegdemnfjmaicaaDoorWalk21
namespace Go.Proofs.YtegdemnfjmaicaaDoor
open Go.RowKit
/-- what the reference's Parse answers. -/
def RPPost (w : World) (s : Ini.Str) (R : Ini.Res Ini.St) (e : Ending) (w' : World) : Prop :=
  Below w.heap.size w w' ∧ match R with
  | .err a c => e = .returned (.tuple #[noDoc, .int .i64 (a : Nat), .int .i64 (c : Nat)])
  | .ok st => ∃ V rb, e = .returned (.tuple #[.agg #[.int .i64 3, .string ⟨s.toArray⟩, V.nv, .int .i64 0, V.sv, V.tv], .int .i64 0, .int .i64 0]) ∧ RAt w.heap.size V w' rb s st
/-- the document's box. -/
structure RDoc (w wx : World) : Prop where
  below : Below w.heap.size w wx
  size : w.heap.size + 1 ≤ wx.heap.size
  d : Blk wx w.heap.size 29 docCells
theorem RDoc.make (w : World) : RDoc w (w.alloc (.cells docCells 29)) := ⟨(Below.refl _ _).alloc (Nat.le_refl _) _, by simp, Blk.new w 29 docCells⟩
theorem RDoc.later {w wx wy : World} (h : RDoc w wx) (hb : Below (w.heap.size + 1) wx wy) : RDoc w wy :=
  ⟨h.below.trans (hb.mono (by omega)), Nat.le_trans h.size hb.size, h.d.below hb (by omega)⟩
structure RDocF (w wx : World) : Prop where
  d0 : wx.cell? ⟨w.heap.size, 0, none⟩ = some (.int .i64 0)
  d1 : wx.cell? ⟨w.heap.size, 1, none⟩ = some (.string ⟨#[]⟩)
  d2 : wx.cell? ⟨w.heap.size, 2, none⟩ = some (.slice none 0 0)
  d3 : wx.cell? ⟨w.heap.size, 3, none⟩ = some (.int .i64 0)
  d4 : wx.cell? ⟨w.heap.size, 4, none⟩ = some (.slice none 0 0)
  d5 : wx.cell? ⟨w.heap.size, 5, none⟩ = some (.slice none 0 0)
  df : ∀ i, wx.frozen? ⟨w.heap.size, i, none⟩ = false
theorem RDoc.facts {w wx : World} (h : RDoc w wx) : RDocF w wx :=
  ⟨h.d.cell 0, h.d.cell 1, h.d.cell 2, h.d.cell 3, h.d.cell 4, h.d.cell 5, h.d.frozen⟩
/-- the document's box, filled. -/
def fillD (wx : World) (k : Nat) (v0 v1 v2 v3 v4 v5 : Value) : World :=
  (((((wx.setCell ⟨k, 0, none⟩ v0).setCell ⟨k, 1, none⟩ v1).setCell ⟨k, 2, none⟩ v2).setCell ⟨k, 3, none⟩ v3).setCell ⟨k, 4, none⟩ v4).setCell ⟨k, 5, none⟩ v5
theorem fillD_size (wx : World) (k : Nat) (v0 v1 v2 v3 v4 v5 : Value) : (fillD wx k v0 v1 v2 v3 v4 v5).heap.size = wx.heap.size := by
  unfold fillD; simp only [setCell_size]
theorem fillD_far {wx : World} {k : Nat} {v0 v1 v2 v3 v4 v5 : Value} {g : Nat} {t : TypeId} {cs : Array Value} (h : Blk wx g t cs) (hg : g ≠ k) : Blk (fillD wx k v0 v1 v2 v3 v4 v5) g t cs := by
  unfold fillD
  exact (((((h.far (p := ⟨k, 0, none⟩) hg v0).far (p := ⟨k, 1, none⟩) hg v1).far (p := ⟨k, 2, none⟩) hg v2).far (p := ⟨k, 3, none⟩) hg v3).far (p := ⟨k, 4, none⟩) hg v4).far (p := ⟨k, 5, none⟩) hg v5
theorem fillD_kept (wx : World) (k B : Nat) (hB : k < B) (v0 v1 v2 v3 v4 v5 : Value) : KeptAll B wx (fillD wx k v0 v1 v2 v3 v4 v5) := fun _ _ _ hg hb => fillD_far hb (by omega)
theorem fillD_below {w wx : World} (h : Below w.heap.size w wx) (v0 v1 v2 v3 v4 v5 : Value) : Below w.heap.size w (fillD wx w.heap.size v0 v1 v2 v3 v4 v5) := by
  unfold fillD
  have h1 := h.setCell (p := ⟨w.heap.size, 0, none⟩) (by simp) v0
  have h2 := h1.setCell (p := ⟨w.heap.size, 1, none⟩) (by simp) v1
  have h3 := h2.setCell (p := ⟨w.heap.size, 2, none⟩) (by simp) v2
  have h4 := h3.setCell (p := ⟨w.heap.size, 3, none⟩) (by simp) v3
  have h5 := h4.setCell (p := ⟨w.heap.size, 4, none⟩) (by simp) v4
  exact h5.setCell (p := ⟨w.heap.size, 5, none⟩) (by simp) v5
structure RFullD (w wx : World) (v0 v1 v2 v3 v4 v5 : Value) : Prop where
  below : Below w.heap.size w wx
  d : Blk wx w.heap.size 29 #[v0, v1, v2, v3, v4, v5]
theorem RDoc.fill {w wx : World} (h : RDoc w wx) (v0 v1 v2 v3 v4 v5 : Value) : RFullD w (fillD wx w.heap.size v0 v1 v2 v3 v4 v5) v0 v1 v2 v3 v4 v5 :=
  ⟨fillD_below h.below _ _ _ _ _ _, (((((h.d.set_ 0 v0).set_ 1 v1).set_ 2 v2).set_ 3 v3).set_ 4 v4).set_ 5 v5⟩
theorem RFullD.drew {w wx : World} {v0 v1 v2 v3 v4 v5 : Value} (h : RFullD w wx v0 v1 v2 v3 v4 v5) : RFullD w wx.drew v0 v1 v2 v3 v4 v5 := ⟨below_drewN h.below 1, h.d.drew⟩
theorem RFullD.run {w wx : World} {v0 v1 v2 v3 v4 v5 a e : Value} (h : RFullD w wx v0 v1 v2 v3 v4 v5) (tmps : Array Value) (h2 : tmps[2]? = some (.pointer (some ⟨w.heap.size, 0, none⟩))) (h3 : tmps[3]? = some a) (h4 : tmps[4]? = some e) :
    (results Tryd.f11 tmps).run Tryd.prog wx = .ok (.tuple #[.agg #[v0, v1, v2, v3, v4, v5], a, e]) wx := by
  have d0 : wx.cell? ⟨w.heap.size, 0, none⟩ = some v0 := h.d.cell 0
  have d1 : wx.cell? ⟨w.heap.size, 1, none⟩ = some v1 := h.d.cell 1
  have d2 : wx.cell? ⟨w.heap.size, 2, none⟩ = some v2 := h.d.cell 2
  have d3 : wx.cell? ⟨w.heap.size, 3, none⟩ = some v3 := h.d.cell 3
  have d4 : wx.cell? ⟨w.heap.size, 4, none⟩ = some v4 := h.d.cell 4
  have d5 : wx.cell? ⟨w.heap.size, 5, none⟩ = some v5 := h.d.cell 5
  simp [results, Tryd.results11, go_sem, h2, h3, h4, d0, d1, d2, d3, d4, d5]
theorem RAt.keptAll {B : Nat} {V : PV} {w w' : World} {rb : Nat} {s : Ini.Str} {st : Ini.St} (h : RAt B V w rb s st) (hk : KeptAll B w w') (hs : w.heap.size ≤ w'.heap.size) : RAt B V w' rb s st :=
  ⟨h.le, Nat.le_trans h.base hs, hk _ _ _ h.le h.blk, h.nodes.keptFrom hk, h.spans.keptFrom hk, h.notes.keptFrom hk, ⟨h.rows.len, h.rows.kind, fun j b => (h.rows.own j b).keptFrom hk, h.rows.apart⟩⟩
theorem RAt.weaken {B B' : Nat} {V : PV} {w : World} {rb : Nat} {s : Ini.Str} {st : Ini.St} (h : RAt B V w rb s st) (hB : B' ≤ B) : RAt B' V w rb s st :=
  ⟨Nat.le_trans hB h.le, Nat.le_trans hB h.base, h.blk, h.nodes.weaken hB, h.spans.weaken hB, h.notes.weaken hB, ⟨h.rows.len, h.rows.kind, fun j b => (h.rows.own j b).weaken hB, h.rows.apart⟩⟩
theorem SpOk.start (n : Nat) : SpOk (Ini.start n) := ⟨⟨by simp [Ini.start], rfl⟩, ⟨by simp [Ini.start], rfl⟩⟩
/-- the reader's first state. -/
theorem rstart_at (B : Nat) (w4 : World) (hB : B ≤ w4.heap.size) (s : Ini.Str) (W : World)
    (hW : ((w4.alloc (.cells #[.int .i64 3, .string ⟨s.toArray⟩, .slice (some ⟨w4.heap.size + 1, 0, none⟩) 1 1, .int .i64 0, .slice (some ⟨w4.heap.size + 1 + 1, 0, none⟩) 1 1, .slice none 0 0, .int .i64 0, .int .i64 0, .int .i64 0] 74)).alloc (.cells #[.int .i64 10, .string ⟨#[]⟩, .bool false, .slice none 0 0, .slice none 0 0] 49)).alloc
      (.cells #[.int .i64 0, .int .i64 (-1), .int .i64 0, .int .i64 0, .int .i64 s.length, .int .i64 0, .int .i64 0, .bool false, .bool false] 45) = W) :
    RAt B (V0 (w4.heap.size + 1) (w4.heap.size + 1 + 1)) W w4.heap.size s (Ini.start s.length) ∧ Below w4.heap.size w4 W := by
  obtain ⟨w1, hw1⟩ : ∃ w1, w4.alloc (.cells (rcells (V0 (w4.heap.size + 1) (w4.heap.size + 1 + 1)) s 0) 74) = w1 := ⟨_, rfl⟩
  have z1 : w1.heap.size = w4.heap.size + 1 := by rw [← hw1]; simp
  have b1 : Blk w1 w4.heap.size 74 (rcells (V0 (w4.heap.size + 1) (w4.heap.size + 1 + 1)) s 0) := by rw [← hw1]; exact Blk.new _ _ _
  have l1 : Below w4.heap.size w4 w1 := by rw [← hw1]; exact (Below.refl _ _).alloc (Nat.le_refl _) _
  change (((w4.alloc (.cells (rcells (V0 (w4.heap.size + 1) (w4.heap.size + 1 + 1)) s 0) 74)).alloc _).alloc _) = W at hW
  rw [hw1] at hW
  obtain ⟨w3, hw3⟩ : ∃ w3, w1.alloc (.cells #[.int .i64 10, .string ⟨#[]⟩, .bool false, .slice none 0 0, .slice none 0 0] 49) = w3 := ⟨_, rfl⟩
  have z3 : w3.heap.size = w4.heap.size + 1 + 1 := by rw [← hw3]; simp [z1]
  have n3 : OwnRow nodeL w3 B 49 (.slice (some ⟨w4.heap.size + 1, 0, none⟩) 1 1) [⟨10, [], SV.nil, SV.nil⟩] := by rw [← hw3, ← z1]; exact OwnRow.lit1 (by omega) _ _ rfl
  have c3 := b1.alloc (.cells #[.int .i64 10, .string ⟨#[]⟩, .bool false, .slice none 0 0, .slice none 0 0] 49)
  rw [hw3] at c3
  have l3 : Below w4.heap.size w4 w3 := by rw [← hw3]; exact l1.alloc (by omega) _
  rw [hw3] at hW
  have s5 : OwnRow spanL W B 45 (.slice (some ⟨w4.heap.size + 1 + 1, 0, none⟩) 1 1) (Ini.start s.length).spans := by rw [← hW, ← z3]; exact OwnRow.lit1 (by omega) _ _ rfl
  have n5 : OwnRow nodeL W B 49 (.slice (some ⟨w4.heap.size + 1, 0, none⟩) 1 1) [⟨10, [], SV.nil, SV.nil⟩] := by rw [← hW]; exact n3.alloc _
  have c5 : Blk W w4.heap.size 74 (rcells (V0 (w4.heap.size + 1) (w4.heap.size + 1 + 1)) s 0) := by rw [← hW]; exact c3.alloc _
  have l5 : Below w4.heap.size w4 W := by rw [← hW]; exact l3.alloc (by omega) _
  exact ⟨⟨hB, Nat.le_trans hB l5.size, c5, n5, s5, OwnRow.nil, rows_start _ _ _⟩, l5⟩
/-- where the loop over the lines stands. -/
structure RIn (s : Ini.Str) (R : Ini.Res Ini.St) (V : PV) (st : Ini.St) (a i : Nat) : Prop where
  e : V.e_ = .int .i64 0
  fit : Fit st
  sp : SpOk st
  notes : st.notes.length ≤ a
  ai : a ≤ i
  il : i ≤ s.length
  none : ∀ j (_ : j < s.length), a ≤ j → j < i → s[j] ≠ 10
  eq : ∃ n, s.length + 1 ≤ n + a ∧ Ini.lines n st (s.drop a) a = R
def RSt (s : Ini.Str) (R : Ini.Res Ini.St) (V : PV) (st : Ini.St) (a i : Nat) : Prop :=
  RIn s R V st a i ∨ (i = s.length + 1 ∧ V.e_ = .int .i64 0 ∧ R = .ok st) ∨ (i ≤ s.length + 1 ∧ ∃ x c : Nat, c ≠ 0 ∧ V.at_ = .int .i64 (x : Int) ∧ V.e_ = .int .i64 (c : Int) ∧ R = .err x c)
theorem RSt.le {s : Ini.Str} {R : Ini.Res Ini.St} {V : PV} {st : Ini.St} {a i : Nat} (h : RSt s R V st a i) : i ≤ s.length + 1 := by
  rcases h with h | h | h
  · have := h.il; omega
  · omega
  · exact h.1
theorem RIn.skip {s : Ini.Str} {R : Ini.Res Ini.St} {V : PV} {st : Ini.St} {a i : Nat} (h : RIn s R V st a i) (hi : i < s.length) (hn : s[i] ≠ 10) : RIn s R V st a (i + 1) :=
  ⟨h.e, h.fit, h.sp, h.notes, by have := h.ai; omega, hi, fun j hj h1 h2 => by
    rcases Nat.lt_or_ge j i with h3 | h3
    · exact h.none j hj h1 h3
    · obtain rfl : j = i := by omega
      exact hn, h.eq⟩
/-- the line that ends at i, read. -/
theorem RIn.next {s : Ini.Str} {R : Ini.Res Ini.St} {V : PV} {st : Ini.St} {a i tz : Nat} (h : RIn s R V st a i)
    (hz : (∃ hi : i < s.length, s[i] = 10 ∧ Ini.cr (seg s a i) = seg s a tz) ∨ (i = s.length ∧ tz = i)) {B rb : Nat} {w' : World} (hp : RLPost B V rb s (Ini.line st (seg s a tz) a) w') :
    ∃ V' st', RAt B V' w' rb s st' ∧ RSt s R V' st' (i + 1) (i + 1) := by
  obtain ⟨n, hn, hR⟩ := h.eq
  have hai := h.ai
  have hil := h.il
  obtain ⟨n, rfl⟩ : ∃ m, n = m + 1 := ⟨n - 1, by omega⟩
  have hR2 : (match Ini.line st (seg s a tz) a with | .err x e => Ini.Res.err x e | .ok st' => if i = s.length then .ok st' else Ini.lines n st' (s.drop (i + 1)) (i + 1)) = R := by
    rcases hz with ⟨hi, h10, hc⟩ | ⟨hi, rfl⟩
    · rw [lines_next n st s a i hai hi h.none h10, hc] at hR
      rw [← hR]
      cases Ini.line st (seg s a tz) a with
      | err x e => rfl
      | ok st' => simp only; rw [if_neg (by omega)]
    · subst hi
      rw [lines_last n st s a (fun j hj h1 => h.none j hj h1 hj)] at hR
      rw [← hR]
      cases Ini.line st (seg s a s.length) a with
      | err x e => rfl
      | ok st' => simp
  cases hl : Ini.line st (seg s a tz) a with
  | err x c =>
    rw [hl] at hp hR2
    obtain ⟨hc, V', st', hA, h1, h2⟩ := hp
    exact ⟨V', st', hA, .inr (.inr ⟨by omega, x, c, hc, h1, h2, hR2.symm⟩)⟩
  | ok st' =>
    rw [hl] at hp hR2
    obtain ⟨V', hA, h1, h2⟩ := hp
    obtain ⟨q1, q2⟩ := SpOk.line h.fit h.sp hl
    refine ⟨V', st', hA, ?_⟩
    by_cases hi : i = s.length
    · simp only at hR2
      rw [if_pos hi] at hR2
      exact .inr (.inl ⟨by omega, h2, hR2.symm⟩)
    · simp only at hR2
      rw [if_neg hi] at hR2
      have := h.notes
      exact .inl ⟨h2, h.fit.line hl, q1, by omega, Nat.le_refl _, by omega, fun j _ h1 h2 => by omega, n, by omega, hR2⟩
theorem RIn.start (s : Ini.Str) (R : Ini.Res Ini.St) (V : PV) (he : V.e_ = .int .i64 0) (h : Ini.lines (s.length + 1) (Ini.start s.length) s 0 = R) : RIn s R V (Ini.start s.length) 0 0 :=
  ⟨he, Fit.start _, SpOk.start _, by simp [Ini.start], Nat.le_refl _, Nat.zero_le _, fun j _ _ h => by omega, s.length + 1, by omega, by simpa using h⟩
/-- what the loop over the lines holds. -/
def RLoop (w wr : World) (s : Ini.Str) (R : Ini.Res Ini.St) (rb a i : Nat) : Prop :=
  RDoc w wr ∧ ∃ V st, RAt (w.heap.size + 1) V wr rb s st ∧ RSt s R V st a i
set_option maxRecDepth 100000 in
set_option maxHeartbeats 8000000 in
theorem rparse_bad (s : Ini.Str) (hs : s.length ≤ 65536) (w : World) (a : Nat) (hb : Ini.bad s = some a) : Calls Tryd.prog 11 #[.string ⟨s.toArray⟩] w (RPPost w s (.err a 11)) := by
  have HB : Hid (badN s = (a : Int)) := Lib.hid (by unfold badN; rw [hb])
  have hsI : ¬ (65536 < (s.length : Int)) := by omega
  have haI : (0 : Int) ≤ (a : Int) := by omega
  clear hb
  go_enter Tryd.func11, Tryd.ntmps11
  obtain ⟨w1, hw1⟩ : ∃ w1, w.alloc (.cells docCells 29) = w1 := ⟨_, rfl⟩
  have HD1 : Hid (RDoc w w1) := Lib.hid (by rw [← hw1]; exact RDoc.make w)
  unfold docCells at hw1
  go_upto_region 1 with fail
  (try rw [hw1])
  clear hw1
  go_wp2_with fail
  refine (decode_any s (by omega) _).mono ?_
  rintro e w2 ⟨hb2, v, rfl⟩
  have HD2 := Lib.hid (HD1.out.later (hb2.mono HD1.out.size))
  rw [HB.out]
  clear hb2 HD1
  obtain ⟨d0, d1, d2, d3, d4, d5, df⟩ := HD2.out.facts
  go_wp2_with fail
  have hF := HD2.out.fill (.int .i64 0) (.string ⟨#[]⟩) (.slice none 0 0) (.int .i64 0) (.slice none 0 0) (.slice none 0 0)
  refine bodyPost_ret (v := .tuple #[noDoc, .int .i64 a, .int .i64 11]) (hF.run _ rfl rfl rfl) rfl ?_
  exact ⟨hF.below, rfl⟩
set_option maxRecDepth 100000 in
set_option maxHeartbeats 8000000 in
theorem rparse_ctl (s : Ini.Str) (hs : s.length ≤ 65536) (w : World) (hb : Ini.bad s = none) (a : Nat) (hct : Ini.ctl s 0 = some a) : Calls Tryd.prog 11 #[.string ⟨s.toArray⟩] w (RPPost w s (.err a 4)) := by
  have HB : Hid (badN s = -1) := Lib.hid (by unfold badN; rw [hb])
  have HCT := Lib.hid hct
  have hsI : ¬ (65536 < (s.length : Int)) := by omega
  clear hb hct
  go_enter Tryd.func11, Tryd.ntmps11
  obtain ⟨w1, hw1⟩ : ∃ w1, w.alloc (.cells docCells 29) = w1 := ⟨_, rfl⟩
  have HD1 : Hid (RDoc w w1) := Lib.hid (by rw [← hw1]; exact RDoc.make w)
  unfold docCells at hw1
  go_upto_region 1 with fail
  (try rw [hw1])
  clear hw1
  go_wp2_with fail
  refine (decode_any s (by omega) _).mono ?_
  rintro e w2 ⟨hb2, v, rfl⟩
  have HD2 := Lib.hid (HD1.out.later (hb2.mono HD1.out.size))
  rw [HB.out]
  clear hb2 HD1
  obtain ⟨d0, d1, d2, d3, d4, d5, df⟩ := HD2.out.facts
  go_upto_region 7 with fail
  go_loop [7] (fun x => ∃ i : Nat, i ≤ s.length ∧ x = .int .i64 i ∧ Hid (Ini.ctl s 0 = Ini.ctl (s.drop i) i)) (fun i => s.length - (intOf i).toNat)
  case atStart => exact ⟨0, by omega, rfl, Lib.hid rfl⟩
  case round =>
    obtain ⟨i, hi, rfl, HC⟩ := hrel
    by_cases hil : i < s.length
    · have hilI : (i : Int) < (s.length : Int) := by omega
      obtain ⟨c, hc⟩ : ∃ c, s[i] = c := ⟨_, rfl⟩
      obtain ⟨r, hr⟩ : ∃ r, s.drop (i + 1) = r := ⟨_, rfl⟩
      have hd : s.drop i = c :: r := by rw [List.drop_eq_getElem_cons hil, hc, hr]
      have q0 := byte_is s i hil c c c.toNat rfl hc rfl
      have hg : Hid ((32 ≤ c.toNat ∨ c = 9 ∨ c = 10 ∨ (c = 13 ∧ r.head? = some 10)) → Ini.ctl s 0 = Ini.ctl (s.drop (i + 1)) (i + 1)) := Lib.hid (fun h => by rw [HC.out, hd, Ini.ctl_go c r i h, hr])
      have hst : Hid (c.toNat < 32 → c ≠ 9 → c ≠ 10 → (c = 13 → r.head? ≠ some 10) → Ini.ctl s 0 = some i) := Lib.hid (fun h1 h2 h3 h4 => by rw [HC.out, hd, Ini.ctl_stop c r i h1 h2 h3 h4])
      clear hd
      by_cases h32 : 32 ≤ c.toNat
      · have HX := Lib.hid (hg.out (.inl h32))
        have k1 : ¬ ((c.toNat : Int) < 32) := by omega
        clear hg hst h32
        go_wp2_with fail
        go_round
        case rel => exact ⟨i + 1, by omega, by go_num, HX⟩
        case measure => simp [intOf]; omega
      · have k1 : (c.toNat : Int) < 32 := by omega
        by_cases h10 : c = 10
        · have HX := Lib.hid (hg.out (.inr (.inr (.inl h10))))
          have k2 : (c.toNat : Int) = 10 := by rw [h10]; rfl
          have k9 : ¬ ((c.toNat : Int) = 9) := by omega
          have k9b : ((c.toNat : Int) == 9) = false := by simpa using k9
          clear hg hst h32 h10
          go_wp2_with fail
          go_round
          case rel => exact ⟨i + 1, by omega, by go_num, HX⟩
          case measure => simp [intOf]; omega
        · have k2 : ¬ ((c.toNat : Int) = 10) := toNat_ne h10
          have k2b : ((c.toNat : Int) == 10) = false := by simpa using k2
          by_cases h13 : c = 13
          · have k3 : (c.toNat : Int) = 13 := by rw [h13]; rfl
            have k9 : ¬ ((c.toNat : Int) = 9) := by omega
            have k9b : ((c.toNat : Int) == 9) = false := by simpa using k9
            by_cases hi1 : i + 1 < s.length
            · obtain ⟨d, hdd⟩ : ∃ d, s[i + 1] = d := ⟨_, rfl⟩
              have hrh : r.head? = some d := by rw [← hr, List.drop_eq_getElem_cons hi1, hdd]; rfl
              have q1 := byte_is s (i + 1) hi1 d d d.toNat rfl hdd rfl
              have hi1I : (i : Int) + 1 < (s.length : Int) := by omega
              have hi1e : ¬ ((i : Int) + 1 = (s.length : Int)) := by omega
              have hi1b : ((i : Int) + 1 == (s.length : Int)) = false := by simpa using hi1e
              by_cases hd10 : d = 10
              · have HX := Lib.hid (hg.out (.inr (.inr (.inr ⟨h13, by rw [hrh, hd10]⟩))))
                have k4 : (d.toNat : Int) = 10 := by rw [hd10]; rfl
                clear hg hst h32 h10 h13 hrh hd10 hc hdd hr
                go_wp2_with fail
                go_round
                case rel => exact ⟨i + 1, by omega, by go_num, HX⟩
                case measure => simp [intOf]; omega
              · have HX := Lib.hid (hst.out (by omega) (by rw [h13]; decide) h10 (fun _ e => hd10 (by rw [hrh] at e; injection e)))
                have k4 : ¬ ((d.toNat : Int) = 10) := toNat_ne hd10
                have k4b : ((d.toNat : Int) == 10) = false := by simpa using k4
                clear hg hst h32 h10 h13 hrh hd10 hc hdd hr
                go_wp2_with fail
                have hia : i = a := by have := HX.out; rw [HCT.out] at this; injection this with this; omega
                subst hia
                have hF := HD2.out.fill (.int .i64 0) (.string ⟨#[]⟩) (.slice none 0 0) (.int .i64 0) (.slice none 0 0) (.slice none 0 0)
                refine bodyPost_ret (v := .tuple #[noDoc, .int .i64 i, .int .i64 4]) (hF.run _ rfl rfl rfl) rfl ?_
                exact ⟨hF.below, rfl⟩
            · have hi1e : (i : Int) + 1 = (s.length : Int) := by omega
              have hi1b : ((i : Int) + 1 == (s.length : Int)) = true := by simpa using hi1e
              have hrn : r = [] := by rw [← hr]; exact List.drop_eq_nil_of_le (by omega)
              have HX := Lib.hid (hst.out (by omega) (by rw [h13]; decide) h10 (fun _ e => by rw [hrn] at e; cases e))
              clear hg hst h32 h10 h13 hrn hc hr
              go_wp2_with fail
              have hia : i = a := by have := HX.out; rw [HCT.out] at this; injection this with this; omega
              subst hia
              have hF := HD2.out.fill (.int .i64 0) (.string ⟨#[]⟩) (.slice none 0 0) (.int .i64 0) (.slice none 0 0) (.slice none 0 0)
              refine bodyPost_ret (v := .tuple #[noDoc, .int .i64 i, .int .i64 4]) (hF.run _ rfl rfl rfl) rfl ?_
              exact ⟨hF.below, rfl⟩
          · have k3 : ¬ ((c.toNat : Int) = 13) := toNat_ne h13
            have k3b : ((c.toNat : Int) == 13) = false := by simpa using k3
            by_cases h9 : c = 9
            · have HX := Lib.hid (hg.out (.inr (.inl h9)))
              have k4 : (c.toNat : Int) = 9 := by rw [h9]; rfl
              clear hg hst h32 h10 h13 h9 hc hr
              go_wp2_with fail
              go_round
              case rel => exact ⟨i + 1, by omega, by go_num, HX⟩
              case measure => simp [intOf]; omega
            · have HX := Lib.hid (hst.out (by omega) h9 h10 (fun e => (h13 e).elim))
              have k4 : ¬ ((c.toNat : Int) = 9) := toNat_ne h9
              have k4b : ((c.toNat : Int) == 9) = false := by simpa using k4
              have k4c : ((c.toNat : Int) != 9) = true := by simpa using k4
              have k2c : ((c.toNat : Int) != 10) = true := by simpa using k2
              have k3c : ((c.toNat : Int) != 13) = true := by simpa using k3
              clear hg hst h32 h10 h13 h9 hc hr
              go_wp2_with fail
              have hia : i = a := by have := HX.out; rw [HCT.out] at this; injection this with this; omega
              subst hia
              have hF := HD2.out.fill (.int .i64 0) (.string ⟨#[]⟩) (.slice none 0 0) (.int .i64 0) (.slice none 0 0) (.slice none 0 0)
              refine bodyPost_ret (v := .tuple #[noDoc, .int .i64 i, .int .i64 4]) (hF.run _ rfl rfl rfl) rfl ?_
              exact ⟨hF.below, rfl⟩
    · have hilI : ¬ ((i : Int) < (s.length : Int)) := by omega
      have HX : Hid (Ini.ctl s 0 = none) := Lib.hid (by rw [HC.out, List.drop_eq_nil_of_le (by omega)]; rfl)
      exact absurd HX.out (by rw [HCT.out]; simp)
set_option maxRecDepth 100000 in
set_option maxHeartbeats 8000000 in
theorem rparse_lines (s : Ini.Str) (hs : s.length ≤ 65536) (w : World) (hb : Ini.bad s = none) (hct : Ini.ctl s 0 = none) (R : Ini.Res Ini.St) (hR : Ini.lines (s.length + 1) (Ini.start s.length) s 0 = R) : Calls Tryd.prog 11 #[.string ⟨s.toArray⟩] w (RPPost w s R) := by
  have HB : Hid (badN s = -1) := Lib.hid (by unfold badN; rw [hb])
  have HCT := Lib.hid hct
  have HR := Lib.hid hR
  have hsI : ¬ (65536 < (s.length : Int)) := by omega
  clear hb hct hR
  go_enter Tryd.func11, Tryd.ntmps11
  obtain ⟨w1, hw1⟩ : ∃ w1, w.alloc (.cells docCells 29) = w1 := ⟨_, rfl⟩
  have HD1 : Hid (RDoc w w1) := Lib.hid (by rw [← hw1]; exact RDoc.make w)
  unfold docCells at hw1
  go_upto_region 1 with fail
  (try rw [hw1])
  clear hw1
  go_wp2_with fail
  refine (decode_any s (by omega) _).mono ?_
  rintro e w2 ⟨hb2, v, rfl⟩
  have HD2 := Lib.hid (HD1.out.later (hb2.mono HD1.out.size))
  rw [HB.out]
  clear hb2 HD1
  go_upto_region 7 with fail
  go_loop [7] (fun x => ∃ i : Nat, i ≤ s.length ∧ x = .int .i64 i ∧ Hid (Ini.ctl s 0 = Ini.ctl (s.drop i) i)) (fun i => s.length - (intOf i).toNat)
  case atStart => exact ⟨0, by omega, rfl, Lib.hid rfl⟩
  case round =>
    obtain ⟨i, hi, rfl, HC⟩ := hrel
    by_cases hil : i < s.length
    · have hilI : (i : Int) < (s.length : Int) := by omega
      obtain ⟨c, hc⟩ : ∃ c, s[i] = c := ⟨_, rfl⟩
      obtain ⟨r, hr⟩ : ∃ r, s.drop (i + 1) = r := ⟨_, rfl⟩
      have hd : s.drop i = c :: r := by rw [List.drop_eq_getElem_cons hil, hc, hr]
      have q0 := byte_is s i hil c c c.toNat rfl hc rfl
      have hg : Hid ((32 ≤ c.toNat ∨ c = 9 ∨ c = 10 ∨ (c = 13 ∧ r.head? = some 10)) → Ini.ctl s 0 = Ini.ctl (s.drop (i + 1)) (i + 1)) := Lib.hid (fun h => by rw [HC.out, hd, Ini.ctl_go c r i h, hr])
      have hst : Hid (c.toNat < 32 → c ≠ 9 → c ≠ 10 → (c = 13 → r.head? ≠ some 10) → Ini.ctl s 0 = some i) := Lib.hid (fun h1 h2 h3 h4 => by rw [HC.out, hd, Ini.ctl_stop c r i h1 h2 h3 h4])
      clear hd
      by_cases h32 : 32 ≤ c.toNat
      · have HX := Lib.hid (hg.out (.inl h32))
        have k1 : ¬ ((c.toNat : Int) < 32) := by omega
        clear hg hst h32
        go_wp2_with fail
        go_round
        case rel => exact ⟨i + 1, by omega, by go_num, HX⟩
        case measure => simp [intOf]; omega
      · have k1 : (c.toNat : Int) < 32 := by omega
        by_cases h10 : c = 10
        · have HX := Lib.hid (hg.out (.inr (.inr (.inl h10))))
          have k2 : (c.toNat : Int) = 10 := by rw [h10]; rfl
          have k9 : ¬ ((c.toNat : Int) = 9) := by omega
          have k9b : ((c.toNat : Int) == 9) = false := by simpa using k9
          clear hg hst h32 h10
          go_wp2_with fail
          go_round
          case rel => exact ⟨i + 1, by omega, by go_num, HX⟩
          case measure => simp [intOf]; omega
        · have k2 : ¬ ((c.toNat : Int) = 10) := toNat_ne h10
          have k2b : ((c.toNat : Int) == 10) = false := by simpa using k2
          by_cases h13 : c = 13
          · have k3 : (c.toNat : Int) = 13 := by rw [h13]; rfl
            have k9 : ¬ ((c.toNat : Int) = 9) := by omega
            have k9b : ((c.toNat : Int) == 9) = false := by simpa using k9
            by_cases hi1 : i + 1 < s.length
            · obtain ⟨d, hdd⟩ : ∃ d, s[i + 1] = d := ⟨_, rfl⟩
              have hrh : r.head? = some d := by rw [← hr, List.drop_eq_getElem_cons hi1, hdd]; rfl
              have q1 := byte_is s (i + 1) hi1 d d d.toNat rfl hdd rfl
              have hi1I : (i : Int) + 1 < (s.length : Int) := by omega
              have hi1e : ¬ ((i : Int) + 1 = (s.length : Int)) := by omega
              have hi1b : ((i : Int) + 1 == (s.length : Int)) = false := by simpa using hi1e
              by_cases hd10 : d = 10
              · have HX := Lib.hid (hg.out (.inr (.inr (.inr ⟨h13, by rw [hrh, hd10]⟩))))
                have k4 : (d.toNat : Int) = 10 := by rw [hd10]; rfl
                clear hg hst h32 h10 h13 hrh hd10 hc hdd hr
                go_wp2_with fail
                go_round
                case rel => exact ⟨i + 1, by omega, by go_num, HX⟩
                case measure => simp [intOf]; omega
              · have HX := Lib.hid (hst.out (by omega) (by rw [h13]; decide) h10 (fun _ e => hd10 (by rw [hrh] at e; injection e)))
                have k4 : ¬ ((d.toNat : Int) = 10) := toNat_ne hd10
                have k4b : ((d.toNat : Int) == 10) = false := by simpa using k4
                clear hg hst h32 h10 h13 hrh hd10 hc hdd hr
                exact absurd HX.out (by rw [HCT.out]; simp)
            · have hi1e : (i : Int) + 1 = (s.length : Int) := by omega
              have hi1b : ((i : Int) + 1 == (s.length : Int)) = true := by simpa using hi1e
              have hrn : r = [] := by rw [← hr]; exact List.drop_eq_nil_of_le (by omega)
              have HX := Lib.hid (hst.out (by omega) (by rw [h13]; decide) h10 (fun _ e => by rw [hrn] at e; cases e))
              clear hg hst h32 h10 h13 hrn hc hr
              exact absurd HX.out (by rw [HCT.out]; simp)
          · have k3 : ¬ ((c.toNat : Int) = 13) := toNat_ne h13
            have k3b : ((c.toNat : Int) == 13) = false := by simpa using k3
            by_cases h9 : c = 9
            · have HX := Lib.hid (hg.out (.inr (.inl h9)))
              have k4 : (c.toNat : Int) = 9 := by rw [h9]; rfl
              clear hg hst h32 h10 h13 h9 hc hr
              go_wp2_with fail
              go_round
              case rel => exact ⟨i + 1, by omega, by go_num, HX⟩
              case measure => simp [intOf]; omega
            · have HX := Lib.hid (hst.out (by omega) h9 h10 (fun e => (h13 e).elim))
              have k4 : ¬ ((c.toNat : Int) = 9) := toNat_ne h9
              have k4b : ((c.toNat : Int) == 9) = false := by simpa using k4
              have k4c : ((c.toNat : Int) != 9) = true := by simpa using k4
              have k2c : ((c.toNat : Int) != 10) = true := by simpa using k2
              have k3c : ((c.toNat : Int) != 13) = true := by simpa using k3
              clear hg hst h32 h10 h13 h9 hc hr
              exact absurd HX.out (by rw [HCT.out]; simp)
    · have hilI : ¬ ((i : Int) < (s.length : Int)) := by omega
      have HX : Hid (Ini.ctl s 0 = none) := Lib.hid (by rw [HC.out, List.drop_eq_nil_of_le (by omega)]; rfl)
      go_upto_region 16 with fail
      obtain ⟨W, hW⟩ : ∃ W, ((w2.alloc (.cells #[.int .i64 3, .string ⟨s.toArray⟩, .slice (some ⟨w2.heap.size + 1, 0, none⟩) 1 1, .int .i64 0, .slice (some ⟨w2.heap.size + 1 + 1, 0, none⟩) 1 1, .slice none 0 0, .int .i64 0, .int .i64 0, .int .i64 0] 74)).alloc (.cells #[.int .i64 10, .string ⟨#[]⟩, .bool false, .slice none 0 0, .slice none 0 0] 49)).alloc
            (.cells #[.int .i64 0, .int .i64 (-1), .int .i64 0, .int .i64 0, .int .i64 s.length, .int .i64 0, .int .i64 0, .bool false, .bool false] 45) = W := ⟨_, rfl⟩
      obtain ⟨hA0, hB0⟩ := rstart_at (w.heap.size + 1) w2 HD2.out.size s W hW
      rw [hW]
      have HL0 : Hid (RLoop w W s R w2.heap.size 0 0) := Lib.hid ⟨HD2.out.later (hB0.mono HD2.out.size), _, _, hA0, .inl (RIn.start s R _ rfl HR.out)⟩
      clear hW hA0 hB0
      obtain ⟨rb, hrb⟩ : ∃ rb, w2.heap.size = rb := ⟨_, rfl⟩
      rw [hrb] at HL0 ⊢
      clear hrb HD2 HC HX hilI hil hi
      go_loopw [10, 11] (fun s10 s11 wr => ∃ a i : Nat, s10 = .int .i64 a ∧ s11 = .int .i64 i ∧ Hid (RLoop w wr s R rb a i)) (fun _ s11 _ => s.length + 1 - (intOf s11).toNat)
      case atStart => exact ⟨0, 0, rfl, rfl, HL0⟩
      case round =>
        obtain ⟨a, i, rfl, rfl, HL⟩ := hrel
        clear HL0
        obtain ⟨hbox, V, st, hA, hS⟩ := HL.out
        have hil := hS.le
        rcases hS with hI | ⟨rfl, hE, hR1⟩ | ⟨_, x, c, hc, hat, hE, hR1⟩
        · have HI := Lib.hid hI
          have hilI : (i : Int) ≤ (s.length : Int) := by have := hI.il; omega
          have c8 : wr.cell? ⟨rb, 8, none⟩ = some (.int .i64 0) := by rw [hA.blk.cell 8]; show some V.e_ = _; rw [hI.e]
          have hai := hI.ai
          have HBX := Lib.hid hbox
          have HA := Lib.hid hA
          clear hbox hA hI HL
          by_cases hlt : i < s.length
          · have hltI : (i : Int) < (s.length : Int) := by omega
            obtain ⟨c, hc⟩ : ∃ c, s[i] = c := ⟨_, rfl⟩
            by_cases h10 : c = 10
            · by_cases hcr : ∃ h : i - 1 < s.length, a < i ∧ s[i - 1] = 13
              · have hz := cr_seg s a i hai (by omega)
                rw [if_pos hcr] at hz
                obtain ⟨h1, h2, h3⟩ := hcr
                obtain ⟨p, rfl⟩ : ∃ p, i = p + 1 := ⟨i - 1, by omega⟩
                have q1 := byte_is s (p + 1) hlt c 10 10 rfl hc h10
                have q1b := byte_isb s (p + 1) hlt c 10 10 rfl hc h10
                have q2 := byte_is s p (by omega) 13 13 13 rfl h3 rfl
                have q2b := byte_isb s p (by omega) 13 13 13 rfl h3 rfl
                have HZ : Hid (∃ hi : p + 1 < s.length, s[p + 1] = 10 ∧ Ini.cr (seg s a (p + 1)) = seg s a p) := Lib.hid ⟨hlt, by rw [hc, h10], hz⟩
                clear hz h3 hc h10
                rw [show ((p + 1 : Nat) : Int) = (p : Int) + 1 from by omega] at hilI hltI ⊢
                have b0 : (a : Int) < (p : Int) + 1 := by omega
                have t1 : ((p : Int) + 1 - 1) = (p : Int) := by omega
                go_wp2_with fail
                refine (rline_any (w.heap.size + 1) rb a p V s st (by omega) (by omega) (by omega) wr HA.out HI.out.fit HI.out.e HI.out.sp.1 HI.out.sp.2 (by have := HI.out.notes; omega) _ rfl).mono ?_
                rintro e w5 ⟨hb5, rfl, h5⟩
                have HN : Hid (RLoop w w5 s R rb ((p + 1) + 1) ((p + 1) + 1)) := Lib.hid ⟨HBX.out.later hb5, HI.out.next (.inl HZ.out) h5⟩
                clear hb5 h5 c8
                go_wp2_with fail
                go_roundw
                case rel => exact ⟨(p + 1) + 1, (p + 1) + 1, by go_num, by go_num, HN⟩
                case measure => simp [intOf]; omega
              · have hz := cr_seg s a i hai (by omega)
                rw [if_neg hcr] at hz
                have HZ : Hid (∃ hi : i < s.length, s[i] = 10 ∧ Ini.cr (seg s a i) = seg s a i) := Lib.hid ⟨hlt, by rw [hc, h10], hz⟩
                have q1 := byte_is s i hlt c 10 10 rfl hc h10
                have q1b := byte_isb s i hlt c 10 10 rfl hc h10
                clear hz hc h10
                by_cases hal : a < i
                · have hn13 : ∀ h : i - 1 < s.length, s[i - 1] ≠ 13 := fun h e => hcr ⟨h, hal, e⟩
                  clear hcr
                  obtain ⟨p, rfl⟩ : ∃ p, i = p + 1 := ⟨i - 1, by omega⟩
                  have q2 := byte_not s p (by omega) _ 13 13 rfl rfl (hn13 (by omega))
                  have q2b := byte_nob s p (by omega) _ 13 13 rfl rfl (hn13 (by omega))
                  clear hn13
                  rw [show ((p + 1 : Nat) : Int) = (p : Int) + 1 from by omega] at hilI hltI ⊢
                  have b0 : (a : Int) < (p : Int) + 1 := by omega
                  have t1 : ((p : Int) + 1 - 1) = (p : Int) := by omega
                  go_wp2_with fail
                  refine (rline_any (w.heap.size + 1) rb a (p + 1) V s st (by omega) (by omega) (by omega) wr HA.out HI.out.fit HI.out.e HI.out.sp.1 HI.out.sp.2 (by have := HI.out.notes; omega) _ rfl).mono ?_
                  rintro e w5 ⟨hb5, rfl, h5⟩
                  have HN : Hid (RLoop w w5 s R rb ((p + 1) + 1) ((p + 1) + 1)) := Lib.hid ⟨HBX.out.later hb5, HI.out.next (.inl HZ.out) h5⟩
                  clear hb5 h5 c8
                  go_wp2_with fail
                  go_roundw
                  case rel => exact ⟨(p + 1) + 1, (p + 1) + 1, by go_num, by go_num, HN⟩
                  case measure => simp [intOf]; omega
                · have b0 : ¬ ((a : Int) < (i : Int)) := by omega
                  clear hcr
                  go_wp2_with fail
                  refine (rline_any (w.heap.size + 1) rb a i V s st (by omega) (by omega) (by omega) wr HA.out HI.out.fit HI.out.e HI.out.sp.1 HI.out.sp.2 (by have := HI.out.notes; omega) _ rfl).mono ?_
                  rintro e w5 ⟨hb5, rfl, h5⟩
                  have HN : Hid (RLoop w w5 s R rb (i + 1) (i + 1)) := Lib.hid ⟨HBX.out.later hb5, HI.out.next (.inl HZ.out) h5⟩
                  clear hb5 h5 c8
                  go_wp2_with fail
                  go_roundw
                  case rel => exact ⟨i + 1, i + 1, by go_num, by go_num, HN⟩
                  case measure => simp [intOf]; omega
            · have q1 := byte_not s i hlt c 10 10 rfl hc h10
              have q1b := byte_nob s i hlt c 10 10 rfl hc h10
              have HN : Hid (RLoop w wr s R rb a (i + 1)) := Lib.hid ⟨HBX.out, V, st, HA.out, .inl (HI.out.skip hlt (by rw [hc]; exact h10))⟩
              clear hc h10
              go_wp2_with fail
              go_roundw
              case rel => exact ⟨a, i + 1, by go_num, by go_num, HN⟩
              case measure => simp [intOf]; omega
          · have hltI : ¬ ((i : Int) < (s.length : Int)) := by omega
            have HIE : Hid (i = s.length) := Lib.hid (by have := HI.out.il; omega)
            by_cases b0 : (a : Int) < (i : Int)
            · go_wp2_with fail
              refine (rline_any (w.heap.size + 1) rb a i V s st (by omega) (by omega) (by omega) wr HA.out HI.out.fit HI.out.e HI.out.sp.1 HI.out.sp.2 (by have := HI.out.notes; omega) _ rfl).mono ?_
              rintro e w5 ⟨hb5, rfl, h5⟩
              have HN : Hid (RLoop w w5 s R rb (i + 1) (i + 1)) := Lib.hid ⟨HBX.out.later hb5, HI.out.next (.inr ⟨HIE.out, rfl⟩) h5⟩
              clear hb5 h5 c8
              go_wp2_with fail
              go_roundw
              case rel => exact ⟨i + 1, i + 1, by go_num, by go_num, HN⟩
              case measure => simp [intOf]; omega
            · go_wp2_with fail
              refine (rline_any (w.heap.size + 1) rb a i V s st (by omega) (by omega) (by omega) wr HA.out HI.out.fit HI.out.e HI.out.sp.1 HI.out.sp.2 (by have := HI.out.notes; omega) _ rfl).mono ?_
              rintro e w5 ⟨hb5, rfl, h5⟩
              have HN : Hid (RLoop w w5 s R rb (i + 1) (i + 1)) := Lib.hid ⟨HBX.out.later hb5, HI.out.next (.inr ⟨HIE.out, rfl⟩) h5⟩
              clear hb5 h5 c8
              go_wp2_with fail
              go_roundw
              case rel => exact ⟨i + 1, i + 1, by go_num, by go_num, HN⟩
              case measure => simp [intOf]; omega
        · have c8 : wr.cell? ⟨rb, 8, none⟩ = some (.int .i64 0) := by rw [hA.blk.cell 8]; show some V.e_ = _; rw [hE]
          obtain ⟨A1, c1, e1, _⟩ := hA.nodes.form
          obtain ⟨A2, c2, e2, _⟩ := hA.spans.form
          obtain ⟨A3, c3, e3, _⟩ := hA.notes.form
          have p0 : wr.cell? ⟨rb, 0, none⟩ = some (.int .i64 3) := hA.blk.cell 0
          have p1 : wr.cell? ⟨rb, 1, none⟩ = some (.string ⟨s.toArray⟩) := hA.blk.cell 1
          have p2 : wr.cell? ⟨rb, 2, none⟩ = some (.slice A1 V.vs.length c1) := by rw [hA.blk.cell 2]; show some V.nv = _; rw [e1]
          have p3 : wr.cell? ⟨rb, 3, none⟩ = some (.int .i64 0) := hA.blk.cell 3
          have p4 : wr.cell? ⟨rb, 4, none⟩ = some (.slice A2 st.spans.length c2) := by rw [hA.blk.cell 4]; show some V.sv = _; rw [e2]
          have p5 : wr.cell? ⟨rb, 5, none⟩ = some (.slice A3 st.notes.length c3) := by rw [hA.blk.cell 5]; show some V.tv = _; rw [e3]
          obtain ⟨d0, d1, d2, d3, d4, d5, df⟩ := hbox.facts
          have HBX := Lib.hid hbox
          have HA := Lib.hid hA
          have HE1 := Lib.hid e1
          have HE2 := Lib.hid e2
          have HE3 := Lib.hid e3
          have HR1 := Lib.hid hR1
          clear hbox hA e1 e2 e3 hR1 HL hE
          have hnle : ¬ (((s.length + 1 : Nat) : Int) ≤ (s.length : Int)) := by omega
          go_wp2_with fail
          have hF := HBX.out.fill (.int .i64 3) (.string ⟨s.toArray⟩) (.slice A1 V.vs.length c1) (.int .i64 0) (.slice A2 st.spans.length c2) (.slice A3 st.notes.length c3)
          refine bodyPost_ret (v := .tuple #[.agg #[.int .i64 3, .string ⟨s.toArray⟩, .slice A1 V.vs.length c1, .int .i64 0, .slice A2 st.spans.length c2, .slice A3 st.notes.length c3], .int .i64 0, .int .i64 0]) (hF.run _ rfl rfl rfl) rfl ?_
          rw [HR1.out]
          exact ⟨hF.below, V, rb, by rw [HE1.out, HE2.out, HE3.out], (HA.out.keptAll (fillD_kept _ _ _ (Nat.lt_succ_self _) _ _ _ _ _ _) (by rw [fillD_size]; exact Nat.le_refl _)).weaken (by omega)⟩
        · have c8 : wr.cell? ⟨rb, 8, none⟩ = some (.int .i64 c) := by rw [hA.blk.cell 8]; show some V.e_ = _; rw [hE]
          have c7 : wr.cell? ⟨rb, 7, none⟩ = some (.int .i64 x) := by rw [hA.blk.cell 7]; show some V.at_ = _; rw [hat]
          have hc0 : ¬ ((c : Int) = 0) := by omega
          have hc0b : ((c : Int) == 0) = false := by simpa using hc0
          obtain ⟨d0, d1, d2, d3, d4, d5, df⟩ := hbox.facts
          have HBX := Lib.hid hbox
          clear hbox hA HL hE hat
          by_cases hle : (i : Int) ≤ (s.length : Int)
          · go_wp2_with fail
            go_region
            all_goals
              go_wp2_with fail
              have hF := (HBX.out.fill (.int .i64 0) (.string ⟨#[]⟩) (.slice none 0 0) (.int .i64 0) (.slice none 0 0) (.slice none 0 0)).drew
              refine bodyPost_ret (v := .tuple #[noDoc, .int .i64 x, .int .i64 c]) (hF.run _ rfl rfl rfl) rfl ?_
              rw [hR1]
              exact ⟨hF.below, rfl⟩
          · go_wp2_with fail
            go_region
            all_goals
              go_wp2_with fail
              have hF := (HBX.out.fill (.int .i64 0) (.string ⟨#[]⟩) (.slice none 0 0) (.int .i64 0) (.slice none 0 0) (.slice none 0 0)).drew
              refine bodyPost_ret (v := .tuple #[noDoc, .int .i64 x, .int .i64 c]) (hF.run _ rfl rfl rfl) rfl ?_
              rw [hR1]
              exact ⟨hF.below, rfl⟩
end Go.Proofs.YtegdemnfjmaicaaDoor
