/- Walks: an entry's line (bare2, err). Walks: an entry's line (bare2, ok). -/
import Derived.Test.YtegdemnfjmaicaaDoorWalk12
namespace Go.Proofs.YtegdemnfjmaicaaDoor
open Go.RowKit
set_option maxRecDepth 100000 in
set_option maxHeartbeats 4000000 in
theorem entry_bare2_err (B pb a tz : Nat) (V : PV) (s : Ini.Str) (st : Ini.St) (ha : a ≤ tz) (ht : tz ≤ s.length) (hs : s.length ≤ 1073741823) (w : World) (hp : PAt B V w pb s st) (hf : Fit st)
    (key : Ini.Str) (en i b : Nat) (hn : Ini.name (seg s a tz) a 61 = .ok (key, en, i)) (hb : i + Ini.nB (seg s i tz) = b) (hq2 : ¬ ((b : Int) < (tz : Int))) (t : Ini.Str) (e2 : Nat) (he : b + Ini.nT (seg s b tz) = e2) (htx : seg s b e2 = t)
    (x e : Nat) (hA : Ini.add st st.node st.span key ⟨5, t, [], []⟩ ⟨0, 0, 0, b, e2, a, en, true⟩ = .err x e) :
    Calls Tryd.prog 30 #[.pointer (some ⟨pb, 0, none⟩), .int .i64 a, .int .i64 tz] w (LPost B V w pb s (.err x e)) := by
  have hlt := hp.blk.lt
  obtain ⟨b1, b2, b3⟩ := name_bounds s a tz 61 ha ht key en i hn
  have hbz : i ≤ b ∧ b ≤ tz := by have := nB_le (seg s i tz); rw [seg_len s _ tz ht] at this; omega
  obtain ⟨hib, hbz⟩ := hbz
  have HP := Lib.hid hp
  have HF := Lib.hid hf
  have HNM := Lib.hid hn
  have HB := Lib.hid hb
  have hez : b ≤ e2 ∧ e2 ≤ tz := by have := nT_le (seg s b tz); rw [seg_len s _ tz ht] at this; omega
  obtain ⟨hbe, hez⟩ := hez
  have HE := Lib.hid he
  have HTX := Lib.hid htx
  clear he htx
  have HA := Lib.hid hA
  clear hp hf hn hb hA
  go_enter Tryd.func30, Tryd.ntmps30
  go_wp2_with fail
  refine (name_any pb a tz 61 61 rfl s ha ht hs _ HP.out.par _ HNM.out).mono ?_
  rintro e1 w1 ⟨rfl, hb1⟩
  have HP1 := Lib.hid (HP.out.later hb1)
  have HB1 := Lib.hid hb1
  clear hb1
  go_wp2_with fail
  refine (blanks_any pb i tz s (by omega) ht (by omega) _ HP1.out.par.src b HB.out).mono ?_
  rintro e1 w2 ⟨rfl, rfl⟩
  go_wp2_with fail
  refine (trimmed_any pb b tz s hbz ht (by omega) _ HP1.out.par.src e2 HE.out).mono ?_
  rintro e1 w2 ⟨rfl, rfl⟩
  go_wp2_with fail
  obtain ⟨w2, hw2⟩ : ∃ w2, w1.alloc (.cells (spCells b e2 a en) 45) = w2 := ⟨_, rfl⟩
  have hbx : Blk w2 w1.heap.size 45 (spCells b e2 a en) := by rw [← hw2]; exact Blk.new _ _ _
  have hb2 : Below w1.heap.size w1 w2 := by rw [← hw2]; exact (Below.refl _ _).alloc (Nat.le_refl _) _
  unfold spCells at hw2
  rw [hw2]
  have HP2 := Lib.hid (HP1.out.later hb2)
  have hsrc2 : w2.cell? ⟨pb, 2, none⟩ = some (.string ⟨s.toArray⟩) := HP2.out.par.src
  have p0 : w2.cell? ⟨pb, 0, none⟩ = some (.int .i64 st.node) := HP2.out.blk.cell 0
  have p1 : w2.cell? ⟨pb, 1, none⟩ = some (.int .i64 st.span) := HP2.out.blk.cell 1
  have x0 : w2.cell? ⟨w1.heap.size, 0, none⟩ = some (.int .i64 0) := hbx.cell 0
  have x1 : w2.cell? ⟨w1.heap.size, 1, none⟩ = some (.int .i64 0) := hbx.cell 1
  have x2 : w2.cell? ⟨w1.heap.size, 2, none⟩ = some (.int .i64 0) := hbx.cell 2
  have x3 : w2.cell? ⟨w1.heap.size, 3, none⟩ = some (.int .i64 b) := hbx.cell 3
  have x4 : w2.cell? ⟨w1.heap.size, 4, none⟩ = some (.int .i64 e2) := hbx.cell 4
  have x5 : w2.cell? ⟨w1.heap.size, 5, none⟩ = some (.int .i64 a) := hbx.cell 5
  have x6 : w2.cell? ⟨w1.heap.size, 6, none⟩ = some (.int .i64 en) := hbx.cell 6
  have x7 : w2.cell? ⟨w1.heap.size, 7, none⟩ = some (.bool false) := hbx.cell 7
  have x8 : w2.cell? ⟨w1.heap.size, 8, none⟩ = some (.bool true) := hbx.cell 8
  have HB2 := Lib.hid hb2
  have HBX := Lib.hid hbx
  have hsz : w1.heap.size < w2.heap.size := hbx.lt
  clear hw2
  go_region
  all_goals
    rw [extract_seg, HTX.out]
    have q0 : (w2.alloc (.cells #[.int .i64 0, .int .i64 0] 60)).cell? ⟨pb, 0, none⟩ = some (.int .i64 st.node) := (HP2.out.alloc _).blk.cell 0
    have q1 : (w2.alloc (.cells #[.int .i64 0, .int .i64 0] 60)).cell? ⟨pb, 1, none⟩ = some (.int .i64 st.span) := (HP2.out.alloc _).blk.cell 1
    have y0 : (w2.alloc (.cells #[.int .i64 0, .int .i64 0] 60)).cell? ⟨w1.heap.size, 0, none⟩ = some (.int .i64 0) := (hbx.alloc _).cell 0
    have y1 : (w2.alloc (.cells #[.int .i64 0, .int .i64 0] 60)).cell? ⟨w1.heap.size, 1, none⟩ = some (.int .i64 0) := (hbx.alloc _).cell 1
    have y2 : (w2.alloc (.cells #[.int .i64 0, .int .i64 0] 60)).cell? ⟨w1.heap.size, 2, none⟩ = some (.int .i64 0) := (hbx.alloc _).cell 2
    have y3 : (w2.alloc (.cells #[.int .i64 0, .int .i64 0] 60)).cell? ⟨w1.heap.size, 3, none⟩ = some (.int .i64 b) := (hbx.alloc _).cell 3
    have y4 : (w2.alloc (.cells #[.int .i64 0, .int .i64 0] 60)).cell? ⟨w1.heap.size, 4, none⟩ = some (.int .i64 e2) := (hbx.alloc _).cell 4
    have y5 : (w2.alloc (.cells #[.int .i64 0, .int .i64 0] 60)).cell? ⟨w1.heap.size, 5, none⟩ = some (.int .i64 a) := (hbx.alloc _).cell 5
    have y6 : (w2.alloc (.cells #[.int .i64 0, .int .i64 0] 60)).cell? ⟨w1.heap.size, 6, none⟩ = some (.int .i64 en) := (hbx.alloc _).cell 6
    have y7 : (w2.alloc (.cells #[.int .i64 0, .int .i64 0] 60)).cell? ⟨w1.heap.size, 7, none⟩ = some (.bool false) := (hbx.alloc _).cell 7
    have y8 : (w2.alloc (.cells #[.int .i64 0, .int .i64 0] 60)).cell? ⟨w1.heap.size, 8, none⟩ = some (.bool true) := (hbx.alloc _).cell 8
    clear hbx hb2
    have HBB : Hid (Below w.heap.size w w2) := Lib.hid (HB1.out.trans (HB2.out.mono HB1.out.size))
    have hsz0 : w.heap.size ≤ w2.heap.size := HBB.out.size
    go_wp2_with fail
    go_region_with (go_at_call 40; refine (add_no B pb st.node st.span V s st key 5 t b e2 a en true _ (by (repeat (first | with_reducible apply PAt.drew | with_reducible apply PAt.alloc)); exact HP2.out) HF.out HF.out.node HF.out.span _ _ HA.out).mono ?_; rintro e1 w3 ⟨rfl, hx⟩; have HX : Hid (FPost w w3 pb x e) := Lib.hid (hx.from (by first | exact HBB.out.drew | exact HBB.out.drew.drew | exact (HBB.out.alloc hsz0 _).drew | exact (HBB.out.alloc hsz0 _).drew.drew)); first | (have hk : Blk w3 w2.heap.size 60 #[.int .i64 0, .int .i64 0] := hx.1.blk (Blk.new w2 60 #[.int .i64 0, .int .i64 0]) (fun e => by have e : w2.heap.size = pb := e; omega); have k0 : w3.cell? ⟨w2.heap.size, 0, none⟩ = some (.int .i64 0) := hk.cell 0; have k1 : w3.cell? ⟨w2.heap.size, 1, none⟩ = some (.int .i64 0) := hk.cell 1; have kf : ∀ i, w3.frozen? ⟨w2.heap.size, i, none⟩ = false := hk.frozen; clear hk hx) | clear hx)
    all_goals
      go_wp2_with fail
      (try refine bodyPost_ret (v := .bool false) (by simp [results, Tryd.results30, go_sem]) rfl ?_)
      first | exact ⟨rfl, HX.out.later hlt ((Below.refl _ _).alloc (Nat.le_refl _) _)⟩ | exact ⟨rfl, (HX.out.setCell (p := ⟨w2.heap.size, 0, none⟩) hsz0 hlt _).setCell (p := ⟨w2.heap.size, 1, none⟩) hsz0 hlt _⟩
end Go.Proofs.YtegdemnfjmaicaaDoor
namespace Go.Proofs.YtegdemnfjmaicaaDoor
open Go.RowKit
set_option maxRecDepth 100000 in
set_option maxHeartbeats 4000000 in
theorem entry_bare2_ok (B pb a tz : Nat) (V : PV) (s : Ini.Str) (st : Ini.St) (ha : a ≤ tz) (ht : tz ≤ s.length) (hs : s.length ≤ 1073741823) (w : World) (hp : PAt B V w pb s st) (hf : Fit st)
    (key : Ini.Str) (en i b : Nat) (hn : Ini.name (seg s a tz) a 61 = .ok (key, en, i)) (hb : i + Ini.nB (seg s i tz) = b) (hq2 : ¬ ((b : Int) < (tz : Int))) (t : Ini.Str) (e2 : Nat) (he : b + Ini.nT (seg s b tz) = e2) (htx : seg s b e2 = t)
    (st' : Ini.St) (hA : Ini.add st st.node st.span key ⟨5, t, [], []⟩ ⟨0, 0, 0, b, e2, a, en, true⟩ = .ok st') (R : Ini.Res Ini.St) (hR : (if st.span > 0 then .ok { st' with spans := Ini.setTo st'.spans st.span e2 } else .ok st') = R) :
    Calls Tryd.prog 30 #[.pointer (some ⟨pb, 0, none⟩), .int .i64 a, .int .i64 tz] w (LPost B V w pb s R) := by
  have hlt := hp.blk.lt
  obtain ⟨b1, b2, b3⟩ := name_bounds s a tz 61 ha ht key en i hn
  have hbz : i ≤ b ∧ b ≤ tz := by have := nB_le (seg s i tz); rw [seg_len s _ tz ht] at this; omega
  obtain ⟨hib, hbz⟩ := hbz
  have HP := Lib.hid hp
  have HF := Lib.hid hf
  have HNM := Lib.hid hn
  have HB := Lib.hid hb
  have hez : b ≤ e2 ∧ e2 ≤ tz := by have := nT_le (seg s b tz); rw [seg_len s _ tz ht] at this; omega
  obtain ⟨hbe, hez⟩ := hez
  have HE := Lib.hid he
  have HTX := Lib.hid htx
  clear he htx
  have HR := Lib.hid hR
  clear hR
  obtain ⟨hnode, hspan, hl1, hl2⟩ := add_ok_span HF.out.node hA
  obtain ⟨nn, hnn⟩ : ∃ nn, nn + 1 = st'.nodes.length := ⟨st'.nodes.length - 1, by omega⟩
  obtain ⟨kk, hkk⟩ : ∃ kk, kk + 1 = st'.spans.length := ⟨st'.spans.length - 1, by omega⟩
  have HSL : Hid (st.span < st'.spans.length) := Lib.hid (by have := HF.out.span; omega)
  have HSP := Lib.hid hspan
  have HNN := Lib.hid hnn
  have HKK := Lib.hid hkk
  clear hl1 hl2 hnn hkk hspan hnode
  have HA := Lib.hid hA
  clear hp hf hn hb hA
  go_enter Tryd.func30, Tryd.ntmps30
  go_wp2_with fail
  refine (name_any pb a tz 61 61 rfl s ha ht hs _ HP.out.par _ HNM.out).mono ?_
  rintro e1 w1 ⟨rfl, hb1⟩
  have HP1 := Lib.hid (HP.out.later hb1)
  have HB1 := Lib.hid hb1
  clear hb1
  go_wp2_with fail
  refine (blanks_any pb i tz s (by omega) ht (by omega) _ HP1.out.par.src b HB.out).mono ?_
  rintro e1 w2 ⟨rfl, rfl⟩
  go_wp2_with fail
  refine (trimmed_any pb b tz s hbz ht (by omega) _ HP1.out.par.src e2 HE.out).mono ?_
  rintro e1 w2 ⟨rfl, rfl⟩
  go_wp2_with fail
  obtain ⟨w2, hw2⟩ : ∃ w2, w1.alloc (.cells (spCells b e2 a en) 45) = w2 := ⟨_, rfl⟩
  have hbx : Blk w2 w1.heap.size 45 (spCells b e2 a en) := by rw [← hw2]; exact Blk.new _ _ _
  have hb2 : Below w1.heap.size w1 w2 := by rw [← hw2]; exact (Below.refl _ _).alloc (Nat.le_refl _) _
  unfold spCells at hw2
  rw [hw2]
  have HP2 := Lib.hid (HP1.out.later hb2)
  have hsrc2 : w2.cell? ⟨pb, 2, none⟩ = some (.string ⟨s.toArray⟩) := HP2.out.par.src
  have p0 : w2.cell? ⟨pb, 0, none⟩ = some (.int .i64 st.node) := HP2.out.blk.cell 0
  have p1 : w2.cell? ⟨pb, 1, none⟩ = some (.int .i64 st.span) := HP2.out.blk.cell 1
  have x0 : w2.cell? ⟨w1.heap.size, 0, none⟩ = some (.int .i64 0) := hbx.cell 0
  have x1 : w2.cell? ⟨w1.heap.size, 1, none⟩ = some (.int .i64 0) := hbx.cell 1
  have x2 : w2.cell? ⟨w1.heap.size, 2, none⟩ = some (.int .i64 0) := hbx.cell 2
  have x3 : w2.cell? ⟨w1.heap.size, 3, none⟩ = some (.int .i64 b) := hbx.cell 3
  have x4 : w2.cell? ⟨w1.heap.size, 4, none⟩ = some (.int .i64 e2) := hbx.cell 4
  have x5 : w2.cell? ⟨w1.heap.size, 5, none⟩ = some (.int .i64 a) := hbx.cell 5
  have x6 : w2.cell? ⟨w1.heap.size, 6, none⟩ = some (.int .i64 en) := hbx.cell 6
  have x7 : w2.cell? ⟨w1.heap.size, 7, none⟩ = some (.bool false) := hbx.cell 7
  have x8 : w2.cell? ⟨w1.heap.size, 8, none⟩ = some (.bool true) := hbx.cell 8
  have HB2 := Lib.hid hb2
  have HBX := Lib.hid hbx
  have hsz : w1.heap.size < w2.heap.size := hbx.lt
  clear hw2
  go_region
  all_goals
    rw [extract_seg, HTX.out]
    have q0 : (w2.alloc (.cells #[.int .i64 0, .int .i64 0] 60)).cell? ⟨pb, 0, none⟩ = some (.int .i64 st.node) := (HP2.out.alloc _).blk.cell 0
    have q1 : (w2.alloc (.cells #[.int .i64 0, .int .i64 0] 60)).cell? ⟨pb, 1, none⟩ = some (.int .i64 st.span) := (HP2.out.alloc _).blk.cell 1
    have y0 : (w2.alloc (.cells #[.int .i64 0, .int .i64 0] 60)).cell? ⟨w1.heap.size, 0, none⟩ = some (.int .i64 0) := (hbx.alloc _).cell 0
    have y1 : (w2.alloc (.cells #[.int .i64 0, .int .i64 0] 60)).cell? ⟨w1.heap.size, 1, none⟩ = some (.int .i64 0) := (hbx.alloc _).cell 1
    have y2 : (w2.alloc (.cells #[.int .i64 0, .int .i64 0] 60)).cell? ⟨w1.heap.size, 2, none⟩ = some (.int .i64 0) := (hbx.alloc _).cell 2
    have y3 : (w2.alloc (.cells #[.int .i64 0, .int .i64 0] 60)).cell? ⟨w1.heap.size, 3, none⟩ = some (.int .i64 b) := (hbx.alloc _).cell 3
    have y4 : (w2.alloc (.cells #[.int .i64 0, .int .i64 0] 60)).cell? ⟨w1.heap.size, 4, none⟩ = some (.int .i64 e2) := (hbx.alloc _).cell 4
    have y5 : (w2.alloc (.cells #[.int .i64 0, .int .i64 0] 60)).cell? ⟨w1.heap.size, 5, none⟩ = some (.int .i64 a) := (hbx.alloc _).cell 5
    have y6 : (w2.alloc (.cells #[.int .i64 0, .int .i64 0] 60)).cell? ⟨w1.heap.size, 6, none⟩ = some (.int .i64 en) := (hbx.alloc _).cell 6
    have y7 : (w2.alloc (.cells #[.int .i64 0, .int .i64 0] 60)).cell? ⟨w1.heap.size, 7, none⟩ = some (.bool false) := (hbx.alloc _).cell 7
    have y8 : (w2.alloc (.cells #[.int .i64 0, .int .i64 0] 60)).cell? ⟨w1.heap.size, 8, none⟩ = some (.bool true) := (hbx.alloc _).cell 8
    clear hbx hb2
    have HBB : Hid (Below w.heap.size w w2) := Lib.hid (HB1.out.trans (HB2.out.mono HB1.out.size))
    have hsz0 : w.heap.size ≤ w2.heap.size := HBB.out.size
    go_upto_region 15 with fail
    go_cut [12, 19] (fun s12 s19 wx => s12 = .pointer (some ⟨w1.heap.size, 0, none⟩) ∧ s19 = .bool true ∧ PNext B V w wx pb s st' ∧ Blk wx w1.heap.size 45 (spCells b e2 a en))
    case first =>
      go_region_with (go_at_call 40; refine (add_yes B pb st.node st.span V s st st' key 5 t b e2 a en true _ (by (repeat (first | with_reducible apply PAt.drew | with_reducible apply PAt.alloc)); exact HP2.out) HF.out HF.out.node HF.out.span HA.out nn kk HNN.out HKK.out).mono ?_; rintro e1 w3 ⟨rfl, hx⟩; have HX : Hid (PNext B V w w3 pb s st') := Lib.hid (hx.from (by first | exact HBB.out.drew | exact HBB.out.drew.drew | exact (HBB.out.alloc hsz0 _).drew | exact (HBB.out.alloc hsz0 _).drew.drew)); have HY : Hid (Blk w3 w1.heap.size 45 (spCells b e2 a en)) := Lib.hid (hx.box HP1.out (by first | exact HBX.out | exact HBX.out.alloc _) (Nat.le_refl _)); first | (have hk : Blk w3 w2.heap.size 60 #[.int .i64 0, .int .i64 0] := hx.box HP2.out (Blk.new w2 60 #[.int .i64 0, .int .i64 0]) (Nat.le_refl _); have k0 : w3.cell? ⟨w2.heap.size, 0, none⟩ = some (.int .i64 0) := hk.cell 0; have k1 : w3.cell? ⟨w2.heap.size, 1, none⟩ = some (.int .i64 0) := hk.cell 1; have kf : ∀ i, w3.frozen? ⟨w2.heap.size, i, none⟩ = false := hk.frozen; have HK := Lib.hid hk; clear hk hx) | clear hx)
      all_goals
        go_wp2_with fail
        go_meet
        trace_state
        first | exact ⟨rfl, rfl, HX.out.later ((Below.refl _ _).alloc (Nat.le_refl _) _), HY.out.alloc _⟩ | exact ⟨rfl, rfl, (HX.out.setBox HK.out hsz0 0 _).setBox (HK.out.set_ 0 _) hsz0 1 _, (HY.out.far (p := ⟨w2.heap.size, 0, none⟩) (by simp; omega) _).far (p := ⟨w2.heap.size, 1, none⟩) (by simp; omega) _⟩
    case rest =>
      obtain ⟨rfl, rfl, hx, hbx⟩ := hcut
      clear p0 p1 x0 x1 x2 x3 x4 x5 x6 x7 x8 q0 q1 y0 y1 y2 y3 y4 y5 y6 y7 y8
      have p1 : wc.cell? ⟨pb, 1, none⟩ = some (.int .i64 st.span) := by rw [← HSP.out]; exact hx.cells.2.1
      by_cases hsp : st.span > 0
      · obtain ⟨g, cap, cs, h7, hG, hcs, hnx⟩ := hx.setTo st.span e2 HSL.out
        have x4 : wc.cell? ⟨w1.heap.size, 4, none⟩ = some (.int .i64 e2) := hbx.cell 4
        have gc : wc.cell? ⟨g, st.span * 9 + 4, none⟩ = some (cs[st.span * 9 + 4]'hcs) := by rw [hG.cell, Array.getElem?_eq_getElem]
        have gf : ∀ i, wc.frozen? ⟨g, i, none⟩ = false := hG.frozen
        have hspI : (st.span : Int) > 0 := by omega
        have hslI : (st.span : Int) < (st'.spans.length : Int) := by have := HSL.out; omega
        have HNX := Lib.hid hnx
        clear hx hbx hnx hG
        go_wp2_with fail
        go_region
        all_goals
          go_wp2_with fail
          (try refine bodyPost_ret (v := .bool true) (by simp [results, Tryd.results30, go_sem]) rfl ?_)
          rw [← HR.out, if_pos hsp]
          exact ⟨rfl, HNX.out.drew⟩
      · have hspI : ¬ ((st.span : Int) > 0) := by omega
        have HNX := Lib.hid hx
        clear hx hbx
        go_wp2_with fail
        (try refine bodyPost_ret (v := .bool true) (by simp [results, Tryd.results30, go_sem]) rfl ?_)
        rw [← HR.out, if_neg hsp]
        exact ⟨rfl, HNX.out⟩
end Go.Proofs.YtegdemnfjmaicaaDoor
