/- Walks: two lists of numbers are held against each other; two graphs; SameGraph. -/
import Derived.Test.YtegdemnfjmaicaaDoorMem
import Derived.Outline
import Derived.Deep.RegionHeld3
import Derived.Deep.DeepCutAuto
import Derived.Deep.CutBlock
import Derived.BigRegion
namespace Go.Proofs.YtegdemnfjmaicaaDoor
open Go.RowKit
theorem take_snocN (l : List Nat) (k : Nat) (h : k < l.length) : l.take (k + 1) = l.take k ++ [l[k]] := List.take_succ_eq_append_getElem h
theorem int_at {w : World} {B : Nat} {A : Option Addr} {l : List Nat} {k : Nat} (h : RowAt intL w B A l) (hk : k < l.length) : ∃ ad, A = some ad ∧ ad.block < B ∧ w.cell? (ad.add k) = some (.int .i64 (l[k] : Int)) := by
  obtain ⟨ad, h1, h2, h3, _⟩ := h.get hk
  refine ⟨ad, h1, h2, ?_⟩
  have := h3 (.int .i64 (l[k] : Int)) rfl
  rwa [show k * intL.sz = k from Nat.mul_one k] at this
set_option maxRecDepth 100000 in
set_option maxHeartbeats 1000000 in
theorem ints_any (l m : List Nat) (A B : Option Addr) (c d : Nat) (hl : l.length ≤ 1073741824) (w : World) (hr : RowAt intL w w.heap.size A l) (hr2 : RowAt intL w w.heap.size B m) :
    Calls Tryd.prog 35 #[.slice A l.length c, .slice B m.length d] w fun e w' => e = .returned (.bool (decide (l = m))) ∧ ∃ n, w' = w.drewN n := by
  by_cases hlm : l.length = m.length
  · have hb : ((l.length : Int) != (m.length : Int)) = false := by simp [hlm]
    have HLM := Lib.hid hlm
    clear hlm
    go_enter Tryd.func35, Tryd.ntmps35
    go_wp2_with fail
    go_loopw [5] (fun i wr => ∃ k : Nat, k ≤ l.length ∧ i = .int .i64 k ∧ Hid (l.take k = m.take k) ∧ ∃ n, wr = w.drewN n) (fun i _ => (l.length - intOf i).toNat)
    case atStart => exact ⟨0, by omega, rfl, Lib.hid rfl, 0, rfl⟩
    case round =>
      obtain ⟨k, hk, rfl, heq, q, rfl⟩ := hrel
      by_cases hlt : k < l.length
      · have hlt2 : k < m.length := by have := HLM.out; omega
        obtain ⟨ad, rfl, hab, c1⟩ := int_at hr hlt
        obtain ⟨ad', rfl, hab', d1⟩ := int_at hr2 hlt2
        have h1 := take_snocN l k hlt
        have h2 := take_snocN m k hlt2
        have hgl : l[k]? = some l[k] := List.getElem?_eq_getElem hlt
        have hgm : m[k]? = some m[k] := List.getElem?_eq_getElem hlt2
        have HGL := Lib.hid hgl
        have HGM := Lib.hid hgm
        clear hgl hgm
        generalize l[k] = x at *
        generalize m[k] = y at *
        have H1 := Lib.hid h1
        have H2 := Lib.hid h2
        clear h1 h2
        by_cases hxy : x = y
        · have hd : ((x : Int) != (y : Int)) = false := by simp [hxy]
          have HXY := Lib.hid hxy
          clear hxy
          go_wp2_with fail
          go_quiet (fail)
          go_wp2_with fail
          go_roundw
          case rel => exact ⟨k + 1, by omega, by go_num, by have a := H1.out; have b := H2.out; rw [← HXY.out, ← heq.out] at b; exact Lib.hid (a.trans b.symm), _, rfl⟩
          case measure => simp [intOf]; omega
        · have hd : ((x : Int) != (y : Int)) = true := by simp; omega
          have hne : decide (l = m) = false := by
            simp; intro h; apply hxy
            have a := HGL.out; have b := HGM.out
            rw [h, b] at a; injection a with a; exact a.symm
          have HNE := Lib.hid hne
          clear hxy hne
          go_wp2_with fail
          go_quiet (fail)
          go_wp2_with fail
          go_ret
          exact ⟨congrArg (fun b => Ending.returned (.bool b)) HNE.out.symm, _, World.drewN_drewN _ _ _⟩
      · have hE : decide (l = m) = true := by
          have a := heq.out
          rw [List.take_of_length_le (by omega), List.take_of_length_le (by have := HLM.out; omega)] at a
          simpa using a
        have HE := Lib.hid hE
        clear hE
        go_wp2_with fail
        go_ret
        exact ⟨congrArg (fun b => Ending.returned (.bool b)) HE.out.symm, _, rfl⟩
  · have hb : ((l.length : Int) != (m.length : Int)) = true := by simp; omega
    have HE : Hid (decide (l = m) = false) := Lib.hid (by simp; intro h; exact hlm (by rw [h]))
    clear hlm
    go_enter Tryd.func35, Tryd.ntmps35
    go_wp2_with fail
    go_ret
    exact ⟨congrArg (fun b => Ending.returned (.bool b)) HE.out.symm, 0, rfl⟩
end Go.Proofs.YtegdemnfjmaicaaDoor
namespace Go.Proofs.YtegdemnfjmaicaaDoor
open Go.RowKit
/-- a graph that can be read. -/
structure GAt (w : World) (B : Nat) (A : Option Addr) (vs : List NV) (ns : List Ini.Nd) : Prop where
  row : RowAt nodeL w B A vs
  len : vs.length = ns.length
  kind : ∀ j (h : j < vs.length) (h2 : j < ns.length), vs[j].kind = ns[j].kind ∧ vs[j].text = ns[j].text
  nums : ∀ j (h : j < vs.length) (h2 : j < ns.length), RowAt intL w B vs[j].k.a ns[j].keys ∧ vs[j].k.n = ns[j].keys.length ∧ RowAt intL w B vs[j].i.a ns[j].items ∧ vs[j].i.n = ns[j].items.length
theorem GAt.below {w w' : World} {B : Nat} {A : Option Addr} {vs : List NV} {ns : List Ini.Nd} (h : GAt w B A vs ns) (hb : Below B w w') : GAt w' B A vs ns :=
  ⟨h.row.below hb, h.len, h.kind, fun j h1 h2 => let ⟨a, b, c, d⟩ := h.nums j h1 h2; ⟨a.below hb, b, c.below hb, d⟩⟩
theorem GAt.more {w : World} {B B' : Nat} {A : Option Addr} {vs : List NV} {ns : List Ini.Nd} (h : GAt w B A vs ns) (hB : B ≤ B') : GAt w B' A vs ns :=
  ⟨h.row.more hB, h.len, h.kind, fun j h1 h2 => let ⟨a, b, c, d⟩ := h.nums j h1 h2; ⟨a.more hB, b, c.more hB, d⟩⟩
/-- the parser's rows are a graph that can be read. -/
theorem GAt.of_rows {B : Nat} {w : World} {v : Value} {vs : List NV} {ns : List Ini.Nd} (h : OwnRow nodeL w B 49 v vs) (hr : Rows B w vs ns) : ∃ A c, v = .slice A vs.length c ∧ GAt w w.heap.size A vs ns := by
  obtain ⟨A, c, hv, hA⟩ := h.form
  refine ⟨A, c, hv, hA, hr.len, hr.kind, fun j h1 h2 => ?_⟩
  have e : ∀ b, ints vs j b = if b then vs[j].i else vs[j].k := fun b => by unfold ints; rw [List.getElem?_eq_getElem h1]
  have e2 : ∀ b, intsOf ns j b = if b then ns[j].items else ns[j].keys := fun b => by unfold intsOf; rw [List.getElem?_eq_getElem h2]
  have k1 := hr.own j false
  have k2 := hr.own j true
  rw [e, e2] at k1 k2
  obtain ⟨A1, c1, e1, r1⟩ := k1.form
  obtain ⟨A2, c2, e3, r2⟩ := k2.form
  injection e1 with a1 a2 a3
  injection e3 with b1 b2 b3
  exact ⟨by rw [show vs[j].k.a = A1 from a1]; exact r1, a2, by rw [show vs[j].i.a = A2 from b1]; exact r2, b2⟩
theorem node_at {w : World} {B : Nat} {A : Option Addr} {l : List NV} {k : Nat} (h : RowAt nodeL w B A l) (hk : k < l.length) : ∃ ad, A = some ad ∧ ad.block < B ∧ w.cell? (ad.add (k * 5)) = some (.int .i64 (l[k].kind : Int)) ∧
    w.cell? { block := (ad.add (k * 5)).block, off := (ad.add (k * 5)).off + 1 } = some (.string ⟨l[k].text.toArray⟩) ∧ w.cell? { block := (ad.add (k * 5)).block, off := (ad.add (k * 5)).off + 2 } = some (.bool false) ∧
    w.cell? { block := (ad.add (k * 5)).block, off := (ad.add (k * 5)).off + 3 } = some (.slice l[k].k.a l[k].k.n l[k].k.c) ∧ w.cell? { block := (ad.add (k * 5)).block, off := (ad.add (k * 5)).off + 4 } = some (.slice l[k].i.a l[k].i.n l[k].i.c) := by
  obtain ⟨ad, h1, h2, h3, h4⟩ := h.get hk
  exact ⟨ad, h1, h2, h3 _ rfl, h4 1 _ (by omega) rfl, h4 2 _ (by omega) rfl, h4 3 _ (by omega) rfl, h4 4 _ (by omega) rfl⟩
theorem below_drewN {B : Nat} {a b : World} (h : Below B a b) (n : Nat) : Below B a (b.drewN n) := h.trans ⟨rfl, rfl, rfl, Nat.le_refl _, fun _ _ => rfl⟩
theorem ba_ne (a b : Ini.Str) : ((⟨a.toArray⟩ : ByteArray) != ⟨b.toArray⟩) = !decide (a = b) := by
  show (!(a.toArray == b.toArray)) = _
  by_cases h : a = b
  · simp [h]
  · simp [h]
set_option maxRecDepth 100000 in
set_option maxHeartbeats 4000000 in
theorem is_any (A A' : Option Addr) (c c' : Nat) (vs us : List NV) (ns ms : List Ini.Nd) (w : World) (h : GAt w w.heap.size A vs ns) (h' : GAt w w.heap.size A' us ms) (hl : ns.length ≤ 1073741823) (r : Bool) (hr : decide (ns = ms) = r)
    (hkl : ∀ n ∈ ns, n.keys.length ≤ 1073741824 ∧ n.items.length ≤ 1073741824) :
    Calls Tryd.prog 24 #[.agg #[.slice A vs.length c, .int .i64 0], .agg #[.slice A' us.length c', .int .i64 0]] w fun e w' => e = .returned (.bool r) ∧ Below w.heap.size w w' := by
  have HR := Lib.hid hr
  have HG := Lib.hid h
  have HG' := Lib.hid h'
  have hvl := h.len
  have hul := h'.len
  clear h h' hr
  go_enter Tryd.func24, Tryd.ntmps24
  by_cases hlm : ns.length = ms.length
  · have hbl : ((vs.length : Int) != (us.length : Int)) = false := by simp; omega
    have HLM := Lib.hid hlm
    have HVL := Lib.hid hvl
    have HUL := Lib.hid hul
    obtain ⟨w1, hw1⟩ : ∃ w1, (w.alloc (.cells #[.slice A vs.length c, .int .i64 0] 25)).alloc (.cells #[.slice A' us.length c', .int .i64 0] 25) = w1 := ⟨_, rfl⟩
    have z1 : w1.heap.size = w.heap.size + 1 + 1 := by rw [← hw1]; simp
    have b1 : Blk w1 w.heap.size 25 #[.slice A vs.length c, .int .i64 0] := by rw [← hw1]; exact (Blk.new _ _ _).alloc _
    have b2 : Blk w1 (w.heap.size + 1) 25 #[.slice A' us.length c', .int .i64 0] := by
      rw [← hw1]
      have := Blk.new (w.alloc (.cells #[.slice A vs.length c, .int .i64 0] 25)) 25 #[.slice A' us.length c', .int .i64 0]
      rw [World.size_alloc] at this
      exact this
    have l1 : Below w.heap.size w w1 := by rw [← hw1]; exact ((Below.refl _ _).alloc (Nat.le_refl _) _).alloc (by simp) _
    clear hvl hul hlm
    go_upto_region 1 with fail
    (try rw [hw1])
    have p0 : w1.cell? ⟨w.heap.size, 0, none⟩ = some (.slice A vs.length c) := b1.cell 0
    have p1 : w1.cell? ⟨w.heap.size, 1, none⟩ = some (.int .i64 0) := b1.cell 1
    have q0 : w1.cell? ⟨w.heap.size + 1, 0, none⟩ = some (.slice A' us.length c') := b2.cell 0
    have q1 : w1.cell? ⟨w.heap.size + 1, 1, none⟩ = some (.int .i64 0) := b2.cell 1
    have B1 := Lib.hid b1
    have B2 := Lib.hid b2
    have L1 := Lib.hid l1
    have Z1 := Lib.hid z1
    clear b1 b2 l1 z1 hw1
    go_wp2_with fail
    go_loopw [5] (fun i wr => ∃ k : Nat, k ≤ vs.length ∧ i = .int .i64 k ∧ Hid (ns.take k = ms.take k) ∧ Below w1.heap.size w1 wr) (fun i _ => (vs.length - intOf i).toNat)
    case atStart => exact ⟨0, by omega, rfl, Lib.hid rfl, Below.refl _ _⟩
    case round =>
      obtain ⟨k, hk, rfl, heq, hb⟩ := hrel
      have HBW := Lib.hid hb
      have p0 : wr.cell? ⟨w.heap.size, 0, none⟩ = some (.slice A vs.length c) := (B1.out.below hb B1.out.lt).cell 0
      have q0 : wr.cell? ⟨w.heap.size + 1, 0, none⟩ = some (.slice A' us.length c') := (B2.out.below hb B2.out.lt).cell 0
      clear hb
      by_cases hlt : k < vs.length
      · have hlt2 : k < us.length := by have := HVL.out; have := HUL.out; have := HLM.out; omega
        have hw2 : Below w.heap.size w wr := L1.out.trans (HBW.out.mono (by rw [Z1.out]; omega))
        obtain ⟨ad, rfl, hab, c0, c1, c2, c3, c4⟩ := node_at (HG.out.below hw2).row hlt
        obtain ⟨ad', rfl, hab', d0, d1, d2, d3, d4⟩ := node_at (HG'.out.below hw2).row hlt2
        obtain ⟨x, hx⟩ : ∃ x, vs[k] = x := ⟨_, rfl⟩
        obtain ⟨y, hy⟩ : ∃ y, us[k] = y := ⟨_, rfl⟩
        rw [hx] at c0 c1 c3 c4
        rw [hy] at d0 d1 d3 d4
        have HX := Lib.hid hx
        have HY := Lib.hid hy
        have HW2 := Lib.hid hw2
        have hkI : (k : Int) < (vs.length : Int) := by omega
        have hkJ : (k : Int) < (us.length : Int) := by omega
        clear hx hy hw2
        go_upto_region 6 with fail
        go_cut [6, 7] (fun s6 s7 wx => ∃ g6 g7, s6 = .pointer (some ⟨g6, 0, none⟩) ∧ s7 = .pointer (some ⟨g7, 0, none⟩) ∧ Blk wx g6 49 #[.int .i64 x.kind, .string ⟨x.text.toArray⟩, .bool false, .slice x.k.a x.k.n x.k.c, .slice x.i.a x.i.n x.i.c] ∧ Blk wx g7 49 #[.int .i64 y.kind, .string ⟨y.text.toArray⟩, .bool false, .slice y.k.a y.k.n y.k.c, .slice y.i.a y.i.n y.i.c] ∧ Below w1.heap.size w1 wx)
        case first =>
          go_region_held3 (fun w' => w'.cell? ⟨w.heap.size, 0, none⟩ = some (.slice (some ad) vs.length c) ∧ w'.cell? ⟨w.heap.size + 1, 0, none⟩ = some (.slice (some ad') us.length c') ∧
            w'.cell? (ad.add (k * 5)) = some (.int .i64 (x.kind : Int)) ∧ w'.cell? { block := (ad.add (k * 5)).block, off := (ad.add (k * 5)).off + 1 } = some (.string ⟨x.text.toArray⟩) ∧ w'.cell? { block := (ad.add (k * 5)).block, off := (ad.add (k * 5)).off + 2 } = some (.bool false) ∧
            w'.cell? { block := (ad.add (k * 5)).block, off := (ad.add (k * 5)).off + 3 } = some (.slice x.k.a x.k.n x.k.c) ∧ w'.cell? { block := (ad.add (k * 5)).block, off := (ad.add (k * 5)).off + 4 } = some (.slice x.i.a x.i.n x.i.c) ∧
            w'.cell? (ad'.add (k * 5)) = some (.int .i64 (y.kind : Int)) ∧ w'.cell? { block := (ad'.add (k * 5)).block, off := (ad'.add (k * 5)).off + 1 } = some (.string ⟨y.text.toArray⟩) ∧ w'.cell? { block := (ad'.add (k * 5)).block, off := (ad'.add (k * 5)).off + 2 } = some (.bool false) ∧
            w'.cell? { block := (ad'.add (k * 5)).block, off := (ad'.add (k * 5)).off + 3 } = some (.slice y.k.a y.k.n y.k.c) ∧ w'.cell? { block := (ad'.add (k * 5)).block, off := (ad'.add (k * 5)).off + 4 } = some (.slice y.i.a y.i.n y.i.c))
            (first | go_keep | (simp [go_sem])) (fail)
          all_goals
            go_wp2_with fail
            go_meet
          · refine ⟨wr.heap.size, wr.heap.size + 1, rfl, rfl, (Blk.new _ _ _).alloc _, ?_, (((HBW.out.alloc HBW.out.size _).alloc (by have := HBW.out.size; simp; omega) _).drew)⟩
            have := Blk.new (wr.alloc (.cells #[.int .i64 x.kind, .string ⟨x.text.toArray⟩, .bool false, .slice x.k.a x.k.n x.k.c, .slice x.i.a x.i.n x.i.c] 49)) 49 #[.int .i64 y.kind, .string ⟨y.text.toArray⟩, .bool false, .slice y.k.a y.k.n y.k.c, .slice y.i.a y.i.n y.i.c]
            rw [World.size_alloc] at this
            exact this
          · refine ⟨wr.heap.size + 1, wr.heap.size, rfl, rfl, ?_, (Blk.new _ _ _).alloc _, (((HBW.out.alloc HBW.out.size _).alloc (by have := HBW.out.size; simp; omega) _).drew)⟩
            have := Blk.new (wr.alloc (.cells #[.int .i64 y.kind, .string ⟨y.text.toArray⟩, .bool false, .slice y.k.a y.k.n y.k.c, .slice y.i.a y.i.n y.i.c] 49)) 49 #[.int .i64 x.kind, .string ⟨x.text.toArray⟩, .bool false, .slice x.k.a x.k.n x.k.c, .slice x.i.a x.i.n x.i.c]
            rw [World.size_alloc] at this
            exact this
        case rest =>
          rename_i wOld
          obtain ⟨g6, g7, rfl, rfl, bx, bY, hbw⟩ := hcut
          clear c0 c1 c2 c3 c4 d0 d1 d2 d3 d4 p0 q0
          have hw3 : Below w.heap.size w wc := L1.out.trans (hbw.mono (by rw [Z1.out]; omega))
          have hk1 : k < ns.length := by have := HVL.out; omega
          have hk2 : k < ms.length := by have := HUL.out; omega
          obtain ⟨nx, hnx⟩ : ∃ nx, ns[k] = nx := ⟨_, rfl⟩
          obtain ⟨ny, hny⟩ : ∃ ny, ms[k] = ny := ⟨_, rfl⟩
          obtain ⟨ka, kb, kc, kd⟩ := (HG.out.below hw3).nums k hlt hk1
          obtain ⟨ja, jb, jc, jd⟩ := (HG'.out.below hw3).nums k hlt2 hk2
          obtain ⟨kk, kt⟩ := HG.out.kind k hlt hk1
          obtain ⟨jk, jt⟩ := HG'.out.kind k hlt2 hk2
          have hkx := hkl nx (by rw [← hnx]; exact List.getElem_mem _)
          rw [HX.out, hnx] at ka kb kc kd kk kt
          rw [HY.out, hny] at ja jb jc jd jk jt
          have hz3 := hw3.size
          have ka' := ka.more hz3
          have kc' := kc.more hz3
          have ja' := ja.more hz3
          have jc' := jc.more hz3
          have c0 : wc.cell? ⟨g6, 0, none⟩ = some (.int .i64 nx.kind) := by rw [← kk]; exact bx.cell 0
          have c1 : wc.cell? ⟨g6, 1, none⟩ = some (.string ⟨nx.text.toArray⟩) := by rw [← kt]; exact bx.cell 1
          have c2 : wc.cell? ⟨g6, 2, none⟩ = some (.bool false) := bx.cell 2
          have c3 : wc.cell? ⟨g6, 3, none⟩ = some (.slice x.k.a nx.keys.length x.k.c) := by rw [← kb]; exact bx.cell 3
          have c4 : wc.cell? ⟨g6, 4, none⟩ = some (.slice x.i.a nx.items.length x.i.c) := by rw [← kd]; exact bx.cell 4
          have d0 : wc.cell? ⟨g7, 0, none⟩ = some (.int .i64 ny.kind) := by rw [← jk]; exact bY.cell 0
          have d1 : wc.cell? ⟨g7, 1, none⟩ = some (.string ⟨ny.text.toArray⟩) := by rw [← jt]; exact bY.cell 1
          have d2 : wc.cell? ⟨g7, 2, none⟩ = some (.bool false) := bY.cell 2
          have d3 : wc.cell? ⟨g7, 3, none⟩ = some (.slice y.k.a ny.keys.length y.k.c) := by rw [← jb]; exact bY.cell 3
          have d4 : wc.cell? ⟨g7, 4, none⟩ = some (.slice y.i.a ny.items.length y.i.c) := by rw [← jd]; exact bY.cell 4
          have HTK : Hid (nx = ny → ns.take (k + 1) = ms.take (k + 1)) := Lib.hid (fun e => by
            rw [List.take_succ_eq_append_getElem hk1, List.take_succ_eq_append_getElem hk2, hnx, hny, heq.out, e])
          have HNE : Hid (nx ≠ ny → r = false) := Lib.hid (fun e => by
            rw [← HR.out]
            simp only [decide_eq_false_iff_not]
            intro h
            subst h
            exact e (hnx.symm.trans hny))
          have HBC := Lib.hid hbw
          have HW3 := Lib.hid hw3
          have KA := Lib.hid ka'
          have KC := Lib.hid kc'
          have JA := Lib.hid ja'
          have JC := Lib.hid jc'
          have HKX := Lib.hid hkx
          clear ka kb kc kd ja jb jc jd kk kt jk jt ka' kc' ja' jc' hbw hw3 bx bY hkx hnx hny hkl hz3
          by_cases e1 : nx.kind = ny.kind
          · have k1 : ((nx.kind : Int) != (ny.kind : Int)) = false := by simp [e1]
            by_cases e2 : nx.text = ny.text
            · have k2 : ((⟨nx.text.toArray⟩ : ByteArray) != ⟨ny.text.toArray⟩) = false := by rw [ba_ne]; simp [e2]
              have HE1 := Lib.hid e1
              have HE2 := Lib.hid e2
              clear e1 e2
              by_cases e3 : nx.keys = ny.keys
              · have HI1 : ∀ W, W = wc → Calls Tryd.prog 35 #[.slice x.k.a nx.keys.length x.k.c, .slice y.k.a ny.keys.length y.k.c] W fun e w' => e = .returned (.bool true) ∧ ∃ n, w' = wc.drewN n := fun W hW => by
                  subst hW
                  have := ints_any nx.keys ny.keys x.k.a y.k.a x.k.c y.k.c HKX.out.1 W KA.out JA.out
                  rw [decide_eq_true e3] at this
                  exact this
                by_cases e4 : nx.items = ny.items
                · have HI2 : ∀ n, Calls Tryd.prog 35 #[.slice x.i.a nx.items.length x.i.c, .slice y.i.a ny.items.length y.i.c] (wc.drewN n) fun e w' => e = .returned (.bool true) ∧ ∃ n, w' = wc.drewN n := fun n => by
                    have := ints_any nx.items ny.items x.i.a y.i.a x.i.c y.i.c HKX.out.2 (wc.drewN n) (KC.out.drewN n) (JC.out.drewN n)
                    rw [decide_eq_true e4] at this
                    refine this.mono ?_
                    rintro e w' ⟨rfl, m, rfl⟩
                    exact ⟨rfl, _, World.drewN_drewN _ _ _⟩
                  have HXY : Hid (nx = ny) := Lib.hid (by
                    obtain ⟨a1, a2, a3, a4⟩ := nx
                    obtain ⟨b1, b2, b3, b4⟩ := ny
                    have := HE1.out
                    have := HE2.out
                    simp_all)
                  have HI1 := HI1 _ rfl
                  clear e3 e4
                  go_wp2_with fail
                  refine HI1.mono ?_
                  rintro e w2 ⟨rfl, n1, rfl⟩
                  go_wp2_with fail
                  refine (HI2 _).mono ?_
                  rintro e w2 ⟨rfl, n2, rfl⟩
                  go_wp2_with fail
                  go_roundw
                  case rel => exact ⟨k + 1, by omega, by go_num, Lib.hid (HTK.out HXY.out), below_drewN HBC.out _⟩
                  case measure => simp [intOf]; omega
                · have HI2 : ∀ n, Calls Tryd.prog 35 #[.slice x.i.a nx.items.length x.i.c, .slice y.i.a ny.items.length y.i.c] (wc.drewN n) fun e w' => e = .returned (.bool false) ∧ ∃ n, w' = wc.drewN n := fun n => by
                    have := ints_any nx.items ny.items x.i.a y.i.a x.i.c y.i.c HKX.out.2 (wc.drewN n) (KC.out.drewN n) (JC.out.drewN n)
                    rw [decide_eq_false e4] at this
                    refine this.mono ?_
                    rintro e w' ⟨rfl, m, rfl⟩
                    exact ⟨rfl, _, World.drewN_drewN _ _ _⟩
                  have HRF : Hid (r = false) := Lib.hid (HNE.out (fun e => e4 (by rw [e])))
                  have HI1 := HI1 _ rfl
                  clear e3 e4
                  go_wp2_with fail
                  refine HI1.mono ?_
                  rintro e w2 ⟨rfl, n1, rfl⟩
                  go_wp2_with fail
                  refine (HI2 _).mono ?_
                  rintro e w2 ⟨rfl, n2, rfl⟩
                  go_wp2_with fail
                  go_ret
                  exact ⟨congrArg (fun b => Ending.returned (.bool b)) HRF.out.symm, below_drewN HW3.out _⟩
              · have HI1 : ∀ W, W = wc → Calls Tryd.prog 35 #[.slice x.k.a nx.keys.length x.k.c, .slice y.k.a ny.keys.length y.k.c] W fun e w' => e = .returned (.bool false) ∧ ∃ n, w' = wc.drewN n := fun W hW => by
                  subst hW
                  have := ints_any nx.keys ny.keys x.k.a y.k.a x.k.c y.k.c HKX.out.1 W KA.out JA.out
                  rw [decide_eq_false e3] at this
                  exact this
                have HRF : Hid (r = false) := Lib.hid (HNE.out (fun e => e3 (by rw [e])))
                have HI1 := HI1 _ rfl
                clear e3
                go_wp2_with fail
                refine HI1.mono ?_
                rintro e w2 ⟨rfl, n1, rfl⟩
                go_wp2_with fail
                go_ret
                exact ⟨congrArg (fun b => Ending.returned (.bool b)) HRF.out.symm, below_drewN HW3.out _⟩
            · have k2 : ((⟨nx.text.toArray⟩ : ByteArray) != ⟨ny.text.toArray⟩) = true := by rw [ba_ne]; simp [e2]
              have HRF : Hid (r = false) := Lib.hid (HNE.out (fun e => e2 (by rw [e])))
              have HE1 := Lib.hid e1
              clear e1
              go_wp2_with fail
              go_ret
              exact ⟨congrArg (fun b => Ending.returned (.bool b)) HRF.out.symm, HW3.out⟩
          · have k1 : ((nx.kind : Int) != (ny.kind : Int)) = true := by simp; omega
            have HRF : Hid (r = false) := Lib.hid (HNE.out (fun e => e1 (by rw [e])))
            clear e1
            go_wp2_with fail
            go_ret
            exact ⟨congrArg (fun b => Ending.returned (.bool b)) HRF.out.symm, HW3.out⟩
      · have hE : Hid (r = true) := Lib.hid (by
          rw [← HR.out]
          have a := heq.out
          have := HVL.out
          have := HLM.out
          rw [List.take_of_length_le (by omega), List.take_of_length_le (by omega)] at a
          simpa using a)
        go_wp2_with fail
        go_ret
        exact ⟨congrArg (fun b => Ending.returned (.bool b)) hE.out.symm, L1.out.trans (HBW.out.mono (by rw [Z1.out]; omega))⟩
  · have hbl : ((vs.length : Int) != (us.length : Int)) = true := by simp; omega
    have HE : Hid (r = false) := Lib.hid (by rw [← HR.out]; simp; intro e; exact hlm (by rw [e]))
    clear hlm
    go_wp2_with fail
    go_ret
    exact ⟨congrArg (fun b => Ending.returned (.bool b)) HE.out.symm, ((Below.refl _ _).alloc (Nat.le_refl _) _).alloc (by simp) _⟩
end Go.Proofs.YtegdemnfjmaicaaDoor
namespace Go.Proofs.YtegdemnfjmaicaaDoor
open Go.RowKit
set_option maxRecDepth 100000 in
set_option maxHeartbeats 1000000 in
theorem samegraph_any (A A' : Option Addr) (c c' : Nat) (vs us : List NV) (ns ms : List Ini.Nd) (w : World) (h : GAt w w.heap.size A vs ns) (h' : GAt w w.heap.size A' us ms) (hl : ns.length ≤ 1073741823) (r : Bool) (hr : decide (ns = ms) = r)
    (hkl : ∀ n ∈ ns, n.keys.length ≤ 1073741824 ∧ n.items.length ≤ 1073741824) :
    Calls Tryd.prog 13 #[.agg #[.slice A vs.length c, .int .i64 0], .agg #[.slice A' us.length c', .int .i64 0]] w fun e w' => e = .returned (.bool r) ∧ Below w.heap.size w w' := by
  have hb : Below w.heap.size w ((w.alloc (.cells #[.slice A vs.length c, .int .i64 0] 25)).alloc (.cells #[.slice A' us.length c', .int .i64 0] 25)) := ((Below.refl _ _).alloc (Nat.le_refl _) _).alloc (by simp) _
  have HB := Lib.hid hb
  have HG := Lib.hid ((h.below hb).more hb.size)
  have HG' := Lib.hid ((h'.below hb).more hb.size)
  clear h h' hb
  go_enter Tryd.func13, Tryd.ntmps13
  go_wp2_with fail
  refine (is_any A A' c c' vs us ns ms _ HG.out HG'.out hl r hr hkl).mono ?_
  rintro e w1 ⟨rfl, hb1⟩
  have HB1 : Hid (Below w.heap.size w w1) := Lib.hid (HB.out.trans (hb1.mono HB.out.size))
  clear hb1
  go_wp2_with fail
  go_ret
  exact ⟨rfl, HB1.out⟩
end Go.Proofs.YtegdemnfjmaicaaDoor
