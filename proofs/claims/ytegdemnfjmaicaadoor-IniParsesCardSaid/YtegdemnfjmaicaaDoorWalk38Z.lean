/- Walks: the reference's add. The reference's memory while an entry is being added. -/
import Derived.Test.YtegdemnfjmaicaaDoorWalk37
import Derived.Deep.RegionHeld3
namespace Go.Proofs.YtegdemnfjmaicaaDoor
open Go.RowKit
def ncells (kind : Nat) (text : Ini.Str) : Array Value := #[.int .i64 (kind : Int), .string ⟨text.toArray⟩, .bool false, .slice none 0 0, .slice none 0 0]
def scells (n0 p0 e0 : Int) (sf sz skf skt : Nat) (wh : Bool) : Array Value := #[.int .i64 n0, .int .i64 p0, .int .i64 e0, .int .i64 (sf : Int), .int .i64 (sz : Int), .int .i64 (skf : Int), .int .i64 (skt : Int), .bool false, .bool wh]
def RAPost (B : Nat) (V : PV) (rb : Nat) (s : Ini.Str) (st : Ini.St) (R : Ini.Res Ini.St) (w' : World) : Prop := match R with
  | .err x c => RAt B (failV true V x c) w' rb s st
  | .ok st' => ∃ V', RAt B V' w' rb s st' ∧ V'.at_ = V.at_ ∧ V'.e_ = V.e_
/-- the node of a span, read. -/
theorem RAt.spanNode {B rb par node : Nat} {V : PV} {w : World} {s : Ini.Str} {st : Ini.St} (h : RAt B V w rb s st) (hp : par < st.spans.length) (hpn : (st.spans[par]).node = node) :
    ∃ A c ad, V.sv = .slice (some A) st.spans.length c ∧ ad = A.add (par * 9) ∧ w.cell? ⟨rb, 4, none⟩ = some (.slice (some A) st.spans.length c) ∧ w.cell? (A.add (par * 9)) = some (.int .i64 (node : Int)) := by
  obtain ⟨A, c, hv, hr⟩ := h.spans.form
  obtain ⟨ad, rfl, _, c0, _⟩ := span_at hr hp
  rw [hpn] at c0
  exact ⟨ad, c, _, hv, rfl, by rw [h.blk.cell 4]; show some V.sv = _; rw [hv], c0⟩
set_option maxRecDepth 100000 in
set_option maxHeartbeats 1000000 in
theorem rfail_kept (B rb x c : Nat) (V : PV) (s : Ini.Str) (st : Ini.St) (w : World) (h : RAt B V w rb s st) (z : Bool) (hz : E0 z V) :
    Calls Tryd.prog 45 #[.pointer (some ⟨rb, 0, none⟩), .int .i64 x, .int .i64 c] w fun e w' => e = .returned (.tuple #[]) ∧ Below B w w' ∧ RAt B (failV z V x c) w' rb s st ∧ ∀ g t cs, g ≠ rb → Blk w g t cs → Blk w' g t cs := by
  have HR := Lib.hid h
  have hle := h.le
  have c8 : w.cell? ⟨rb, 8, none⟩ = some V.e_ := h.blk.cell 8
  have pf : ∀ i, w.frozen? ⟨rb, i, none⟩ = false := h.blk.frozen
  have c7 : w.cell? ⟨rb, 7, none⟩ = some V.at_ := h.blk.cell 7
  have hlt := h.blk.lt
  clear h
  cases z with
  | true =>
    have hz : V.e_ = .int .i64 0 := hz
    rw [hz] at c8
    clear hz
    go_enter Tryd.func45, Tryd.ntmps45
    go_wp2_with fail
    (try go_end0)
    exact ⟨rfl, ((Below.refl _ _).setCell hle _).setCell hle _, HR.out.fail_ x c, fun g t cs hg hb => (hb.far (p := ⟨rb, 7, none⟩) hg _).far (p := ⟨rb, 8, none⟩) hg _⟩
  | false =>
    obtain ⟨k, hk0, hk⟩ : ∃ c : Nat, c ≠ 0 ∧ V.e_ = .int .i64 (c : Int) := hz
    rw [hk] at c8
    have k1 : ¬ ((k : Int) = 0) := by omega
    have k1b : ((k : Int) == 0) = false := by simpa using k1
    clear hk
    go_enter Tryd.func45, Tryd.ntmps45
    go_wp2_with fail
    (try go_end0)
    exact ⟨rfl, Below.refl _ _, HR.out, fun _ _ _ _ hb => hb⟩
set_option maxRecDepth 100000 in
set_option maxHeartbeats 4000000 in
theorem radd_twice (B rb par node : Nat) (V : PV) (s key text : Ini.Str) (st : Ini.St) (kind sf sz skf skt : Nat) (wh : Bool) (w : World) (h : RAt B V w rb s st) (hf : Fit st) (he : V.e_ = .int .i64 0)
    (hp : par < st.spans.length) (hpn : (st.spans[par]).node = node) (hn : node < st.nodes.length) (hk : Ini.keyIn st.nodes node key = true) :
    Calls Tryd.prog 46 #[.pointer (some ⟨rb, 0, none⟩), .int .i64 par, .string ⟨key.toArray⟩, .agg (ncells kind text), .agg (scells 0 0 0 sf sz skf skt wh)] w fun e w' => Below B w w' ∧ e = .returned (.tuple #[]) ∧ RAt B (failV true V skf 8) w' rb s st := by
  unfold ncells scells
  have HA := Lib.hid h
  have hbase := h.base
  have hrlt := h.blk.lt
  obtain ⟨A, c, nn, hsv, _, _, _⟩ := h.spanNode hp hpn
  have HSP := Lib.hid (fun (W : World) (hb : Below w.heap.size w W) => (h.later hb).spanNode hp hpn)
  have hpI : (par : Int) < (st.spans.length : Int) := by omega
  have HF := Lib.hid hf
  have HE := Lib.hid he
  have HK := Lib.hid hk
  have HSV := Lib.hid hsv
  clear h he hf hk hpn hsv
  go_enter Tryd.func46, Tryd.ntmps46
  obtain ⟨w1, hw1⟩ : ∃ w1, (w.alloc (.cells #[.int .i64 kind, .string ⟨text.toArray⟩, .bool false, .slice none 0 0, .slice none 0 0] 49)).alloc (.cells #[.int .i64 0, .int .i64 0, .int .i64 0, .int .i64 sf, .int .i64 sz, .int .i64 skf, .int .i64 skt, .bool false, .bool wh] 45) = w1 := ⟨_, rfl⟩
  have l1 : Below w.heap.size w w1 := by rw [← hw1]; exact ((Below.refl _ _).alloc (Nat.le_refl _) _).alloc (by simp) _
  have b9 : Blk w1 (w.heap.size + 1) 45 #[.int .i64 0, .int .i64 0, .int .i64 0, .int .i64 sf, .int .i64 sz, .int .i64 skf, .int .i64 skt, .bool false, .bool wh] := by
    rw [← hw1]
    have := Blk.new (w.alloc (.cells #[.int .i64 kind, .string ⟨text.toArray⟩, .bool false, .slice none 0 0, .slice none 0 0] 49)) 45 #[.int .i64 0, .int .i64 0, .int .i64 0, .int .i64 sf, .int .i64 sz, .int .i64 skf, .int .i64 skt, .bool false, .bool wh]
    rw [World.size_alloc] at this
    exact this
  obtain ⟨A2, c2, _, hsv2, _, g4, g0⟩ := HSP.out w1 l1
  rw [HSV.out] at hsv2
  injection hsv2 with e1 e2 e3
  injection e1 with e1
  subst e1
  subst e3
  have HB9 := Lib.hid b9
  have HL1 := Lib.hid l1
  have HA1 := Lib.hid (HA.out.later l1)
  clear b9 l1
  go_upto_region 1 with fail
  (try rw [hw1])
  clear hw1
  go_wp2_with fail
  refine (rfind_any B rb node V s key st _ HA1.out HF.out hn true HK.out).mono ?_
  rintro e w2 ⟨⟨n, rfl⟩, v, rfl, hv⟩
  have HA2 := Lib.hid (HA1.out.later (below_drewN (Below.refl _ w1) n))
  have x5 : w1.cell? ⟨w.heap.size + 1, 5, none⟩ = some (.int .i64 skf) := HB9.out.cell 5
  clear g4 g0
  go_wp2_with fail
  refine (rfail_kept B rb skf 8 V s st _ HA2.out true HE.out).mono ?_
  rintro e w3 ⟨rfl, hb3, h3, hk3⟩
  have HX3 := Lib.hid (hk3 (w.heap.size + 1) 45 _ (by omega) (show Blk (w1.drewN n) _ _ _ from HB9.out))
  clear hk3
  have HB3 : Hid (Below B w w3) := Lib.hid ((HL1.out.mono hbase).trans (((below_drewN (Below.refl _ w1) n).mono (HA1.out.base)).trans hb3))
  clear hb3 x5
  obtain ⟨An, cn, hnv, _⟩ := h3.nodes.form
  have hnv : V.nv = .slice An V.vs.length cn := hnv
  have r2 : w3.cell? ⟨rb, 2, none⟩ = some (.slice An V.vs.length cn) := by rw [h3.blk.cell 2]; show some V.nv = _; rw [hnv]
  clear hnv
  have hvb : V.vs.length ≤ 8192 := by have h1 : V.vs.length = st.nodes.length := h3.rows.len; have := HF.out.nl; omega
  have HA3 := Lib.hid h3
  clear h3
  by_cases hm : 4096 < V.vs.length + 2
  · have hmI : (4096 : Int) < (V.vs.length : Int) + 2 := by omega
    have x5 : w3.cell? ⟨w.heap.size + 1, 5, none⟩ = some (.int .i64 skf) := HX3.out.cell 5
    go_wp2_with fail
    refine (rfail_any B rb skf 7 _ s st _ HA3.out false (E0_fail true V HE.out (some (skf, 8)) (by intro p hp; injection hp with hp; rw [← hp]; show (8 : Nat) ≠ 0; decide))).mono ?_
    rintro e w4 ⟨rfl, hb4, h4⟩
    have c8 : w4.cell? ⟨rb, 8, none⟩ = some (.int .i64 8) := h4.blk.cell 8
    have HA4 := Lib.hid h4
    have HB4 := Lib.hid hb4
    clear hb4 h4
    go_wp2_with fail
    refine bodyPost_ret (v := .tuple #[]) (by simp [results, Tryd.results46, go_sem]) rfl ?_
    exact ⟨HB3.out.trans HB4.out, rfl, HA4.out⟩
  · have hmI : ¬ ((4096 : Int) < (V.vs.length : Int) + 2) := by omega
    have hmb : decide ((4096 : Int) < (V.vs.length : Int) + 2) = false := by simpa using hmI
    have c8 : w3.cell? ⟨rb, 8, none⟩ = some (.int .i64 8) := HA3.out.blk.cell 8
    go_wp2_with fail
    refine bodyPost_ret (v := .tuple #[]) (by simp [results, Tryd.results46, go_sem]) rfl ?_
    exact ⟨HB3.out, rfl, HA3.out⟩
end Go.Proofs.YtegdemnfjmaicaaDoor
namespace Go.Proofs.YtegdemnfjmaicaaDoor
open Go.RowKit
/-- an entry is being added: the call's two boxes lie at w's end. -/
structure RMid (B : Nat) (V : PV) (wx : World) (rb : Nat) (s : Ini.Str) (st : Ini.St) (w : World) (ncs scs : Array Value) : Prop where
  at_ : RAt B V wx rb s st
  b8 : Blk wx w.heap.size 49 ncs
  b9 : Blk wx (w.heap.size + 1) 45 scs
  below : Below B w wx
  base : B ≤ w.heap.size
  lt : rb < w.heap.size
  own8 : V.nv.ownBlock ≠ some w.heap.size
  own9 : V.sv.ownBlock ≠ some (w.heap.size + 1)
section
variable {B : Nat} {V : PV} {w wx w2 : World} {rb : Nat} {s : Ini.Str} {st : Ini.St} {ncs scs : Array Value}
theorem RMid.size (h : RMid B V wx rb s st w ncs scs) : w.heap.size + 2 ≤ wx.heap.size := h.b9.lt
theorem RMid.baseX (h : RMid B V wx rb s st w ncs scs) : B ≤ wx.heap.size := by have := h.base; have := h.size; omega
theorem RMid.later (h : RMid B V wx rb s st w ncs scs) (hb : Below wx.heap.size wx w2) : RMid B V w2 rb s st w ncs scs :=
  ⟨h.at_.later hb, h.b8.below hb h.b8.lt, h.b9.below hb h.b9.lt, h.below.trans (hb.mono h.baseX), h.base, h.lt, h.own8, h.own9⟩
theorem RMid.alloc (h : RMid B V wx rb s st w ncs scs) (o : Obj) : RMid B V (wx.alloc o) rb s st w ncs scs := h.later ((Below.refl _ _).alloc (Nat.le_refl _) o)
theorem RMid.drew (h : RMid B V wx rb s st w ncs scs) : RMid B V wx.drew rb s st w ncs scs := h.later (Below.refl _ _).drew
theorem RMid.drewN (h : RMid B V wx rb s st w ncs scs) (n : Nat) : RMid B V (wx.drewN n) rb s st w ncs scs := h.later (below_drewN (Below.refl _ _) n)
theorem RMid.setSpan (h : RMid B V wx rb s st w ncs scs) (i : Nat) (u : Value) : RMid B V (wx.setCell ⟨w.heap.size + 1, i, none⟩ u) rb s st w ncs (scs.setIfInBounds i u) := by
  have hb9 := h.b9
  have kT : ∀ t, t ≠ 45 → KeptT t wx (wx.setCell ⟨w.heap.size + 1, i, none⟩ u) := fun t ht => KeptT.setCell (p := ⟨w.heap.size + 1, i, none⟩) hb9 ht u
  have hbs := h.base
  refine ⟨⟨h.at_.le, by rw [setCell_size]; exact h.at_.base, kT _ (by decide) _ _ h.at_.blk, h.at_.nodes.kept (kT _ (by decide)), h.at_.spans.setCell h.own9 _, h.at_.notes.kept (kT _ (by decide)), h.at_.rows.kept (kT _ (by decide))⟩,
    kT _ (by decide) _ _ h.b8, hb9.set_ i u, h.below.setCell (p := ⟨w.heap.size + 1, i, none⟩) (by show B ≤ w.heap.size + 1; omega) u, h.base, h.lt, h.own8, h.own9⟩
theorem RMid.appNodes (h : RMid B V wx rb s st w ncs scs) {v' : Value} {kind : Nat} {text : Ini.Str} (hown : OwnRow nodeL w2 B 49 v' (V.vs ++ [⟨kind, text, SV.nil, SV.nil⟩])) (hg : wx.grownBy w2 V.nv.ownBlock)
    (hat : v'.ownBlock = V.nv.ownBlock ∨ v'.ownBlock = some wx.heap.size) :
    RMid B { V with nv := v', vs := V.vs ++ [⟨kind, text, SV.nil, SV.nil⟩] } (w2.setCell ⟨rb, 2, none⟩ v') rb s { st with nodes := st.nodes ++ [⟨kind, text, [], []⟩] } w ncs scs := by
  have hlt := h.lt
  have hsz := h.size
  refine ⟨h.at_.appNodes hown hg, (h.b8.grown hg (fun e => h.own8 e.symm)).far (p := ⟨rb, 2, none⟩) (by show _ ≠ rb; omega) _, (h.b9.grown hg (fun e => own_blk_ne h.at_.nodes h.b9 (by decide) e.symm)).far (p := ⟨rb, 2, none⟩) (by show _ ≠ rb; omega) _,
    (h.below.trans (h.at_.nodes.grown_below hg h.baseX)).setCell (p := ⟨rb, 2, none⟩) h.at_.le _, h.base, h.lt, ?_, h.own9⟩
  show v'.ownBlock ≠ _
  rcases hat with h1 | h1
  · rw [h1]; exact h.own8
  · rw [h1]; intro e; injection e with e; omega
theorem RMid.appSpans (h : RMid B V wx rb s st w ncs scs) {v' : Value} {l : List Ini.Sp} (hown : OwnRow spanL w2 B 45 v' l) (hg : wx.grownBy w2 V.sv.ownBlock)
    (hat : v'.ownBlock = V.sv.ownBlock ∨ v'.ownBlock = some wx.heap.size) :
    RMid B { V with sv := v' } (w2.setCell ⟨rb, 4, none⟩ v') rb s { st with spans := l } w ncs scs := by
  have hlt := h.lt
  have hsz := h.size
  refine ⟨h.at_.appSpans hown hg, (h.b8.grown hg (fun e => own_blk_ne h.at_.spans h.b8 (by decide) e.symm)).far (p := ⟨rb, 4, none⟩) (by show _ ≠ rb; omega) _, (h.b9.grown hg (fun e => h.own9 e.symm)).far (p := ⟨rb, 4, none⟩) (by show _ ≠ rb; omega) _,
    (h.below.trans (h.at_.spans.grown_below hg h.baseX)).setCell (p := ⟨rb, 4, none⟩) h.at_.le _, h.base, h.lt, h.own8, ?_⟩
  show v'.ownBlock ≠ _
  rcases hat with h1 | h1
  · rw [h1]; exact h.own9
  · rw [h1]; intro e; injection e with e; omega
/-- the node of a span, in the nodes' row. -/
theorem RMid.keysOf (h : RMid B V wx rb s st w ncs scs) {node : Nat} (hn : node < V.vs.length) (hn2 : node < st.nodes.length) :
    OwnRow intL wx B 3 V.vs[node].k.v st.nodes[node].keys ∧ OwnRow intL wx B 3 V.vs[node].i.v st.nodes[node].items := by
  have h1 := h.at_.rows.own node false
  have h2 := h.at_.rows.own node true
  unfold ints intsOf at h1 h2
  rw [List.getElem?_eq_getElem hn, List.getElem?_eq_getElem hn2] at h1 h2
  exact ⟨h1, h2⟩
theorem RMid.growKeys (h : RMid B V wx rb s st w ncs scs) {node k : Nat} (hn : node < V.vs.length) (hn2 : node < st.nodes.length) {y : SV} {g cap : Nat} (hv : V.nv = .slice (some ⟨g, 0, none⟩) V.vs.length cap)
    (hown : OwnRow intL w2 B 3 y.v (st.nodes[node].keys ++ [k])) (hg : wx.grownBy w2 V.vs[node].k.v.ownBlock) (hat : y.v.ownBlock = V.vs[node].k.v.ownBlock ∨ y.v.ownBlock = some wx.heap.size) :
    RMid B { V with vs := V.vs.set node { V.vs[node] with k := y } } (w2.setCell ⟨g, node * 5 + 3, none⟩ y.v) rb s { st with nodes := st.nodes.set node { st.nodes[node] with keys := st.nodes[node].keys ++ [k] } } w ncs scs := by
  have hK := (h.keysOf hn hn2).1
  have k2 : ∀ t, t ≠ 3 → KeptT t wx w2 := fun t ht => KeptT.grown hg hK (fun e => ht e.symm)
  obtain ⟨g', cap', rest, hv', _, hG, hbg, _⟩ := h.at_.nodes.row (by intro e; rw [e] at hn; simp at hn)
  rw [hv] at hv'
  obtain ⟨rfl, rfl⟩ : g = g' ∧ cap = cap' := by
    simp only [Value.slice.injEq, Option.some.injEq, Addr.mk.injEq, and_true, true_and] at hv'
    exact hv'
  have h8 : w.heap.size ≠ g := by intro e; apply h.own8; rw [hv, e]; rfl
  have h9 : w.heap.size + 1 ≠ g := fun e => Blk.ne_ h.b9 hG (by decide) e
  refine ⟨h.at_.growKeys hn hn2 hv hown hg hat, (k2 49 (by decide) _ _ h.b8).far (p := ⟨g, node * 5 + 3, none⟩) h8 _, (k2 45 (by decide) _ _ h.b9).far (p := ⟨g, node * 5 + 3, none⟩) h9 _,
    (h.below.trans (hK.grown_below hg h.baseX)).setCell (p := ⟨g, node * 5 + 3, none⟩) hbg _, h.base, h.lt, h.own8, h.own9⟩
theorem RMid.growItems (h : RMid B V wx rb s st w ncs scs) {node k : Nat} (hn : node < V.vs.length) (hn2 : node < st.nodes.length) {y : SV} {g cap : Nat} (hv : V.nv = .slice (some ⟨g, 0, none⟩) V.vs.length cap)
    (hown : OwnRow intL w2 B 3 y.v (st.nodes[node].items ++ [k])) (hg : wx.grownBy w2 V.vs[node].i.v.ownBlock) (hat : y.v.ownBlock = V.vs[node].i.v.ownBlock ∨ y.v.ownBlock = some wx.heap.size) :
    RMid B { V with vs := V.vs.set node { V.vs[node] with i := y } } (w2.setCell ⟨g, node * 5 + 4, none⟩ y.v) rb s { st with nodes := st.nodes.set node { st.nodes[node] with items := st.nodes[node].items ++ [k] } } w ncs scs := by
  have hK := (h.keysOf hn hn2).2
  have k2 : ∀ t, t ≠ 3 → KeptT t wx w2 := fun t ht => KeptT.grown hg hK (fun e => ht e.symm)
  obtain ⟨g', cap', rest, hv', _, hG, hbg, _⟩ := h.at_.nodes.row (by intro e; rw [e] at hn; simp at hn)
  rw [hv] at hv'
  obtain ⟨rfl, rfl⟩ : g = g' ∧ cap = cap' := by
    simp only [Value.slice.injEq, Option.some.injEq, Addr.mk.injEq, and_true, true_and] at hv'
    exact hv'
  have h8 : w.heap.size ≠ g := by intro e; apply h.own8; rw [hv, e]; rfl
  have h9 : w.heap.size + 1 ≠ g := fun e => Blk.ne_ h.b9 hG (by decide) e
  refine ⟨h.at_.growItems hn hn2 hv hown hg hat, (k2 49 (by decide) _ _ h.b8).far (p := ⟨g, node * 5 + 4, none⟩) h8 _, (k2 45 (by decide) _ _ h.b9).far (p := ⟨g, node * 5 + 4, none⟩) h9 _,
    (h.below.trans (hK.grown_below hg h.baseX)).setCell (p := ⟨g, node * 5 + 4, none⟩) hbg _, h.base, h.lt, h.own8, h.own9⟩
end
end Go.Proofs.YtegdemnfjmaicaaDoor
