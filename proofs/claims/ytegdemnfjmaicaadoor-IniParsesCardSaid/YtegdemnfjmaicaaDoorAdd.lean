/- Walks: one more entry. -/
import Derived.Test.YtegdemnfjmaicaaDoorMem3
import Derived.Deep.RegionHeld3
import Derived.Deep.DeepCutAuto
import Derived.Deep.CutBlock
import Derived.BigRegion
import Derived.StillTailTactics
import Derived.Outline
namespace Go.Proofs.YtegdemnfjmaicaaDoor
open Go.RowKit
/-- what add answers. -/
def APost (B : Nat) (V : PV) (w : World) (pb : Nat) (s : Ini.Str) (R : Ini.Res Ini.St) (e : Ending) (w' : World) : Prop :=
  match R with
  | .err a c => e = .returned (.tuple #[.agg #[.int .i64 0, .int .i64 0], .bool false]) ∧ FPost w w' pb a c
  | .ok st' => e = .returned (.tuple #[.agg #[.int .i64 ((st'.nodes.length : Int) - 1), .int .i64 ((st'.spans.length : Int) - 1)], .bool true]) ∧
      ∃ V', PAt B V' w' pb s st' ∧ (∀ g, V'.own pb g → V.own pb g ∨ w.heap.size ≤ g) ∧ KeptBut' w w' (V.own pb)
theorem node_cells {w : World} {g : Nat} {l : List NV} {rest : List Value} (h : Blk w g 49 (nodeL.all l ++ rest).toArray) (k : Nat) (hk : k < l.length) :
    w.cell? ⟨g, k * 5, none⟩ = some (.int .i64 (l[k].kind : Int)) ∧ w.cell? ⟨g, k * 5 + 1, none⟩ = some (.string ⟨l[k].text.toArray⟩) ∧ w.cell? ⟨g, k * 5 + 2, none⟩ = some (.bool false) ∧
    w.cell? ⟨g, k * 5 + 3, none⟩ = some (.slice l[k].k.a l[k].k.n l[k].k.c) ∧ w.cell? ⟨g, k * 5 + 4, none⟩ = some (.slice l[k].i.a l[k].i.n l[k].i.c) := by
  have hx : l[k]? = some l[k] := List.getElem?_eq_getElem hk
  have hl := nodeL.all_len l
  have hsz : nodeL.sz = 5 := rfl
  rw [hsz] at hl
  have key : ∀ j u, j < 5 → (nodeL.enc l[k])[j]? = some u → w.cell? ⟨g, k * 5 + j, none⟩ = some u := by
    intro j u hj hu
    rw [h.cell, List.getElem?_toArray, List.getElem?_append_left (by omega)]
    exact nodeL.all_at l k l[k] hx j u hu
  exact ⟨key 0 _ (by omega) rfl, key 1 _ (by omega) rfl, key 2 _ (by omega) rfl, key 3 _ (by omega) rfl, key 4 _ (by omega) rfl⟩
/-- the boxes of add's parameters. -/
structure ABox (w wx : World) (node span kind : Nat) (text : Ini.Str) (sf sz skf skt : Nat) (wh : Bool) : Prop where
  below : Below w.heap.size w wx
  size : wx.heap.size = w.heap.size + 4
  tb : Blk wx w.heap.size 60 #[.int .i64 node, .int .i64 span]
  nb : Blk wx (w.heap.size + 1) 49 #[.int .i64 kind, .string ⟨text.toArray⟩, .bool false, .slice none 0 0, .slice none 0 0]
  sb : Blk wx (w.heap.size + 1 + 1) 45 #[.int .i64 0, .int .i64 0, .int .i64 0, .int .i64 sf, .int .i64 sz, .int .i64 skf, .int .i64 skt, .bool false, .bool wh]
  rb : Blk wx (w.heap.size + 1 + 1 + 1) 60 #[.int .i64 0, .int .i64 0]
theorem ABox.make (w : World) (node span kind : Nat) (text : Ini.Str) (sf sz skf skt : Nat) (wh : Bool) :
    ABox w ((((w.alloc (.cells #[.int .i64 node, .int .i64 span] 60)).alloc (.cells #[.int .i64 kind, .string ⟨text.toArray⟩, .bool false, .slice none 0 0, .slice none 0 0] 49)).alloc
      (.cells #[.int .i64 0, .int .i64 0, .int .i64 0, .int .i64 sf, .int .i64 sz, .int .i64 skf, .int .i64 skt, .bool false, .bool wh] 45)).alloc (.cells #[.int .i64 0, .int .i64 0] 60)) node span kind text sf sz skf skt wh := by
  refine ⟨((((Below.refl _ _).alloc (Nat.le_refl _) _).alloc (by simp) _).alloc (by simp; omega) _).alloc (by simp; omega) _, by simp, ?_, ?_, ?_, ?_⟩
  · exact (((Blk.new w 60 _).alloc _).alloc _).alloc _
  · have := Blk.new (w.alloc (.cells #[.int .i64 node, .int .i64 span] 60)) 49 #[.int .i64 kind, .string ⟨text.toArray⟩, .bool false, .slice none 0 0, .slice none 0 0]
    rw [World.size_alloc] at this
    exact (this.alloc _).alloc _
  · have := Blk.new ((w.alloc (.cells #[.int .i64 node, .int .i64 span] 60)).alloc (.cells #[.int .i64 kind, .string ⟨text.toArray⟩, .bool false, .slice none 0 0, .slice none 0 0] 49)) 45 #[.int .i64 0, .int .i64 0, .int .i64 0, .int .i64 sf, .int .i64 sz, .int .i64 skf, .int .i64 skt, .bool false, .bool wh]
    rw [World.size_alloc, World.size_alloc] at this
    exact this.alloc _
  · have := Blk.new (((w.alloc (.cells #[.int .i64 node, .int .i64 span] 60)).alloc (.cells #[.int .i64 kind, .string ⟨text.toArray⟩, .bool false, .slice none 0 0, .slice none 0 0] 49)).alloc (.cells #[.int .i64 0, .int .i64 0, .int .i64 0, .int .i64 sf, .int .i64 sz, .int .i64 skf, .int .i64 skt, .bool false, .bool wh] 45)) 60 #[.int .i64 0, .int .i64 0]
    rw [World.size_alloc, World.size_alloc, World.size_alloc] at this
    exact this
/-- .. and the box of the node that grows. -/
structure ABox2 (w wx : World) (node span kind : Nat) (text : Ini.Str) (sf sz skf skt : Nat) (wh : Bool) (mcs : Array Value) : Prop where
  below : Below w.heap.size w wx
  size : w.heap.size + 5 ≤ wx.heap.size
  tb : Blk wx w.heap.size 60 #[.int .i64 node, .int .i64 span]
  nb : Blk wx (w.heap.size + 1) 49 #[.int .i64 kind, .string ⟨text.toArray⟩, .bool false, .slice none 0 0, .slice none 0 0]
  sb : Blk wx (w.heap.size + 1 + 1) 45 #[.int .i64 0, .int .i64 0, .int .i64 0, .int .i64 sf, .int .i64 sz, .int .i64 skf, .int .i64 skt, .bool false, .bool wh]
  rb : Blk wx (w.heap.size + 1 + 1 + 1) 60 #[.int .i64 0, .int .i64 0]
  mb : Blk wx (w.heap.size + 4) 49 mcs
theorem ABox.make2 {w wc : World} {node span kind : Nat} {text : Ini.Str} {sf sz skf skt : Nat} {wh : Bool} (h : ABox w wc node span kind text sf sz skf skt wh) (mcs : Array Value) :
    ABox2 w (wc.alloc (.cells mcs 49)).drew node span kind text sf sz skf skt wh mcs := by
  have hs := h.size
  have hm := Blk.new wc 49 mcs
  rw [hs] at hm
  exact ⟨(h.below.alloc (by omega) _).drew, by simp; omega, h.tb.alloc _, h.nb.alloc _, h.sb.alloc _, h.rb.alloc _, hm⟩
/-- a row of numbers, read. -/
theorem int_cell {w : World} {B j : Nat} {x : SV} {l : List Nat} (h : OwnRow intL w B 3 x.v l) (hj : j < l.length) : ∃ g, x.a = some ⟨g, 0, none⟩ ∧ g < w.heap.size ∧ w.cell? ⟨g, j, none⟩ = some (.int .i64 (l[j] : Int)) := by
  obtain ⟨g, cap, rest, hv, _, hG, _, _⟩ := h.row (by intro e; rw [e] at hj; simp at hj)
  injection hv with h1 h2 h3
  refine ⟨g, h1, hG.lt, ?_⟩
  have hl := intL.all_len l
  have hsz : intL.sz = 1 := rfl
  rw [hsz] at hl
  rw [hG.cell, List.getElem?_toArray, List.getElem?_append_left (by omega)]
  have := intL.all_at l j l[j] (List.getElem?_eq_getElem hj) 0 (.int .i64 (l[j] : Int)) rfl
  rw [hsz] at this
  simpa using this
theorem int_len {w : World} {B : Nat} {x : SV} {l : List Nat} (h : OwnRow intL w B 3 x.v l) : x.n = l.length := by
  obtain ⟨A, c, hv, _⟩ := h.form
  injection hv
theorem text_cell {B : Nat} {w : World} {g : Nat} {vs : List NV} {ns : List Ini.Nd} {rest : List Value} (hG : Blk w g 49 (nodeL.all vs ++ rest).toArray) (hr : Rows B w vs ns) (k : Nat) (hk : k < ns.length) :
    ∃ t, w.cell? ⟨g, k * 5 + 1, none⟩ = some (.string ⟨t.toArray⟩) ∧ Hid (Ini.textAt ns k = some t) := by
  have hl := hr.len
  have h1 := (node_cells hG k (by omega)).2.1
  rw [(hr.kind k (by omega) hk).2] at h1
  exact ⟨_, h1, Lib.hid (by unfold Ini.textAt; rw [List.getElem?_eq_getElem hk]; rfl)⟩
theorem AMid.start {B : Nat} {V : PV} {w wx : World} {pb : Nat} {s : Ini.Str} {st : Ini.St} {node span kind : Nat} {text : Ini.Str} {sf sz skf skt : Nat} {wh : Bool} {mcs : Array Value} (hp : PAt B V w pb s st) (hb : ABox2 w wx node span kind text sf sz skf skt wh mcs) :
    AMid B V w pb s st #[.int .i64 node, .int .i64 span] #[.int .i64 kind, .string ⟨text.toArray⟩, .bool false, .slice none 0 0, .slice none 0 0] #[.int .i64 0, .int .i64 0] wx
      #[.int .i64 0, .int .i64 0, .int .i64 0, .int .i64 sf, .int .i64 sz, .int .i64 skf, .int .i64 skt, .bool false, .bool wh] mcs V.nv V.sv V.vs V.vs st.nodes st.spans := by
  have hp2 := hp.later hb.below
  exact ⟨hb.size, hp.base, hp.le, hp.blk.lt, hb.tb, hb.nb, hb.sb, hb.rb, hb.mb, hp2.blk, hp2.nodes, hp2.spans, hp2.notes, hp2.rows, KeptBut'.of_below hb.below _,
    fun g hg => .inl ⟨hg, (hp.own_lt (.inr (.inl hg))).2⟩, fun g hg => .inl ⟨hg, (hp.own_lt (.inr (.inr (.inl hg)))).2⟩, fun j b g hg => .inl ⟨j, b, hg⟩⟩
theorem keyIn_no {ns : List Ini.Nd} {node : Nat} {m : Ini.Nd} {key : Ini.Str} (hn : node < ns.length) (hm : ns[node] = m) (h : ∀ k ∈ m.keys, Ini.textAt ns k ≠ some key) : Ini.keyIn ns node key = false := by
  unfold Ini.keyIn
  rw [List.getElem?_eq_getElem hn, hm]
  simp only [List.any_eq_false, beq_iff_eq]
  exact h
theorem keyIn_yes {ns : List Ini.Nd} {node : Nat} {m : Ini.Nd} {key : Ini.Str} (hn : node < ns.length) (hm : ns[node] = m) (k : Nat) (hk : k ∈ m.keys) (h : Ini.textAt ns k = some key) : Ini.keyIn ns node key = true := by
  unfold Ini.keyIn
  rw [List.getElem?_eq_getElem hn, hm]
  simp only [List.any_eq_true, beq_iff_eq]
  exact ⟨k, hk, h⟩
theorem add_twice {st : Ini.St} {node span : Nat} {key : Ini.Str} {n : Ini.Nd} {x : Ini.Sp} (h : Ini.keyIn st.nodes node key = true) : Ini.add st node span key n x = .err x.keyFrom 8 := by
  unfold Ini.add; rw [if_pos h]
theorem add_many {st : Ini.St} {node span : Nat} {key : Ini.Str} {n : Ini.Nd} {x : Ini.Sp} (h : Ini.keyIn st.nodes node key = false) (h2 : st.nodes.length + 2 > 4096) : Ini.add st node span key n x = .err x.keyFrom 7 := by
  unfold Ini.add; rw [if_neg (by rw [h]; simp), if_pos h2]
theorem add_ok {st : Ini.St} {node span : Nat} {key : Ini.Str} {n : Ini.Nd} {x : Ini.Sp} {m : Ini.Nd} (h : Ini.keyIn st.nodes node key = false) (h2 : ¬ st.nodes.length + 2 > 4096) (hn : node < st.nodes.length) (hm : st.nodes[node] = m) :
    Ini.add st node span key n x = .ok { st with
        nodes := (st.nodes ++ [⟨5, key, [], []⟩, n]).set node { m with keys := m.keys ++ [st.nodes.length], items := m.items ++ [st.nodes.length + 1] }
        spans := st.spans ++ [{ x with node := st.nodes.length + 1, parent := span, entry := m.items.length }] } := by
  unfold Ini.add; rw [if_neg (by rw [h]; simp), if_neg h2, List.getElem?_eq_getElem hn, hm]
theorem RowAt.lit2 {α : Type} {L : Lay α} {E : TypeId} {w : World} (x y : α) (cs : Array Value) (hcs : cs.toList = L.enc x ++ L.enc y) (n : Nat) (hn : n = w.heap.size) : RowAt L (w.alloc (.cells cs E)) (w.heap.size + 1) (some ⟨n, 0, none⟩) [x, y] := by
  subst hn
  refine ⟨by simp [Lay.all, L.len]; omega, fun _ => ⟨_, rfl, by simp, fun j u hj => ?_⟩⟩
  have hb : Blk (w.alloc (.cells cs E)) w.heap.size E cs := Blk.new w E cs
  have e : L.all [x, y] = cs.toList := by rw [hcs]; simp [Lay.all]
  rw [e] at hj
  have : (⟨w.heap.size, 0, none⟩ : Addr).add j = ⟨w.heap.size, j, none⟩ := by
    unfold Addr.add
    by_cases h : j = 0
    · simp [h]
    · simp [h]
  rw [this, hb.cell]
  simpa using hj
theorem grown_frozen {w w' : World} {row : Option Nat} (hg : w.grownBy w' row) {g : Nat} (hlt : g < w.heap.size) (hne : some g ≠ row) {i : Nat} (hc : w.frozen? ⟨g, i, none⟩ = false) : w'.frozen? ⟨g, i, none⟩ = false :=
  (World.frozen?_of_block (w := w) (hg.block g hlt hne)).trans hc
theorem AMid.snoc2 {B : Nat} {V : PV} {w : World} {pb : Nat} {s : Ini.Str} {st : Ini.St} {tcs ncs rcs : Array Value} {wx : World} {scs mcs : Array Value} {nv sv : Value} {vm vs : List NV} {ns : List Ini.Nd} {sp : List Ini.Sp}
    (h : AMid B V w pb s st tcs ncs rcs wx scs mcs nv sv vm vs ns sp) (k1 : Nat) (t1 : Ini.Str) (k2 : Nat) (t2 : Ini.Str) :
    AMid B V w pb s st tcs ncs rcs wx scs mcs nv sv vm (vs ++ [⟨k1, t1, SV.nil, SV.nil⟩, ⟨k2, t2, SV.nil, SV.nil⟩]) (ns ++ [⟨k1, t1, [], []⟩, ⟨k2, t2, [], []⟩]) sp := by
  have := (h.snoc k1 t1).snoc k2 t2
  simp only [List.append_assoc, List.cons_append, List.nil_append] at this
  exact this
theorem RowAt.drew {α : Type} {L : Lay α} {w : World} {B : Nat} {A : Option Addr} {l : List α} (h : RowAt L w B A l) : RowAt L w.drew B A l := h
theorem OwnRow.head {α : Type} {L : Lay α} {w : World} {base : Nat} {E : TypeId} {v : Value} {l : List α} (h : OwnRow L w base E v l) (hl : l ≠ []) : ∃ g cap rest, v = .slice (some ⟨g, 0, none⟩) l.length cap ∧ Blk w g E (L.all l ++ rest).toArray := by
  obtain ⟨g, cap, rest, h1, _, h2, _, _⟩ := h.row hl
  exact ⟨g, cap, rest, h1, h2⟩
set_option maxRecDepth 100000 in
set_option maxHeartbeats 4000000 in
theorem add_any (B pb node span : Nat) (V : PV) (s : Ini.Str) (st : Ini.St) (key : Ini.Str) (kind : Nat) (text : Ini.Str) (sf sz skf skt : Nat) (wh : Bool) (w : World) (hp : PAt B V w pb s st) (hf : Fit st)
    (hn : node < st.nodes.length) (hs : span < st.spans.length) (R : Ini.Res Ini.St) (hR : Ini.add st node span key ⟨kind, text, [], []⟩ ⟨0, 0, 0, sf, sz, skf, skt, wh⟩ = R) :
    Calls Tryd.prog 40 #[.pointer (some ⟨pb, 0, none⟩), .agg #[.int .i64 node, .int .i64 span], .string ⟨key.toArray⟩, .agg #[.int .i64 kind, .string ⟨text.toArray⟩, .bool false, .slice none 0 0, .slice none 0 0],
      .agg #[.int .i64 0, .int .i64 0, .int .i64 0, .int .i64 sf, .int .i64 sz, .int .i64 skf, .int .i64 skt, .bool false, .bool wh]] w (APost B V w pb s R) := by
  have hvl := hp.rows.len
  obtain ⟨g, cap, rest, hv, hcap, hG, hbg, hback⟩ := hp.nodes.row (by intro e; rw [e] at hvl; simp at hvl; omega)
  have hc5 : V.nv = .slice (some ⟨g, 0, none⟩) V.vs.length cap := hv
  have hlt := hp.blk.lt
  have hgl := hG.lt
  have hnv : node < V.vs.length := by omega
  obtain ⟨x, hx⟩ : ∃ x, V.vs[node] = x := ⟨_, rfl⟩
  obtain ⟨m, hm⟩ : ∃ m, st.nodes[node] = m := ⟨_, rfl⟩
  have HM := Lib.hid hm
  have HX := Lib.hid hx
  have HP := Lib.hid hp
  have HV := Lib.hid hv
  have HG := Lib.hid hG
  have HB := Lib.hid hback
  have HVL := Lib.hid hvl
  have HR := Lib.hid hR
  have HF := Lib.hid hf
  clear hR hp hv hG hback hvl hf hx hc5 hm
  go_enter Tryd.func40, Tryd.ntmps40
  go_upto_region 1 with fail
  go_cut [12] (fun s12 wx => s12 = .pointer (some ⟨pb, 5, none⟩) ∧ ABox w wx node span kind text sf sz skf skt wh)
  case first =>
    have hpp : ∃ cs, Blk w pb 62 cs := ⟨_, HP.out.blk⟩
    go_wp2_with fail
    go_meet
    exact ⟨rfl, ABox.make w node span kind text sf sz skf skt wh⟩
  case rest =>
    obtain ⟨rfl, hbox⟩ := hcut
    have hsz := hbox.size
    have hPc := HP.out.later hbox.below
    have hGc : Blk wc g 49 _ := HG.out.below hbox.below hgl
    obtain ⟨x0, x1, x2, x3, x4⟩ := node_cells hGc node hnv
    rw [HX.out] at x0 x1 x3 x4
    have hc5 : wc.cell? ⟨pb, 5, none⟩ = some (.slice (some ⟨g, 0, none⟩) V.vs.length cap) := by rw [hPc.blk.cell 5]; show some V.nv = _; rw [HV.out]
    have b0 : wc.cell? ⟨w.heap.size, 0, none⟩ = some (.int .i64 node) := hbox.tb.cell 0
    have hnI : (node : Int) < (V.vs.length : Int) := by omega
    have hn0 : (0 : Int) ≤ (node : Int) := by omega
    have HBOX := Lib.hid hbox
    have HPC := Lib.hid hPc
    have HGC := Lib.hid hGc
    have HSZ := Lib.hid hsz
    clear hbox hPc hGc hsz
    have e5 := World.new_ne wc _ hc5
    have eb0 := World.new_ne wc _ b0
    have ex0 := World.new_ne wc _ x0
    have ex1 := World.new_ne wc _ x1
    have ex2 := World.new_ne wc _ x2
    have ex3 := World.new_ne wc _ x3
    have ex4 := World.new_ne wc _ x4
    go_wp2_with fail
    go_region_held3 (fun w' => w'.cell? ⟨pb, 5, none⟩ = some (.slice (some ⟨g, 0, none⟩) V.vs.length cap) ∧ w'.cell? ⟨w.heap.size, 0, none⟩ = some (.int .i64 node) ∧
      w'.cell? ⟨g, node * 5, none⟩ = some (.int .i64 (x.kind : Int)) ∧ w'.cell? ⟨g, node * 5 + 1, none⟩ = some (.string ⟨x.text.toArray⟩) ∧ w'.cell? ⟨g, node * 5 + 2, none⟩ = some (.bool false) ∧
      w'.cell? ⟨g, node * 5 + 3, none⟩ = some (.slice x.k.a x.k.n x.k.c) ∧ w'.cell? ⟨g, node * 5 + 4, none⟩ = some (.slice x.i.a x.i.n x.i.c))
      (first | go_keep | (simp [go_sem])) (fail)
    go_upto_region 3 with fail
    go_cut [13, 30, 31, 32] (fun s13 s30 s31 s32 wx => s13 = .pointer (some ⟨w.heap.size + 4, 0, none⟩) ∧ s30 = .slice x.k.a x.k.n x.k.c ∧ s31 = .int .i64 x.k.n ∧ s32 = .int .i64 0 ∧ ABox2 w wx node span kind text sf sz skf skt wh #[.int .i64 x.kind, .string ⟨x.text.toArray⟩, .bool false, .slice x.k.a x.k.n x.k.c, .slice x.i.a x.i.n x.i.c])
    case first =>
      go_wp2_with fail
      go_meet
      exact ⟨by rw [HSZ.out], rfl, rfl, rfl, HBOX.out.make2 _⟩
    case rest =>
      clear e5 eb0 ex0 ex1 ex2 ex3 ex4 x0 x1 x2 x3 x4 hc5 b0 HPC HGC HBOX
      rename_i wOld
      obtain ⟨rfl, rfl, rfl, rfl, hbox⟩ := hcut
      have hPc := HP.out.later hbox.below
      have hGc : Blk wc g 49 _ := HG.out.below hbox.below hgl
      have hc5 : wc.cell? ⟨pb, 5, none⟩ = some (.slice (some ⟨g, 0, none⟩) V.vs.length cap) := by rw [hPc.blk.cell 5]; show some V.nv = _; rw [HV.out]
      have hK : OwnRow intL wc B 3 x.k.v m.keys := by
        have := hPc.rows.own node false
        unfold ints intsOf at this
        rw [List.getElem?_eq_getElem hnv, HX.out, List.getElem?_eq_getElem hn, HM.out] at this
        exact this
      have hxn : x.k.n = m.keys.length := int_len hK
      have hskl : m.keys.length ≤ 4096 := by have := (HF.out.keys node hn).1; have := HF.out.nl; rw [HM.out] at *; omega
      have hmid := AMid.start HP.out hbox
      have HMID := Lib.hid hmid
      have HBOX := Lib.hid hbox
      have HPC := Lib.hid hPc
      have HGC := Lib.hid hGc
      have HK := Lib.hid hK
      have s5 : wc.cell? ⟨w.heap.size + 1 + 1, 5, none⟩ = some (.int .i64 skf) := hbox.sb.cell 5
      have hpp : ∃ cs, Hid (Blk wc pb 62 cs) := ⟨_, Lib.hid hPc.blk⟩
      clear hbox hPc hGc hK hmid
      go_wp2_with fail
      go_loop [32] (fun i => ∃ j : Nat, j ≤ m.keys.length ∧ i = .int .i64 j ∧ Hid (∀ k ∈ m.keys.take j, Ini.textAt st.nodes k ≠ some key)) (fun i => m.keys.length - (intOf i).toNat)
      case atStart => exact ⟨0, by omega, rfl, Lib.hid (by simp)⟩
      case round =>
        obtain ⟨j, hj, rfl, HNO⟩ := hrel
        by_cases hjl : j < m.keys.length
        · obtain ⟨g2, ha, hg2, hcj0⟩ := int_cell HK.out hjl
          obtain ⟨k, hcj, hkn, HS⟩ : ∃ k : Nat, wc.cell? ⟨g2, j, none⟩ = some (.int .i64 (k : Int)) ∧ k < st.nodes.length ∧ Hid (m.keys.take (j + 1) = m.keys.take j ++ [k]) :=
            ⟨m.keys[j], hcj0, by have := (HF.out.keys node hn).2.2; rw [HM.out] at this; exact this _ (List.getElem_mem hjl), Lib.hid (List.take_succ_eq_append_getElem hjl)⟩
          clear hcj0
          obtain ⟨t, y1, HT⟩ := text_cell HGC.out HPC.out.rows k hkn
          have hknI : (k : Int) < (V.vs.length : Int) := by have := HVL.out; omega
          by_cases htk : t = key
          · have htb : (t == key) = true := by simpa using htk
            have HE : Hid (R = .err skf 8) := Lib.hid (by
              rw [← HR.out]
              exact add_twice (keyIn_yes hn HM.out k (List.mem_of_mem_take (i := j + 1) (by rw [HS.out]; simp)) (by rw [HT.out, htk])))
            clear htk
            go_wp2_with fail
            refine (fail_par pb skf 8 s _ HPC.out.par).mono ?_
            rintro e w3 ⟨rfl, hf⟩
            have hfp := hf.kept HPC.out.par
            have hrb3 : Blk w3 (w.heap.size + 1 + 1 + 1) 60 _ := hfp.1.blk HBOX.out.rb (by omega)
            have r0 : w3.cell? ⟨w.heap.size + 1 + 1 + 1, 0, none⟩ = some (.int .i64 0) := hrb3.cell 0
            have r1 : w3.cell? ⟨w.heap.size + 1 + 1 + 1, 1, none⟩ = some (.int .i64 0) := hrb3.cell 1
            have rf : ∀ i, w3.frozen? ⟨w.heap.size + 1 + 1 + 1, i, none⟩ = false := hrb3.frozen
            have HFP := Lib.hid hfp
            clear hf hfp hrb3
            go_wp2_with fail
            refine bodyPost_ret (v := .tuple #[.agg #[.int .i64 0, .int .i64 0], .bool false]) (by simp [results, Tryd.results40, go_sem, r0, r1]) rfl ?_
            rw [HE.out]
            exact ⟨rfl, ((HFP.out.from HBOX.out.below).setCell (p := ⟨w.heap.size + 1 + 1 + 1, 0, none⟩) (by simp; omega) hlt _).setCell (p := ⟨w.heap.size + 1 + 1 + 1, 1, none⟩) (by simp; omega) hlt _⟩
          · have htb : (t == key) = false := by simpa using htk
            have HN2 : Hid (∀ k ∈ m.keys.take (j + 1), Ini.textAt st.nodes k ≠ some key) := Lib.hid (by
              intro k' hk'
              rw [HS.out] at hk'
              rcases List.mem_append.1 hk' with h1 | h1
              · exact HNO.out k' h1
              · simp at h1; rw [h1, HT.out]; simpa using htk)
            clear htk
            go_wp2_with fail
            go_round
            case rel => exact ⟨j + 1, by omega, by go_num, HN2⟩
            case measure => simp [intOf]; omega
        · have hfull : m.keys.take j = m.keys := List.take_of_length_le (by omega)
          have hno := HNO.out
          rw [hfull] at hno
          have HKI := Lib.hid (keyIn_no hn HM.out hno)
          clear hfull hno
          have hvl := HVL.out
          have hvu : (V.vs.length : Int) ≤ 4096 := by have := HF.out.nl; omega
          by_cases hmany : st.nodes.length + 2 > 4096
          · have HE : Hid (R = .err skf 7) := Lib.hid (by rw [← HR.out]; exact add_many HKI.out hmany)
            have hvI : (4096 : Int) < (V.vs.length : Int) + 2 := by omega
            clear hvl
            go_wp2_with fail
            refine (fail_par pb skf 7 s _ HPC.out.par).mono ?_
            rintro e w3 ⟨rfl, hf⟩
            have hfp := hf.kept HPC.out.par
            have hrb3 : Blk w3 (w.heap.size + 1 + 1 + 1) 60 _ := hfp.1.blk HBOX.out.rb (by omega)
            have r0 : w3.cell? ⟨w.heap.size + 1 + 1 + 1, 0, none⟩ = some (.int .i64 0) := hrb3.cell 0
            have r1 : w3.cell? ⟨w.heap.size + 1 + 1 + 1, 1, none⟩ = some (.int .i64 0) := hrb3.cell 1
            have rf : ∀ i, w3.frozen? ⟨w.heap.size + 1 + 1 + 1, i, none⟩ = false := hrb3.frozen
            have HFP := Lib.hid hfp
            clear hf hfp hrb3
            go_wp2_with fail
            refine bodyPost_ret (v := .tuple #[.agg #[.int .i64 0, .int .i64 0], .bool false]) (by simp [results, Tryd.results40, go_sem, r0, r1]) rfl ?_
            rw [HE.out]
            exact ⟨rfl, ((HFP.out.from HBOX.out.below).setCell (p := ⟨w.heap.size + 1 + 1 + 1, 0, none⟩) (by simp; omega) hlt _).setCell (p := ⟨w.heap.size + 1 + 1 + 1, 1, none⟩) (by simp; omega) hlt _⟩
          · have hvI : ¬ (4096 < (V.vs.length : Int) + 2) := by omega
            have HE : Hid (R = .ok _) := Lib.hid (by rw [← HR.out]; exact add_ok HKI.out hmany hn HM.out)
            clear hvl hmany
            go_upto_region 12 with fail
            have HXN := Lib.hid hxn
            clear hxn s5
            go_cut [16] (fun s16 wx => s16 = .int .i64 V.vs.length ∧ ∃ nv', AMid B V w pb s st #[.int .i64 node, .int .i64 span] #[.int .i64 kind, .string ⟨text.toArray⟩, .bool false, .slice none 0 0, .slice none 0 0] #[.int .i64 0, .int .i64 0] wx
                #[.int .i64 0, .int .i64 0, .int .i64 0, .int .i64 sf, .int .i64 sz, .int .i64 skf, .int .i64 skt, .bool false, .bool wh] #[.int .i64 x.kind, .string ⟨x.text.toArray⟩, .bool false, .slice x.k.a x.k.n x.k.c, .slice x.i.a x.i.n x.i.c]
                nv' V.sv (V.vs ++ [⟨5, key, SV.nil, SV.nil⟩, ⟨kind, text, SV.nil, SV.nil⟩]) (V.vs ++ [⟨5, key, SV.nil, SV.nil⟩, ⟨kind, text, SV.nil, SV.nil⟩]) (st.nodes ++ [⟨5, key, [], []⟩, ⟨kind, text, [], []⟩]) st.spans)
            case first =>
              have HOWN : Hid (OwnRow nodeL wc B 49 (.slice (some ⟨g, 0, none⟩) V.vs.length cap) V.vs) := Lib.hid (by rw [← HV.out]; exact HMID.out.nodes)
              have n0 : wc.cell? ⟨w.heap.size + 1, 0, none⟩ = some (.int .i64 kind) := HBOX.out.nb.cell 0
              have n1 : wc.cell? ⟨w.heap.size + 1, 1, none⟩ = some (.string ⟨text.toArray⟩) := HBOX.out.nb.cell 1
              have n2 : wc.cell? ⟨w.heap.size + 1, 2, none⟩ = some (.bool false) := HBOX.out.nb.cell 2
              have n3 : wc.cell? ⟨w.heap.size + 1, 3, none⟩ = some (.slice none 0 0) := HBOX.out.nb.cell 3
              have n4 : wc.cell? ⟨w.heap.size + 1, 4, none⟩ = some (.slice none 0 0) := HBOX.out.nb.cell 4
              have pf : ∀ i, wc.frozen? ⟨pb, i, none⟩ = false := HMID.out.blk.frozen
              have e5 := World.new_ne wc _ hc5
              have en0 := World.new_ne wc _ n0
              have en1 := World.new_ne wc _ n1
              have en2 := World.new_ne wc _ n2
              have en3 := World.new_ne wc _ n3
              have en4 := World.new_ne wc _ n4
              have hzc := HMID.out.size
              have hpg : some pb ≠ some g := by intro e; injection e with e; exact Blk.ne_ HPC.out.blk HGC.out (by decide) e
              have hownA : OwnRow nodeL (wc.alloc (.cells #[.int .i64 5, .string ⟨key.toArray⟩, .bool false, .slice none 0 0, .slice none 0 0, .int .i64 kind, .string ⟨text.toArray⟩, .bool false, .slice none 0 0, .slice none 0 0] 49)).drew B 49 (.slice (some ⟨g, 0, none⟩) V.vs.length cap) V.vs := (HOWN.out.alloc _).drew
              have hlitA : RowAt nodeL (wc.alloc (.cells #[.int .i64 5, .string ⟨key.toArray⟩, .bool false, .slice none 0 0, .slice none 0 0, .int .i64 kind, .string ⟨text.toArray⟩, .bool false, .slice none 0 0, .slice none 0 0] 49)).drew (wc.heap.size + 1) (some ⟨wc.heap.size, 0, none⟩) [⟨5, key, SV.nil, SV.nil⟩, ⟨kind, text, SV.nil, SV.nil⟩] := (RowAt.lit2 _ _ _ rfl _ rfl).drew
              have hmidA := (HMID.out.alloc (.cells #[.int .i64 5, .string ⟨key.toArray⟩, .bool false, .slice none 0 0, .slice none 0 0, .int .i64 kind, .string ⟨text.toArray⟩, .bool false, .slice none 0 0, .slice none 0 0] 49)).drew
              have hlA : V.vs.length + [(⟨5, key, SV.nil, SV.nil⟩ : NV), ⟨kind, text, SV.nil, SV.nil⟩].length ≤ 1073741824 := by simp only [List.length_cons, List.length_nil]; omega
              have hbA : B ≤ (wc.alloc (.cells #[.int .i64 5, .string ⟨key.toArray⟩, .bool false, .slice none 0 0, .slice none 0 0, .int .i64 kind, .string ⟨text.toArray⟩, .bool false, .slice none 0 0, .slice none 0 0] 49)).drew.heap.size := by have := HMID.out.base; simp; omega
              have pcA : (wc.alloc (.cells #[.int .i64 5, .string ⟨key.toArray⟩, .bool false, .slice none 0 0, .slice none 0 0, .int .i64 kind, .string ⟨text.toArray⟩, .bool false, .slice none 0 0, .slice none 0 0] 49)).cell? ⟨pb, 5, none⟩ = some (.slice (some ⟨g, 0, none⟩) V.vs.length cap) := by
                rw [(HMID.out.blk.alloc (.cells #[.int .i64 5, .string ⟨key.toArray⟩, .bool false, .slice none 0 0, .slice none 0 0, .int .i64 kind, .string ⟨text.toArray⟩, .bool false, .slice none 0 0, .slice none 0 0] 49)).cell 5]
                show some V.nv = _
                rw [HV.out]
              have HMA := Lib.hid hmidA
              have HLEN : Hid ((V.vs ++ [(⟨5, key, SV.nil, SV.nil⟩ : NV), ⟨kind, text, SV.nil, SV.nil⟩]).length = V.vs.length + 2) := Lib.hid (by simp)
              clear hmidA
              go_region_law (refine step_append_row _ rfl (.tmp 69) (.tmp 73) 23 49 80 rfl nodeT B (.slice (some ⟨g, 0, none⟩) V.vs.length cap) V.vs rfl hownA _ _ 2 [⟨5, key, SV.nil, SV.nil⟩, ⟨kind, text, SV.nil, SV.nil⟩] rfl hlitA hlA hbA ?_; intro v' w2 hown2 hg2 hat2; obtain ⟨g3, cap3, rest3, rfl, hG3⟩ := hown2.head (by simp); have pf2 : ∀ i, w2.frozen? ⟨pb, i, none⟩ = false := (((HMID.out.blk.alloc _).drew).grown hg2 hpg).frozen; have pc2 : w2.cell? ⟨pb, 5, none⟩ = some V.nv := (((HMID.out.blk.alloc _).drew).grown hg2 hpg).cell 5; have HOW2 := Lib.hid hown2; have HG2 := Lib.hid hg2; have HAT2 := Lib.hid hat2; clear hown2 hg2 hat2 hG3)
              all_goals
                go_wp2_with fail
                go_meet
                have ho := HOW2.out
                have ha := HAT2.out
                rw [HLEN.out] at ho ha
                have hg9 : (wc.alloc (.cells #[.int .i64 5, .string ⟨key.toArray⟩, .bool false, .slice none 0 0, .slice none 0 0, .int .i64 kind, .string ⟨text.toArray⟩, .bool false, .slice none 0 0, .slice none 0 0] 49)).drew.grownBy w2 V.nv.ownBlock := by rw [HV.out]; exact HG2.out
                rw [show (Value.slice (some ⟨g, 0, none⟩) V.vs.length cap).ownBlock = V.nv.ownBlock from by rw [HV.out]] at ha
                exact ⟨rfl, _, (HMA.out.appNodes ho hg9 ha).snoc2 5 key kind text⟩
            case rest =>
              rename_i wOld2
              obtain ⟨rfl, nv', hA⟩ := hcut
              clear hc5 hpp
              obtain ⟨VA, hVAe⟩ : ∃ VA : List NV, V.vs ++ [⟨5, key, SV.nil, SV.nil⟩, ⟨kind, text, SV.nil, SV.nil⟩] = VA := ⟨_, rfl⟩
              obtain ⟨NA, hNAe⟩ : ∃ NA : List Ini.Nd, st.nodes ++ [⟨5, key, [], []⟩, ⟨kind, text, [], []⟩] = NA := ⟨_, rfl⟩
              have hVAl : VA.length = V.vs.length + 2 := by rw [← hVAe]; simp
              have hvA : VA[node]? = some x := by rw [← hVAe, List.getElem?_append_left hnv, List.getElem?_eq_getElem hnv, HX.out]
              have hnA : NA[node]? = some m := by rw [← hNAe, List.getElem?_append_left hn, List.getElem?_eq_getElem hn, HM.out]
              rw [hVAe, hNAe] at hA
              have HNAE := Lib.hid hNAe
              have HVAL := Lib.hid hVAl
              clear hVAe hNAe hVAl
              have hin : x.i.n = m.items.length := int_len (hA.keysOf hvA hnA).2
              have hil : m.items.length ≤ 4096 := by have := (HF.out.keys node hn).2.1; have := HF.out.nl; rw [HM.out] at *; omega
              have HVA := Lib.hid hvA
              have HNA := Lib.hid hnA
              have HA := Lib.hid hA
              have t1 : wc.cell? ⟨w.heap.size, 1, none⟩ = some (.int .i64 span) := hA.tb.cell 1
              have m4 : wc.cell? ⟨w.heap.size + 4, 4, none⟩ = some (.slice x.i.a x.i.n x.i.c) := hA.mb.cell 4
              have s0 : wc.cell? ⟨w.heap.size + 1 + 1, 0, none⟩ = some (.int .i64 0) := hA.sb.cell 0
              have s1 : wc.cell? ⟨w.heap.size + 1 + 1, 1, none⟩ = some (.int .i64 0) := hA.sb.cell 1
              have s2 : wc.cell? ⟨w.heap.size + 1 + 1, 2, none⟩ = some (.int .i64 0) := hA.sb.cell 2
              have sf' : ∀ i, wc.frozen? ⟨w.heap.size + 1 + 1, i, none⟩ = false := hA.sb.frozen
              clear hA hvA hnA
              go_wp2_with fail
              go_upto_region 13 with fail
              go_cut [16] (fun s16 wx => s16 = .int .i64 V.vs.length ∧ AMid B V w pb s st #[.int .i64 node, .int .i64 span] #[.int .i64 kind, .string ⟨text.toArray⟩, .bool false, .slice none 0 0, .slice none 0 0] #[.int .i64 0, .int .i64 0] wx
                #[.int .i64 ((V.vs.length : Int) + 1), .int .i64 span, .int .i64 m.items.length, .int .i64 sf, .int .i64 sz, .int .i64 skf, .int .i64 skt, .bool false, .bool wh] #[.int .i64 x.kind, .string ⟨x.text.toArray⟩, .bool false, .slice x.k.a x.k.n x.k.c, .slice x.i.a x.i.n x.i.c]
                nv' V.sv VA VA NA st.spans)
              case first =>
                -- B (
                go_region
                all_goals
                  go_wp2_with fail
                  go_meet
                  exact ⟨rfl, (((HA.out.setSpan 0 (.int .i64 ((V.vs.length : Int) + 1))).setSpan 1 (.int .i64 span)).setSpan 2 (.int .i64 m.items.length)).drew⟩
                -- B )
              case rest =>
                rename_i wOld3
                obtain ⟨rfl, hA⟩ := hcut
                clear t1 m4 s0 s1 s2 sf' HA hin
                obtain ⟨hK1, hI1⟩ := hA.keysOf HVA.out HNA.out
                have HA := Lib.hid hA
                have m3 : wc.cell? ⟨w.heap.size + 4, 3, none⟩ = some (.slice x.k.a x.k.n x.k.c) := hA.mb.cell 3
                have HK1 : Hid (OwnRow intL wc B 3 (.slice x.k.a x.k.n x.k.c) m.keys) := Lib.hid hK1
                have hbw : B ≤ wc.heap.size := by have := hA.base; have := hA.size; omega
                have HMB := Lib.hid hA.mb
                clear hA hK1 hI1
                go_upto_region 14 with fail
                go_cut [16] (fun s16 wx => s16 = .int .i64 V.vs.length ∧ ∃ k' : SV, AMid B V w pb s st #[.int .i64 node, .int .i64 span] #[.int .i64 kind, .string ⟨text.toArray⟩, .bool false, .slice none 0 0, .slice none 0 0] #[.int .i64 0, .int .i64 0] wx
                  #[.int .i64 ((V.vs.length : Int) + 1), .int .i64 span, .int .i64 m.items.length, .int .i64 sf, .int .i64 sz, .int .i64 skf, .int .i64 skt, .bool false, .bool wh] #[.int .i64 x.kind, .string ⟨x.text.toArray⟩, .bool false, .slice k'.a k'.n k'.c, .slice x.i.a x.i.n x.i.c]
                  nv' V.sv VA (VA.set node ⟨x.kind, x.text, k', x.i⟩) (NA.set node { m with keys := m.keys ++ [V.vs.length] }) st.spans)
                case first =>
                  -- C (
                  go_wp2_with (at_builtin; go_must (refine wpList_append_row _ rfl (.tmp 88) (.tmp 90) 47 3 8 rfl intT B (.slice x.k.a x.k.n x.k.c) m.keys rfl (HK1.out.alloc _) _ _ 1 [V.vs.length] rfl (RowAt.lit1 _ _ rfl _ ?_) ?_ ?_ ?_))
                  any_goals (first | rfl | (simp; omega) | (rw [World.size_alloc]; omega))
                  intro v' w2 hown2 hg2 hat2
                  obtain ⟨g3, cap3, rest3, hv3, _⟩ := hown2.head (by simp)
                  obtain ⟨n3, hn3⟩ : ∃ n3, (m.keys ++ [V.vs.length]).length = n3 := ⟨_, rfl⟩
                  rw [hn3] at hv3
                  subst hv3
                  clear hn3
                  have hmb2 : Blk w2 (w.heap.size + 4) 49 _ := KeptT.grown hg2 (HK1.out.alloc _) (by decide) _ _ (HMB.out.alloc _)
                  have m3' : w2.cell? ⟨w.heap.size + 4, 3, none⟩ = some (.slice x.k.a x.k.n x.k.c) := hmb2.cell 3
                  have mf : w2.frozen? ⟨w.heap.size + 4, 3, none⟩ = false := hmb2.frozen 3
                  have HO2 := Lib.hid hown2
                  have HG2 := Lib.hid hg2
                  have HAT2 := Lib.hid hat2
                  clear hown2 hg2 hat2 hmb2
                  go_wp2_with fail
                  go_meet
                  exact ⟨rfl, ⟨some ⟨g3, 0, none⟩, n3, cap3⟩, (HA.out.alloc _).appKeys (k' := ⟨some ⟨g3, 0, none⟩, n3, cap3⟩) HVA.out HNA.out HO2.out HG2.out (by rw [World.size_alloc]; exact HAT2.out)⟩
                  -- C )
                case rest =>
                  obtain ⟨rfl, k', hA⟩ := hcut
                  clear m3 HA HK1 HMB hbw
                  have hnodel : node < VA.length := by have := HVAL.out; omega
                  have hnodeN : node < NA.length := (List.getElem?_eq_some_iff.1 HNA.out).1
                  have hvB : (VA.set node ⟨x.kind, x.text, k', x.i⟩)[node]? = some ⟨x.kind, x.text, k', x.i⟩ := List.getElem?_set_self hnodel
                  have hnB : (NA.set node { m with keys := m.keys ++ [V.vs.length] })[node]? = some { m with keys := m.keys ++ [V.vs.length] } := List.getElem?_set_self hnodeN
                  have hI1 := (hA.keysOf hvB hnB).2
                  have HA := Lib.hid hA
                  have HVB := Lib.hid hvB
                  have HNB := Lib.hid hnB
                  have m3 : wc.cell? ⟨w.heap.size + 4, 4, none⟩ = some (.slice x.i.a x.i.n x.i.c) := hA.mb.cell 4
                  have HI1 : Hid (OwnRow intL wc B 3 (.slice x.i.a x.i.n x.i.c) m.items) := Lib.hid hI1
                  have hbw : B ≤ wc.heap.size := by have := hA.base; have := hA.size; omega
                  have HMB := Lib.hid hA.mb
                  clear hA hI1 hvB hnB
                  go_upto_region 15 with fail
                  go_cut [16] (fun s16 wx => s16 = .int .i64 V.vs.length ∧ ∃ i' : SV, AMid B V w pb s st #[.int .i64 node, .int .i64 span] #[.int .i64 kind, .string ⟨text.toArray⟩, .bool false, .slice none 0 0, .slice none 0 0] #[.int .i64 0, .int .i64 0] wx
                    #[.int .i64 ((V.vs.length : Int) + 1), .int .i64 span, .int .i64 m.items.length, .int .i64 sf, .int .i64 sz, .int .i64 skf, .int .i64 skt, .bool false, .bool wh] #[.int .i64 x.kind, .string ⟨x.text.toArray⟩, .bool false, .slice k'.a k'.n k'.c, .slice i'.a i'.n i'.c]
                    nv' V.sv VA (VA.set node ⟨x.kind, x.text, k', i'⟩) (NA.set node { m with keys := m.keys ++ [V.vs.length], items := m.items ++ [V.vs.length + 1] }) st.spans)
                  case first =>
                    -- D (
                    go_wp2_with (at_builtin; go_must (refine wpList_append_row _ rfl (.tmp 94) (.tmp 97) 47 3 8 rfl intT B (.slice x.i.a x.i.n x.i.c) m.items rfl (HI1.out.alloc _) _ _ 1 [V.vs.length + 1] rfl (RowAt.lit1 _ _ rfl _ ?_) ?_ ?_ ?_))
                    any_goals (first | rfl | (simp; omega) | (rw [World.size_alloc]; omega))
                    intro v' w2 hown2 hg2 hat2
                    obtain ⟨g3, cap3, rest3, hv3, _⟩ := hown2.head (by simp)
                    obtain ⟨n3, hn3⟩ : ∃ n3, (m.items ++ [V.vs.length + 1]).length = n3 := ⟨_, rfl⟩
                    rw [hn3] at hv3
                    subst hv3
                    clear hn3
                    have hmb2 : Blk w2 (w.heap.size + 4) 49 _ := KeptT.grown hg2 (HI1.out.alloc _) (by decide) _ _ (HMB.out.alloc _)
                    have m3' : w2.cell? ⟨w.heap.size + 4, 4, none⟩ = some (.slice x.i.a x.i.n x.i.c) := hmb2.cell 4
                    have mf : w2.frozen? ⟨w.heap.size + 4, 4, none⟩ = false := hmb2.frozen 4
                    have HO2 := Lib.hid hown2
                    have HG2 := Lib.hid hg2
                    have HAT2 := Lib.hid hat2
                    clear hown2 hg2 hat2 hmb2
                    go_wp2_with fail
                    go_meet
                    have hE := (HA.out.alloc (.cells #[.int .i64 (V.vs.length + 1 : Nat)] 3)).appItems (k' := ⟨some ⟨g3, 0, none⟩, n3, cap3⟩) HVB.out HNB.out HO2.out HG2.out (by rw [World.size_alloc]; exact HAT2.out)
                    simp only [List.set_set] at hE
                    exact ⟨rfl, ⟨some ⟨g3, 0, none⟩, n3, cap3⟩, hE⟩
                    -- D )
                  case rest =>
                    obtain ⟨rfl, i', hA⟩ := hcut
                    clear m3 HA HI1 HMB hbw HVB HNB
                    obtain ⟨g4, cap4, rest4, hv4, hG4⟩ := hA.nodes.head (by intro e; rw [e] at hnodel; simp at hnodel)
                    have hP5 : wc.cell? ⟨pb, 5, none⟩ = some (.slice (some ⟨g4, 0, none⟩) VA.length cap4) := by rw [hA.blk.cell 5]; show some nv' = _; rw [hv4]
                    have t0 : wc.cell? ⟨w.heap.size, 0, none⟩ = some (.int .i64 node) := hA.tb.cell 0
                    have b0 : wc.cell? ⟨w.heap.size + 4, 0, none⟩ = some (.int .i64 x.kind) := hA.mb.cell 0
                    have b1 : wc.cell? ⟨w.heap.size + 4, 1, none⟩ = some (.string ⟨x.text.toArray⟩) := hA.mb.cell 1
                    have b2 : wc.cell? ⟨w.heap.size + 4, 2, none⟩ = some (.bool false) := hA.mb.cell 2
                    have b3 : wc.cell? ⟨w.heap.size + 4, 3, none⟩ = some (.slice k'.a k'.n k'.c) := hA.mb.cell 3
                    have b4 : wc.cell? ⟨w.heap.size + 4, 4, none⟩ = some (.slice i'.a i'.n i'.c) := hA.mb.cell 4
                    have gf : ∀ i, wc.frozen? ⟨g4, i, none⟩ = false := hG4.frozen
                    obtain ⟨c0, c1, c2, c3, c4⟩ := node_cells hG4 node hnodel
                    have hnI4 : (node : Int) < (VA.length : Int) := by omega
                    have hpp4 : ∃ cs, Hid (Blk wc pb 62 cs) := ⟨_, Lib.hid hA.blk⟩
                    have HA := Lib.hid hA
                    have HV4 := Lib.hid hv4
                    clear hA hv4 hG4
                    go_upto_region 16 with fail
                    go_cut [16] (fun s16 wx => s16 = .int .i64 V.vs.length ∧ AMid B V w pb s st #[.int .i64 node, .int .i64 span] #[.int .i64 kind, .string ⟨text.toArray⟩, .bool false, .slice none 0 0, .slice none 0 0] #[.int .i64 0, .int .i64 0] wx
                      #[.int .i64 ((V.vs.length : Int) + 1), .int .i64 span, .int .i64 m.items.length, .int .i64 sf, .int .i64 sz, .int .i64 skf, .int .i64 skt, .bool false, .bool wh] #[.int .i64 x.kind, .string ⟨x.text.toArray⟩, .bool false, .slice k'.a k'.n k'.c, .slice i'.a i'.n i'.c]
                      nv' V.sv (VA.set node ⟨x.kind, x.text, k', i'⟩) (VA.set node ⟨x.kind, x.text, k', i'⟩) (NA.set node { m with keys := m.keys ++ [V.vs.length], items := m.items ++ [V.vs.length + 1] }) st.spans)
                    case first =>
                      -- E (
                      go_region
                      all_goals
                        go_wp2_with fail
                        go_meet
                        exact ⟨rfl, (HA.out.store HV4.out node hnodel ⟨x.kind, x.text, k', i'⟩).drew⟩
                      -- E )
                    case rest =>
                      rename_i wOld7
                      obtain ⟨rfl, hA⟩ := hcut
                      clear HA HV4 hP5 t0 b0 b1 b2 b3 b4 gf c0 c1 c2 c3 c4 hnI4 hpp4
                      obtain ⟨VF, hVF⟩ : ∃ VF : List NV, VA.set node ⟨x.kind, x.text, k', i'⟩ = VF := ⟨_, rfl⟩
                      obtain ⟨NF, hNF⟩ : ∃ NF : List Ini.Nd, NA.set node { m with keys := m.keys ++ [V.vs.length], items := m.items ++ [V.vs.length + 1] } = NF := ⟨_, rfl⟩
                      rw [hVF, hNF] at hA
                      have HNF := Lib.hid hNF
                      clear hVF hNF
                      obtain ⟨gs, caps, rests, hvs, hGS⟩ := hA.spans.head (by intro e; rw [e] at hs; simp at hs)
                      have hP7 : wc.cell? ⟨pb, 7, none⟩ = some (.slice (some ⟨gs, 0, none⟩) st.spans.length caps) := by rw [hA.blk.cell 7]; show some V.sv = _; rw [hvs]
                      have pf : ∀ i, wc.frozen? ⟨pb, i, none⟩ = false := hA.blk.frozen
                      have n0 : wc.cell? ⟨w.heap.size + 1 + 1, 0, none⟩ = some (.int .i64 ((V.vs.length : Int) + 1)) := hA.sb.cell 0
                      have n1 : wc.cell? ⟨w.heap.size + 1 + 1, 1, none⟩ = some (.int .i64 span) := hA.sb.cell 1
                      have n2 : wc.cell? ⟨w.heap.size + 1 + 1, 2, none⟩ = some (.int .i64 m.items.length) := hA.sb.cell 2
                      have n3 : wc.cell? ⟨w.heap.size + 1 + 1, 3, none⟩ = some (.int .i64 sf) := hA.sb.cell 3
                      have n4 : wc.cell? ⟨w.heap.size + 1 + 1, 4, none⟩ = some (.int .i64 sz) := hA.sb.cell 4
                      have n5 : wc.cell? ⟨w.heap.size + 1 + 1, 5, none⟩ = some (.int .i64 skf) := hA.sb.cell 5
                      have n6 : wc.cell? ⟨w.heap.size + 1 + 1, 6, none⟩ = some (.int .i64 skt) := hA.sb.cell 6
                      have n7 : wc.cell? ⟨w.heap.size + 1 + 1, 7, none⟩ = some (.bool false) := hA.sb.cell 7
                      have n8 : wc.cell? ⟨w.heap.size + 1 + 1, 8, none⟩ = some (.bool wh) := hA.sb.cell 8
                      have e7 := World.new_ne wc _ hP7
                      have en0 := World.new_ne wc _ n0
                      have en1 := World.new_ne wc _ n1
                      have en2 := World.new_ne wc _ n2
                      have en3 := World.new_ne wc _ n3
                      have en4 := World.new_ne wc _ n4
                      have en5 := World.new_ne wc _ n5
                      have en6 := World.new_ne wc _ n6
                      have en7 := World.new_ne wc _ n7
                      have en8 := World.new_ne wc _ n8
                      have hpp7 : ∃ cs, Hid (Blk wc pb 62 cs) := ⟨_, Lib.hid hA.blk⟩
                      have hpg : some pb ≠ some gs := by intro e; injection e with e; exact Blk.ne_ hA.blk hGS (by decide) e
                      have hsl : st.spans.length ≤ 4096 := by have := HF.out.sl; have := HF.out.nl; omega
                      have HA := Lib.hid hA
                      have HOWN : Hid (OwnRow spanL wc B 45 (.slice (some ⟨gs, 0, none⟩) st.spans.length caps) st.spans) := Lib.hid (by rw [← hvs]; exact hA.spans)
                      have HVS := Lib.hid hvs
                      have hownA : OwnRow spanL (wc.alloc (.cells #[.int .i64 ((V.vs.length : Int) + 1), .int .i64 span, .int .i64 m.items.length, .int .i64 sf, .int .i64 sz, .int .i64 skf, .int .i64 skt, .bool false, .bool wh] 45)).drew B 45 (.slice (some ⟨gs, 0, none⟩) st.spans.length caps) st.spans := (HOWN.out.alloc _).drew
                      have hlitA : RowAt spanL (wc.alloc (.cells #[.int .i64 ((V.vs.length : Int) + 1), .int .i64 span, .int .i64 m.items.length, .int .i64 sf, .int .i64 sz, .int .i64 skf, .int .i64 skt, .bool false, .bool wh] 45)).drew (wc.heap.size + 1) (some ⟨wc.heap.size, 0, none⟩) [⟨V.vs.length + 1, span, m.items.length, sf, sz, skf, skt, wh⟩] := (RowAt.lit1 _ _ rfl _ rfl).drew
                      have hmidA := (HA.out.alloc (.cells #[.int .i64 ((V.vs.length : Int) + 1), .int .i64 span, .int .i64 m.items.length, .int .i64 sf, .int .i64 sz, .int .i64 skf, .int .i64 skt, .bool false, .bool wh] 45)).drew
                      have hlA : st.spans.length + [(⟨V.vs.length + 1, span, m.items.length, sf, sz, skf, skt, wh⟩ : Ini.Sp)].length ≤ 1073741824 := by simp only [List.length_cons, List.length_nil]; omega
                      have hbA : B ≤ (wc.alloc (.cells #[.int .i64 ((V.vs.length : Int) + 1), .int .i64 span, .int .i64 m.items.length, .int .i64 sf, .int .i64 sz, .int .i64 skf, .int .i64 skt, .bool false, .bool wh] 45)).drew.heap.size := by have := HA.out.base; have := HA.out.size; simp; omega
                      have pcA : (wc.alloc (.cells #[.int .i64 ((V.vs.length : Int) + 1), .int .i64 span, .int .i64 m.items.length, .int .i64 sf, .int .i64 sz, .int .i64 skf, .int .i64 skt, .bool false, .bool wh] 45)).cell? ⟨pb, 7, none⟩ = some (.slice (some ⟨gs, 0, none⟩) st.spans.length caps) := by
                        rw [(HA.out.blk.alloc (.cells #[.int .i64 ((V.vs.length : Int) + 1), .int .i64 span, .int .i64 m.items.length, .int .i64 sf, .int .i64 sz, .int .i64 skf, .int .i64 skt, .bool false, .bool wh] 45)).cell 7]
                        show some V.sv = _
                        rw [HVS.out]
                      have HMA := Lib.hid hmidA
                      have HLEN : Hid ((st.spans ++ [(⟨V.vs.length + 1, span, m.items.length, sf, sz, skf, skt, wh⟩ : Ini.Sp)]).length = st.spans.length + 1) := Lib.hid (by simp)
                      clear hmidA hA hvs hGS
                      go_upto_region 17 with fail
                      go_cut [16] (fun s16 wx => s16 = .int .i64 V.vs.length ∧ ∃ gz cz, AMid B V w pb s st #[.int .i64 node, .int .i64 span] #[.int .i64 kind, .string ⟨text.toArray⟩, .bool false, .slice none 0 0, .slice none 0 0] #[.int .i64 0, .int .i64 0] wx
                        #[.int .i64 ((V.vs.length : Int) + 1), .int .i64 span, .int .i64 m.items.length, .int .i64 sf, .int .i64 sz, .int .i64 skf, .int .i64 skt, .bool false, .bool wh] #[.int .i64 x.kind, .string ⟨x.text.toArray⟩, .bool false, .slice k'.a k'.n k'.c, .slice i'.a i'.n i'.c]
                        nv' (.slice (some ⟨gz, 0, none⟩) (st.spans.length + 1) cz) VF VF NF (st.spans ++ [⟨V.vs.length + 1, span, m.items.length, sf, sz, skf, skt, wh⟩]))
                      case first =>
                        -- F (
                        go_region_law (refine step_append_row _ rfl (.tmp 113) (.tmp 115) 26 45 64 rfl spanT B (.slice (some ⟨gs, 0, none⟩) st.spans.length caps) st.spans rfl hownA _ _ 1 [⟨V.vs.length + 1, span, m.items.length, sf, sz, skf, skt, wh⟩] rfl hlitA hlA hbA ?_; intro v' w2 hown2 hg2 hat2; obtain ⟨g3, cap3, rest3, rfl, hG3⟩ := hown2.head (by simp); have pf2 : ∀ i, w2.frozen? ⟨pb, i, none⟩ = false := (((HA.out.blk.alloc _).drew).grown hg2 hpg).frozen; have pc2 : w2.cell? ⟨pb, 7, none⟩ = some V.sv := (((HA.out.blk.alloc _).drew).grown hg2 hpg).cell 7; have HOW2 := Lib.hid hown2; have HG2 := Lib.hid hg2; have HAT2 := Lib.hid hat2; clear hown2 hg2 hat2 hG3)
                        all_goals
                          go_wp2_with fail
                          go_meet
                          have ho := HOW2.out
                          have ha := HAT2.out
                          rw [HLEN.out] at ho ha
                          have hg9 : (wc.alloc (.cells #[.int .i64 ((V.vs.length : Int) + 1), .int .i64 span, .int .i64 m.items.length, .int .i64 sf, .int .i64 sz, .int .i64 skf, .int .i64 skt, .bool false, .bool wh] 45)).drew.grownBy w2 V.sv.ownBlock := by rw [HVS.out]; exact HG2.out
                          rw [show (Value.slice (some ⟨gs, 0, none⟩) st.spans.length caps).ownBlock = V.sv.ownBlock from by rw [HVS.out]] at ha
                          exact ⟨rfl, _, _, HMA.out.appSpans ho hg9 ha⟩
                        -- F )
                      case rest =>
                        obtain ⟨rfl, gz, cz, hA⟩ := hcut
                        clear hownA hlitA hlA hbA pcA hpp7 hpg hP7 pf n0 n1 n2 n3 n4 n5 n6 n7 n8 e7 en0 en1 en2 en3 en4 en5 en6 en7 en8
                        have hP7 : wc.cell? ⟨pb, 7, none⟩ = some (.slice (some ⟨gz, 0, none⟩) (st.spans.length + 1) cz) := hA.blk.cell 7
                        have r0 : wc.cell? ⟨w.heap.size + 1 + 1 + 1, 0, none⟩ = some (.int .i64 0) := hA.rb.cell 0
                        have r1 : wc.cell? ⟨w.heap.size + 1 + 1 + 1, 1, none⟩ = some (.int .i64 0) := hA.rb.cell 1
                        have rf : ∀ i, wc.frozen? ⟨w.heap.size + 1 + 1 + 1, i, none⟩ = false := hA.rb.frozen
                        have hpp8 : ∃ cs, Hid (Blk wc pb 62 cs) := ⟨_, Lib.hid hA.blk⟩
                        have HA2 := Lib.hid hA
                        have HEND : Hid (∃ st', R = .ok st' ∧ (st'.nodes.length : Int) - 1 = (V.vs.length : Int) + 1 ∧ (st'.spans.length : Int) - 1 = (st.spans.length : Int) ∧ st' = { st with nodes := NF, spans := st.spans ++ [⟨V.vs.length + 1, span, m.items.length, sf, sz, skf, skt, wh⟩] }) := Lib.hid (by
                          have hvl := HVL.out
                          refine ⟨_, HE.out, ?_, ?_, ?_⟩
                          · simp; omega
                          · simp
                          · rw [← HNF.out, ← HNAE.out, hvl])
                        clear hA
                        -- G (
                        go_upto_region 18 with fail
                        go_cut [10, 11] (fun s10 s11 wx => s10 = .pointer (some ⟨w.heap.size + 1 + 1 + 1, 0, none⟩) ∧ s11 = .bool true ∧ AMid B V w pb s st #[.int .i64 node, .int .i64 span] #[.int .i64 kind, .string ⟨text.toArray⟩, .bool false, .slice none 0 0, .slice none 0 0] #[.int .i64 ((V.vs.length : Int) + 1), .int .i64 st.spans.length] wx
                          #[.int .i64 ((V.vs.length : Int) + 1), .int .i64 span, .int .i64 m.items.length, .int .i64 sf, .int .i64 sz, .int .i64 skf, .int .i64 skt, .bool false, .bool wh] #[.int .i64 x.kind, .string ⟨x.text.toArray⟩, .bool false, .slice k'.a k'.n k'.c, .slice i'.a i'.n i'.c]
                          nv' (.slice (some ⟨gz, 0, none⟩) (st.spans.length + 1) cz) VF VF NF (st.spans ++ [⟨V.vs.length + 1, span, m.items.length, sf, sz, skf, skt, wh⟩]))
                        case first =>
                          go_wp2_with fail
                          go_meet
                          exact ⟨rfl, rfl, (HA2.out.setRes 0 (.int .i64 ((V.vs.length : Int) + 1))).setRes 1 (.int .i64 st.spans.length)⟩
                        case rest =>
                          obtain ⟨rfl, rfl, hA⟩ := hcut
                          clear r0 r1 rf hP7 hpp8
                          have r0 : wc.cell? ⟨w.heap.size + 1 + 1 + 1, 0, none⟩ = some (.int .i64 ((V.vs.length : Int) + 1)) := hA.rb.cell 0
                          have r1 : wc.cell? ⟨w.heap.size + 1 + 1 + 1, 1, none⟩ = some (.int .i64 st.spans.length) := hA.rb.cell 1
                          have HA3 := Lib.hid hA
                          clear hA HA2
                          first | go_values | go_skip | go_guarded | go_step
                          first | go_values | go_skip | go_guarded | go_step
                          refine bodyPost_ret (v := .tuple #[.agg #[.int .i64 ((V.vs.length : Int) + 1), .int .i64 st.spans.length], .bool true]) (by simp [results, Tryd.results40, go_sem, r0, r1]) rfl ?_
                          obtain ⟨st', hR, hz1, hz2, hst⟩ := HEND.out
                          rw [hR]
                          refine ⟨by rw [hz1, hz2], ?_⟩
                          rw [hst]
                          exact ⟨_, HA3.out.done⟩
                        -- G )
end Go.Proofs.YtegdemnfjmaicaaDoor
