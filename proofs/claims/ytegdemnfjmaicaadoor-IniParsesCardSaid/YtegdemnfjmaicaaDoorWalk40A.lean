/- Walks: the reference's add. -/
import Derived.Test.YtegdemnfjmaicaaDoorWalk38Z
namespace Go.Proofs.YtegdemnfjmaicaaDoor
open Go.RowKit
def addSt (st : Ini.St) (node par : Nat) (key : Ini.Str) (kind : Nat) (text : Ini.Str) (sf sz skf skt : Nat) (wh : Bool) (hn : node < st.nodes.length) : Ini.St :=
  { st with
    nodes := (st.nodes ++ [(⟨5, key, [], []⟩ : Ini.Nd), ⟨kind, text, [], []⟩]).set node { st.nodes[node] with keys := st.nodes[node].keys ++ [st.nodes.length], items := st.nodes[node].items ++ [st.nodes.length + 1] }
    spans := st.spans ++ [⟨st.nodes.length + 1, (par : Int), st.nodes[node].items.length, sf, sz, skf, skt, wh⟩] }
/-- the code behind its first parts. -/
def tl : Nat → Code → Code
  | 0, c => c
  | n + 1, .seq _ b => tl n b
  | _ + 1, c => c
set_option maxRecDepth 100000 in
set_option maxHeartbeats 8000000 in
theorem radd_tail13 (B rb par node : Nat) (V V3 : PV) (s key text : Ini.Str) (st : Ini.St) (kind sf sz skf skt : Nat) (wh : Bool) (w wc : World) (m : Ini.Nd) (hp : par < st.spans.length) (hn : node < st.nodes.length)
    (HF : Hid (Fit st)) (hvb : V.vs.length ≤ 4094) (HVL : Hid (V.vs.length = st.nodes.length)) (HMM : Hid (st.nodes[node] = m)) (hil : m.items.length ≤ 4096) (_hkl : m.keys.length ≤ 4096) (_hbase : B ≤ w.heap.size) (_hrlt : rb < w.heap.size) (NB : List Ini.Nd)
    (hnl3 : node < NB.length) (hnm3 : NB[node] = { m with keys := m.keys ++ [V.vs.length] }) (hv3 : V3.vs.length = V.vs.length + 2) (hnv3 : node < V3.vs.length)
    (HNB : Hid (NB = (st.nodes ++ [(⟨5, key, [], []⟩ : Ini.Nd), ⟨kind, text, [], []⟩]).set node { m with keys := m.keys ++ [V.vs.length] }))
    (hM : RMid B V3 wc rb s { st with nodes := NB } w (ncells kind text) (scells ((V.vs.length : Int) + 1) par m.items.length sf sz skf skt wh)) (HE3 : Hid (V3.at_ = V.at_ ∧ V3.e_ = V.e_))
    (u13 u14 u15 u16 u17 u18 u19 u20 u21 u22 u23 u24 u25 u26 u27 u28 u29 u30 u31 u32 u33 u34 u35 u36 u37 u38 u39 u40 u41 u42 u43 u44 u45 u46 u47 u48 u49 u50 u51 u52 u53 u54 u55 u56 u57 u58 u59 u60 u61 u62 u63 u64 u65 u66 u67 u68 u69 u70 u71 u72 u73 u74 u75 u76 u77 u78 u79 u80 u81 u82 u83 u84 u85 u86 u87 u88 u89 u90 u91 u92 u93 u94 u95 u96 u97 u98 u99 u100 u101 u102 u103 u104 u105 u106 u107 u108 u109 u110 u111 u112 u113 u114 u115 u116 u117 u118 u119 u120 u121 u122 u123 u124 u125 u126 u127 u128 u129 u130 u131 u132 u133 u134 u135 u136 u137 u138 u139 u140 : Value) :
    Code.wp Tryd.prog (tl 11 (Tryd.f46.body.getD .skip)) (bodyPost Tryd.prog Tryd.f46 fun e w' => Below B w w' ∧ e = .returned (.tuple #[]) ∧ ∃ V', RAt B V' w' rb s (addSt st node par key kind text sf sz skf skt wh hn) ∧ V'.at_ = V.at_ ∧ V'.e_ = V.e_) { tmps := List.toArray (.pointer (some ⟨rb, 0, none⟩) :: .int .i64 par :: .string ⟨key.toArray⟩ :: .agg #[.int .i64 kind, .string ⟨text.toArray⟩, .bool false, .slice none 0 0, .slice none 0 0] :: .agg #[.int .i64 0, .int .i64 0, .int .i64 0, .int .i64 sf, .int .i64 sz, .int .i64 skf, .int .i64 skt, .bool false, .bool wh] :: undef :: undef :: undef :: .pointer (some ⟨w.heap.size, 0, none⟩) :: .pointer (some ⟨w.heap.size + 1, 0, none⟩) :: .pointer (some ⟨rb, 2, none⟩) :: .int .i64 node :: .int .i64 V.vs.length :: u13 :: u14 :: u15 :: u16 :: u17 :: u18 :: u19 :: u20 :: u21 :: u22 :: u23 :: u24 :: u25 :: u26 :: u27 :: u28 :: u29 :: u30 :: u31 :: u32 :: u33 :: u34 :: u35 :: u36 :: u37 :: u38 :: u39 :: u40 :: u41 :: u42 :: u43 :: u44 :: u45 :: u46 :: u47 :: u48 :: u49 :: u50 :: u51 :: u52 :: u53 :: u54 :: u55 :: u56 :: u57 :: u58 :: u59 :: u60 :: u61 :: u62 :: u63 :: u64 :: u65 :: u66 :: u67 :: u68 :: u69 :: u70 :: u71 :: u72 :: u73 :: u74 :: u75 :: u76 :: u77 :: u78 :: u79 :: u80 :: u81 :: u82 :: u83 :: u84 :: u85 :: u86 :: u87 :: u88 :: u89 :: u90 :: u91 :: u92 :: u93 :: u94 :: u95 :: u96 :: u97 :: u98 :: u99 :: u100 :: u101 :: u102 :: u103 :: u104 :: u105 :: u106 :: u107 :: u108 :: u109 :: u110 :: u111 :: u112 :: u113 :: u114 :: u115 :: u116 :: u117 :: u118 :: u119 :: u120 :: u121 :: u122 :: u123 :: u124 :: u125 :: u126 :: u127 :: u128 :: u129 :: u130 :: u131 :: u132 :: u133 :: u134 :: u135 :: u136 :: u137 :: u138 :: u139 :: u140 :: []), defers := [] } wc := by
  have HNM3 := Lib.hid hnm3
  unfold ncells scells at hM
  generalize hc0 : tl 11 (Tryd.f46.body.getD .skip) = c0
  simp only [tl, Tryd.f46, Option.getD_some] at hc0
  subst hc0
  obtain ⟨x, hx⟩ : ∃ x, V3.vs[node] = x := ⟨_, rfl⟩
  have hK := (hM.keysOf hnv3 hnl3).2
  rw [hx] at hK
  change OwnRow intL wc B 3 x.i.v NB[node].items at hK
  rw [hnm3] at hK
  have hK : OwnRow intL wc B 3 (.slice x.i.a x.i.n x.i.c) m.items := hK
  obtain ⟨g, cap, rest, hv, hG⟩ := hM.at_.nodes.head (by intro e; rw [e] at hnv3; simp at hnv3)
  have r2 : wc.cell? ⟨rb, 2, none⟩ = some (.slice (some ⟨g, 0, none⟩) V3.vs.length cap) := by rw [hM.at_.blk.cell 2]; show some V3.nv = _; rw [hv]
  obtain ⟨_, _, _, _, c3⟩ := node_cells hG node hnv3
  rw [hx] at c3
  have hbw := hM.baseX
  have hnI3 : (node : Int) < (V3.vs.length : Int) := by omega
  have e2 := World.new_ne wc _ r2
  have e3 := World.new_ne wc _ c3
  have gf : ∀ i, wc.frozen? ⟨g, i, none⟩ = false := hG.frozen
  have hownA : OwnRow intL (wc.alloc (.cells #[.int .i64 ((V.vs.length : Int) + 1)] 3)).drew B 3 (.slice x.i.a x.i.n x.i.c) m.items := (hK.alloc _).drew
  have hlitA : RowAt intL (wc.alloc (.cells #[.int .i64 ((V.vs.length : Int) + 1)] 3)).drew (wc.heap.size + 1) (some ⟨wc.heap.size, 0, none⟩) [V.vs.length + 1] := (RowAt.lit1 _ _ rfl _ rfl).drew
  have hlA : m.items.length + [V.vs.length + 1].length ≤ 1073741824 := by simp only [List.length_cons, List.length_nil]; omega
  have hbA : B ≤ (wc.alloc (.cells #[.int .i64 ((V.vs.length : Int) + 1)] 3)).drew.heap.size := by simp; omega
  have pcA : (wc.alloc (.cells #[.int .i64 ((V.vs.length : Int) + 1)] 3)).cell? ⟨rb, 2, none⟩ = some (.slice (some ⟨g, 0, none⟩) V3.vs.length cap) := by
    rw [(hM.at_.blk.alloc (.cells #[.int .i64 ((V.vs.length : Int) + 1)] 3)).cell 2]
    show some V3.nv = _
    rw [hv]
  have pc3 : (wc.alloc (.cells #[.int .i64 ((V.vs.length : Int) + 1)] 3)).cell? ⟨g, node * 5 + 4, none⟩ = some (.slice x.i.a x.i.n x.i.c) := by
    have := (node_cells (hG.alloc (.cells #[.int .i64 ((V.vs.length : Int) + 1)] 3)) node hnv3).2.2.2.2
    rw [hx] at this
    exact this
  have HBLK : Hid (Blk (wc.alloc (.cells #[.int .i64 ((V.vs.length : Int) + 1)] 3)).drew rb 74 _) := Lib.hid (hM.at_.blk.alloc (.cells #[.int .i64 ((V.vs.length : Int) + 1)] 3))
  have HGB : Hid (Blk (wc.alloc (.cells #[.int .i64 ((V.vs.length : Int) + 1)] 3)).drew g 49 _) := Lib.hid (hG.alloc (.cells #[.int .i64 ((V.vs.length : Int) + 1)] 3))
  have HM := Lib.hid hM
  have HV := Lib.hid hv
  have HX := Lib.hid hx
  have HL3 := Lib.hid hv3
  clear hM hv hG hK hx hnm3 hv3
  have hw1 : IntKind.i64.wrap ((V.vs.length : Int) + 1) = (V.vs.length : Int) + 1 := IntWalk.i64_in _ (by omega)
  go_upto_region 13 with fail
  go_cut [12] (fun s12 wx => s12 = .int .i64 V.vs.length ∧ ∃ V4, RMid B V4 wx rb s { st with nodes := NB.set node { m with keys := m.keys ++ [V.vs.length], items := m.items ++ [V.vs.length + 1] } } w (ncells kind text) (scells ((V.vs.length : Int) + 1) par m.items.length sf sz skf skt wh) ∧ Hid (V4.at_ = V.at_ ∧ V4.e_ = V.e_))
  case first =>
    focus
      go_region_law (refine step_append_row _ rfl (.tmp 122) (.tmp 125) 47 3 8 rfl intT B (.slice x.i.a x.i.n x.i.c) m.items rfl hownA _ _ 1 [V.vs.length + 1] rfl hlitA hlA hbA ?_; intro v' w2 hown2 hg2 hat2; obtain ⟨g3, cap3, rest3, rfl, hG3⟩ := hown2.head (by simp); have gf2 : ∀ i, w2.frozen? ⟨g, i, none⟩ = false := (KeptT.grown (t := 49) hg2 hownA (by decide) _ _ HGB.out).frozen; have pc2 : w2.cell? ⟨rb, 2, none⟩ = some V3.nv := (KeptT.grown (t := 74) hg2 hownA (by decide) _ _ HBLK.out).cell 2; rw [HV.out] at pc2; obtain ⟨_, _, _, _, c32⟩ := node_cells (KeptT.grown (t := 49) hg2 hownA (by decide) _ _ HGB.out) node hnv3; rw [HX.out] at c32; have HOW2 := Lib.hid hown2; have HG2 := Lib.hid hg2; have HAT2 := Lib.hid hat2; clear hown2 hg2 hat2 hG3)
      all_goals
        go_wp2_with fail
        go_meet
        have ho := HOW2.out
        have ha := HAT2.out
        have hg9 := HG2.out
        have hlen : (m.items ++ [V.vs.length + 1]).length = m.items.length + 1 := by simp
        rw [hlen] at ho ha
        have hE := ((HM.out.alloc (.cells #[.int .i64 ((V.vs.length : Int) + 1)] 3)).drew).growItems (y := ⟨some ⟨g3, 0, none⟩, m.items.length + 1, cap3⟩) (k := V.vs.length + 1) hnv3 hnl3 HV.out (by show OwnRow intL w2 B 3 _ (NB[node].items ++ _); rw [HNM3.out]; exact ho) (by rw [HX.out]; exact hg9) (by rw [HX.out]; exact ha)
        change RMid _ _ _ _ _ { st with nodes := NB.set node { NB[node] with items := NB[node].items ++ [V.vs.length + 1] } } _ _ _ at hE
        rw [HNM3.out] at hE
        exact ⟨rfl, _, hE, Lib.hid ⟨HE3.out.1, HE3.out.2⟩⟩
  case rest =>
    obtain ⟨rfl, V4, hM, HE4⟩ := hcut
    clear HM HV HX HBLK HGB hownA hlitA hlA hbA pcA pc3 e2 e3 gf r2 c3 hbw hnI3
    obtain ⟨NC, hNC⟩ : ∃ NC, NB.set node { m with keys := m.keys ++ [V.vs.length], items := m.items ++ [V.vs.length + 1] } = NC := ⟨_, rfl⟩
    rw [hNC] at hM
    have HNC : Hid (NC = (st.nodes ++ [(⟨5, key, [], []⟩ : Ini.Nd), ⟨kind, text, [], []⟩]).set node { m with keys := m.keys ++ [st.nodes.length], items := m.items ++ [st.nodes.length + 1] }) :=
      Lib.hid (by rw [← hNC, HNB.out, List.set_set, HVL.out])
    clear hNC
    obtain ⟨gs, caps, rests, hvs, hGS⟩ := hM.at_.spans.head (by intro e; rw [e] at hp; simp at hp)
    have r4 : wc.cell? ⟨rb, 4, none⟩ = some (.slice (some ⟨gs, 0, none⟩) st.spans.length caps) := by rw [hM.at_.blk.cell 4]; show some V4.sv = _; rw [hvs]
    have pf : ∀ i, wc.frozen? ⟨rb, i, none⟩ = false := hM.at_.blk.frozen
    have n0 : wc.cell? ⟨w.heap.size + 1, 0, none⟩ = some (.int .i64 ((V.vs.length : Int) + 1)) := hM.b9.cell 0
    have n1 : wc.cell? ⟨w.heap.size + 1, 1, none⟩ = some (.int .i64 par) := hM.b9.cell 1
    have n2 : wc.cell? ⟨w.heap.size + 1, 2, none⟩ = some (.int .i64 m.items.length) := hM.b9.cell 2
    have n3 : wc.cell? ⟨w.heap.size + 1, 3, none⟩ = some (.int .i64 sf) := hM.b9.cell 3
    have n4 : wc.cell? ⟨w.heap.size + 1, 4, none⟩ = some (.int .i64 sz) := hM.b9.cell 4
    have n5 : wc.cell? ⟨w.heap.size + 1, 5, none⟩ = some (.int .i64 skf) := hM.b9.cell 5
    have n6 : wc.cell? ⟨w.heap.size + 1, 6, none⟩ = some (.int .i64 skt) := hM.b9.cell 6
    have n7 : wc.cell? ⟨w.heap.size + 1, 7, none⟩ = some (.bool false) := hM.b9.cell 7
    have n8 : wc.cell? ⟨w.heap.size + 1, 8, none⟩ = some (.bool wh) := hM.b9.cell 8
    have e7 := World.new_ne wc _ r4
    have en0 := World.new_ne wc _ n0
    have en1 := World.new_ne wc _ n1
    have en2 := World.new_ne wc _ n2
    have en3 := World.new_ne wc _ n3
    have en4 := World.new_ne wc _ n4
    have en5 := World.new_ne wc _ n5
    have en6 := World.new_ne wc _ n6
    have en7 := World.new_ne wc _ n7
    have en8 := World.new_ne wc _ n8
    have hpg : some rb ≠ some gs := by intro e; injection e with e; exact Blk.ne_ hM.at_.blk hGS (by decide) e
    have hsl : st.spans.length ≤ 4096 := by have := HF.out.sl; have := HF.out.nl; omega
    have hbw := hM.baseX
    have HOWN : Hid (OwnRow spanL wc B 45 (.slice (some ⟨gs, 0, none⟩) st.spans.length caps) st.spans) := Lib.hid (by rw [← hvs]; exact hM.at_.spans)
    have hownA : OwnRow spanL (wc.alloc (.cells #[.int .i64 ((V.vs.length : Int) + 1), .int .i64 par, .int .i64 m.items.length, .int .i64 sf, .int .i64 sz, .int .i64 skf, .int .i64 skt, .bool false, .bool wh] 45)).drew B 45 (.slice (some ⟨gs, 0, none⟩) st.spans.length caps) st.spans := (HOWN.out.alloc _).drew
    have hlitA : RowAt spanL (wc.alloc (.cells #[.int .i64 ((V.vs.length : Int) + 1), .int .i64 par, .int .i64 m.items.length, .int .i64 sf, .int .i64 sz, .int .i64 skf, .int .i64 skt, .bool false, .bool wh] 45)).drew (wc.heap.size + 1) (some ⟨wc.heap.size, 0, none⟩) [⟨V.vs.length + 1, (par : Int), m.items.length, sf, sz, skf, skt, wh⟩] := (RowAt.lit1 _ _ rfl _ rfl).drew
    have hlA : st.spans.length + [(⟨V.vs.length + 1, (par : Int), m.items.length, sf, sz, skf, skt, wh⟩ : Ini.Sp)].length ≤ 1073741824 := by simp only [List.length_cons, List.length_nil]; omega
    have hbA : B ≤ (wc.alloc (.cells #[.int .i64 ((V.vs.length : Int) + 1), .int .i64 par, .int .i64 m.items.length, .int .i64 sf, .int .i64 sz, .int .i64 skf, .int .i64 skt, .bool false, .bool wh] 45)).drew.heap.size := by simp; omega
    have pcA : (wc.alloc (.cells #[.int .i64 ((V.vs.length : Int) + 1), .int .i64 par, .int .i64 m.items.length, .int .i64 sf, .int .i64 sz, .int .i64 skf, .int .i64 skt, .bool false, .bool wh] 45)).cell? ⟨rb, 4, none⟩ = some (.slice (some ⟨gs, 0, none⟩) st.spans.length caps) := by
      rw [(hM.at_.blk.alloc (.cells #[.int .i64 ((V.vs.length : Int) + 1), .int .i64 par, .int .i64 m.items.length, .int .i64 sf, .int .i64 sz, .int .i64 skf, .int .i64 skt, .bool false, .bool wh] 45)).cell 4]
      show some V4.sv = _
      rw [hvs]
    have HM := Lib.hid hM
    have HVS := Lib.hid hvs
    clear hM hvs hGS
    go_upto_region 14 with fail
    go_region_law (refine step_append_row _ rfl (.tmp 134) (.tmp 136) 26 45 64 rfl spanT B (.slice (some ⟨gs, 0, none⟩) st.spans.length caps) st.spans rfl hownA _ _ 1 [⟨V.vs.length + 1, (par : Int), m.items.length, sf, sz, skf, skt, wh⟩] rfl hlitA hlA hbA ?_; intro v' w2 hown2 hg2 hat2; obtain ⟨g3, cap3, rest3, rfl, hG3⟩ := hown2.head (by simp); have pf2 : ∀ i, w2.frozen? ⟨rb, i, none⟩ = false := (((HM.out.at_.blk.alloc _).drew).grown hg2 hpg).frozen; have pc2 : w2.cell? ⟨rb, 4, none⟩ = some V4.sv := (((HM.out.at_.blk.alloc _).drew).grown hg2 hpg).cell 4; have HOW2 := Lib.hid hown2; have HG2 := Lib.hid hg2; have HAT2 := Lib.hid hat2; clear hown2 hg2 hat2 hG3)
    all_goals
      go_wp2_with fail
      (try go_end0)
      have ho := HOW2.out
      have ha := HAT2.out
      have hlen : (st.spans ++ [(⟨V.vs.length + 1, (par : Int), m.items.length, sf, sz, skf, skt, wh⟩ : Ini.Sp)]).length = st.spans.length + 1 := by simp
      rw [hlen] at ho ha
      have hg9 : (wc.alloc (.cells #[.int .i64 ((V.vs.length : Int) + 1), .int .i64 par, .int .i64 m.items.length, .int .i64 sf, .int .i64 sz, .int .i64 skf, .int .i64 skt, .bool false, .bool wh] 45)).drew.grownBy w2 V4.sv.ownBlock := by rw [HVS.out]; exact HG2.out
      rw [show (Value.slice (some ⟨gs, 0, none⟩) st.spans.length caps).ownBlock = V4.sv.ownBlock from by rw [HVS.out]] at ha
      have hR := ((HM.out.alloc (.cells #[.int .i64 ((V.vs.length : Int) + 1), .int .i64 par, .int .i64 m.items.length, .int .i64 sf, .int .i64 sz, .int .i64 skf, .int .i64 skt, .bool false, .bool wh] 45)).drew).appSpans ho hg9 ha
      refine ⟨hR.below, rfl, { V4 with sv := .slice (some ⟨g3, 0, none⟩) (st.spans.length + 1) cap3 }, ?_, HE4.out.1, HE4.out.2⟩
      have := hR.at_
      rw [HNC.out, HVL.out] at this
      unfold addSt
      simp only [HMM.out]
      exact this
end Go.Proofs.YtegdemnfjmaicaaDoor
