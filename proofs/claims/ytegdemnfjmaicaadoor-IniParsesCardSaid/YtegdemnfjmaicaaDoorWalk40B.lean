/- Walks: the reference's add, from its twelfth region on. -/
import Derived.Test.YtegdemnfjmaicaaDoorWalk40A
namespace Go.Proofs.YtegdemnfjmaicaaDoor
open Go.RowKit
set_option maxRecDepth 100000 in
set_option maxHeartbeats 8000000 in
theorem radd_tail12 (B rb par node : Nat) (V V2 : PV) (s key text : Ini.Str) (st : Ini.St) (kind sf sz skf skt : Nat) (wh : Bool) (w wc : World) (m : Ini.Nd) (hp : par < st.spans.length) (hn : node < st.nodes.length)
    (HF : Hid (Fit st)) (hvb : V.vs.length ≤ 4094) (HVL : Hid (V.vs.length = st.nodes.length)) (HMM : Hid (st.nodes[node] = m)) (hil : m.items.length ≤ 4096) (hkl : m.keys.length ≤ 4096) (hbase : B ≤ w.heap.size) (hrlt : rb < w.heap.size) (NA : List Ini.Nd)
    (hnl2 : node < NA.length) (HNM : Hid (NA[node] = m)) (hvl2 : V2.vs.length = V.vs.length + 2) (hnv2 : node < V2.vs.length)
    (HNA : Hid (st.nodes ++ [(⟨5, key, [], []⟩ : Ini.Nd)] ++ [⟨kind, text, [], []⟩] = NA))
    (hM : RMid B V2 wc rb s { st with nodes := NA } w (ncells kind text) (scells ((V.vs.length : Int) + 1) par m.items.length sf sz skf skt wh)) (HE2 : Hid (V2.at_ = V.at_ ∧ V2.e_ = V.e_))
    (u13 u14 u15 u16 u17 u18 u19 u20 u21 u22 u23 u24 u25 u26 u27 u28 u29 u30 u31 u32 u33 u34 u35 u36 u37 u38 u39 u40 u41 u42 u43 u44 u45 u46 u47 u48 u49 u50 u51 u52 u53 u54 u55 u56 u57 u58 u59 u60 u61 u62 u63 u64 u65 u66 u67 u68 u69 u70 u71 u72 u73 u74 u75 u76 u77 u78 u79 u80 u81 u82 u83 u84 u85 u86 u87 u88 u89 u90 u91 u92 u93 u94 u95 u96 u97 u98 u99 u100 u101 u102 u103 u104 u105 u106 u107 u108 u109 u110 u111 u112 u113 u114 u115 u116 u117 u118 u119 u120 u121 u122 u123 u124 u125 u126 u127 u128 u129 u130 u131 u132 u133 u134 u135 u136 u137 u138 u139 u140 : Value) :
    Code.wp Tryd.prog (tl 10 (Tryd.f46.body.getD .skip)) (bodyPost Tryd.prog Tryd.f46 fun e w' => Below B w w' ∧ e = .returned (.tuple #[]) ∧ ∃ V', RAt B V' w' rb s (addSt st node par key kind text sf sz skf skt wh hn) ∧ V'.at_ = V.at_ ∧ V'.e_ = V.e_) { tmps := List.toArray (.pointer (some ⟨rb, 0, none⟩) :: .int .i64 par :: .string ⟨key.toArray⟩ :: .agg #[.int .i64 kind, .string ⟨text.toArray⟩, .bool false, .slice none 0 0, .slice none 0 0] :: .agg #[.int .i64 0, .int .i64 0, .int .i64 0, .int .i64 sf, .int .i64 sz, .int .i64 skf, .int .i64 skt, .bool false, .bool wh] :: undef :: undef :: undef :: .pointer (some ⟨w.heap.size, 0, none⟩) :: .pointer (some ⟨w.heap.size + 1, 0, none⟩) :: .pointer (some ⟨rb, 2, none⟩) :: .int .i64 node :: .int .i64 V.vs.length :: u13 :: u14 :: u15 :: u16 :: u17 :: u18 :: u19 :: u20 :: u21 :: u22 :: u23 :: u24 :: u25 :: u26 :: u27 :: u28 :: u29 :: u30 :: u31 :: u32 :: u33 :: u34 :: u35 :: u36 :: u37 :: u38 :: u39 :: u40 :: u41 :: u42 :: u43 :: u44 :: u45 :: u46 :: u47 :: u48 :: u49 :: u50 :: u51 :: u52 :: u53 :: u54 :: u55 :: u56 :: u57 :: u58 :: u59 :: u60 :: u61 :: u62 :: u63 :: u64 :: u65 :: u66 :: u67 :: u68 :: u69 :: u70 :: u71 :: u72 :: u73 :: u74 :: u75 :: u76 :: u77 :: u78 :: u79 :: u80 :: u81 :: u82 :: u83 :: u84 :: u85 :: u86 :: u87 :: u88 :: u89 :: u90 :: u91 :: u92 :: u93 :: u94 :: u95 :: u96 :: u97 :: u98 :: u99 :: u100 :: u101 :: u102 :: u103 :: u104 :: u105 :: u106 :: u107 :: u108 :: u109 :: u110 :: u111 :: u112 :: u113 :: u114 :: u115 :: u116 :: u117 :: u118 :: u119 :: u120 :: u121 :: u122 :: u123 :: u124 :: u125 :: u126 :: u127 :: u128 :: u129 :: u130 :: u131 :: u132 :: u133 :: u134 :: u135 :: u136 :: u137 :: u138 :: u139 :: u140 :: []), defers := [] } wc := by
  have hnI : (node : Int) < (V2.vs.length : Int) := by omega
  have HVL2 := Lib.hid hvl2
  unfold ncells scells at hM
  generalize hc0 : tl 10 (Tryd.f46.body.getD .skip) = c0
  simp only [tl, Tryd.f46, Option.getD_some] at hc0
  subst hc0
  obtain ⟨x, hx⟩ : ∃ x, V2.vs[node] = x := ⟨_, rfl⟩
  have hK := (hM.keysOf hnv2 hnl2).1
  rw [hx] at hK
  change OwnRow intL wc B 3 x.k.v NA[node].keys at hK
  rw [HNM.out] at hK
  have hK : OwnRow intL wc B 3 (.slice x.k.a x.k.n x.k.c) m.keys := hK
  obtain ⟨g, cap, rest, hv, hG⟩ := hM.at_.nodes.head (by intro e; rw [e] at hnv2; simp at hnv2)
  have r2 : wc.cell? ⟨rb, 2, none⟩ = some (.slice (some ⟨g, 0, none⟩) V2.vs.length cap) := by rw [hM.at_.blk.cell 2]; show some V2.nv = _; rw [hv]
  obtain ⟨_, _, _, c3, _⟩ := node_cells hG node hnv2
  rw [hx] at c3
  have hbw := hM.baseX
  have e2 := World.new_ne wc _ r2
  have e3 := World.new_ne wc _ c3
  have gf : ∀ i, wc.frozen? ⟨g, i, none⟩ = false := hG.frozen
  have hownA : OwnRow intL (wc.alloc (.cells #[.int .i64 V.vs.length] 3)).drew B 3 (.slice x.k.a x.k.n x.k.c) m.keys := (hK.alloc _).drew
  have hlitA : RowAt intL (wc.alloc (.cells #[.int .i64 V.vs.length] 3)).drew (wc.heap.size + 1) (some ⟨wc.heap.size, 0, none⟩) [V.vs.length] := (RowAt.lit1 _ _ rfl _ rfl).drew
  have hlA : m.keys.length + [V.vs.length].length ≤ 1073741824 := by simp only [List.length_cons, List.length_nil]; omega
  have hbA : B ≤ (wc.alloc (.cells #[.int .i64 V.vs.length] 3)).drew.heap.size := by simp; omega
  have pcA : (wc.alloc (.cells #[.int .i64 V.vs.length] 3)).cell? ⟨rb, 2, none⟩ = some (.slice (some ⟨g, 0, none⟩) V2.vs.length cap) := by
    rw [(hM.at_.blk.alloc (.cells #[.int .i64 V.vs.length] 3)).cell 2]
    show some V2.nv = _
    rw [hv]
  have pc3 : (wc.alloc (.cells #[.int .i64 V.vs.length] 3)).cell? ⟨g, node * 5 + 3, none⟩ = some (.slice x.k.a x.k.n x.k.c) := by
    have := (node_cells (hG.alloc (.cells #[.int .i64 V.vs.length] 3)) node hnv2).2.2.2.1
    rw [hx] at this
    exact this
  have HBLK : Hid (Blk (wc.alloc (.cells #[.int .i64 V.vs.length] 3)).drew rb 74 _) := Lib.hid (hM.at_.blk.alloc (.cells #[.int .i64 V.vs.length] 3))
  have HGB : Hid (Blk (wc.alloc (.cells #[.int .i64 V.vs.length] 3)).drew g 49 _) := Lib.hid (hG.alloc (.cells #[.int .i64 V.vs.length] 3))
  have HM := Lib.hid hM
  have HV := Lib.hid hv
  have HX := Lib.hid hx
  clear hM hv hG hK hx hvl2
  go_upto_region 12 with fail
  go_cut [12] (fun s12 wx => s12 = .int .i64 V.vs.length ∧ ∃ V3, RMid B V3 wx rb s { st with nodes := NA.set node { m with keys := m.keys ++ [V.vs.length] } } w (ncells kind text) (scells ((V.vs.length : Int) + 1) par m.items.length sf sz skf skt wh) ∧ Hid (V3.at_ = V.at_ ∧ V3.e_ = V.e_))
  case first =>
    focus
      go_region_law (refine step_append_row _ rfl (.tmp 104) (.tmp 106) 47 3 8 rfl intT B (.slice x.k.a x.k.n x.k.c) m.keys rfl hownA _ _ 1 [V.vs.length] rfl hlitA hlA hbA ?_; intro v' w2 hown2 hg2 hat2; obtain ⟨g3, cap3, rest3, rfl, hG3⟩ := hown2.head (by simp); have gf2 : ∀ i, w2.frozen? ⟨g, i, none⟩ = false := (KeptT.grown (t := 49) hg2 hownA (by decide) _ _ HGB.out).frozen; have pc2 : w2.cell? ⟨rb, 2, none⟩ = some V2.nv := (KeptT.grown (t := 74) hg2 hownA (by decide) _ _ HBLK.out).cell 2; rw [HV.out] at pc2; obtain ⟨_, _, _, c32, _⟩ := node_cells (KeptT.grown (t := 49) hg2 hownA (by decide) _ _ HGB.out) node hnv2; rw [HX.out] at c32; have HOW2 := Lib.hid hown2; have HG2 := Lib.hid hg2; have HAT2 := Lib.hid hat2; clear hown2 hg2 hat2 hG3)
      all_goals
        go_wp2_with fail
        go_meet
        have ho := HOW2.out
        have ha := HAT2.out
        have hg9 := HG2.out
        have hlen : (m.keys ++ [V.vs.length]).length = m.keys.length + 1 := by simp
        rw [hlen] at ho ha
        have hE := ((HM.out.alloc (.cells #[.int .i64 V.vs.length] 3)).drew).growKeys (y := ⟨some ⟨g3, 0, none⟩, m.keys.length + 1, cap3⟩) (k := V.vs.length) hnv2 hnl2 HV.out (by show OwnRow intL w2 B 3 _ (NA[node].keys ++ _); rw [HNM.out]; exact ho) (by rw [HX.out]; exact hg9) (by rw [HX.out]; exact ha)
        change RMid _ _ _ _ _ { st with nodes := NA.set node { NA[node] with keys := NA[node].keys ++ [V.vs.length] } } _ _ _ at hE
        rw [HNM.out] at hE
        exact ⟨rfl, _, hE, Lib.hid ⟨HE2.out.1, HE2.out.2⟩⟩
  case rest =>
    obtain ⟨rfl, V3, hM, HE3⟩ := hcut
    clear HM HV HX HBLK HGB hownA hlitA hlA hbA pcA pc3 e2 e3 gf r2 c3 hbw
    obtain ⟨NB, hNB⟩ : ∃ NB, NA.set node { m with keys := m.keys ++ [V.vs.length] } = NB := ⟨_, rfl⟩
    rw [hNB] at hM
    have hnl3 : node < NB.length := by rw [← hNB]; simpa using hnl2
    have hnm3 : NB[node] = { m with keys := m.keys ++ [V.vs.length] } := by subst hNB; exact List.getElem_set_self _
    have hv3 : V3.vs.length = V2.vs.length := by have h1 : V3.vs.length = NB.length := hM.at_.rows.len; have h2 : NB.length = NA.length := by rw [← hNB]; simp
                                                 have h3 : NA.length = st.nodes.length + 2 := by rw [← HNA.out]; simp
                                                 have := HVL2.out; have := HVL.out; omega
    have hnv3 : node < V3.vs.length := by omega
    rename_i hK0
    apply hK0
    exact radd_tail13 B rb par node V V3 s key text st kind sf sz skf skt wh w _ m hp hn HF hvb HVL HMM hil hkl hbase hrlt NB hnl3 hnm3 (hv3.trans HVL2.out) hnv3 (Lib.hid (by rw [← hNB, ← HNA.out]; simp)) hM HE3 _ _ _ _ _ _ _ _ _ _ _ _ _ _ _ _ _ _ _ _ _ _ _ _ _ _ _ _ _ _ _ _ _ _ _ _ _ _ _ _ _ _ _ _ _ _ _ _ _ _ _ _ _ _ _ _ _ _ _ _ _ _ _ _ _ _ _ _ _ _ _ _ _ _ _ _ _ _ _ _ _ _ _ _ _ _ _ _ _ _ _ _ _ _ _ _ _ _ _ _ _ _ _ _ _ _ _ _ _ _ _ _ _ _ _ _ _ _ _ _ _ _ _ _ _ _ _ _
end Go.Proofs.YtegdemnfjmaicaaDoor
