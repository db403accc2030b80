/- Walks: the reference's add. -/
import Derived.Test.YtegdemnfjmaicaaDoorWalk40B
namespace Go.Proofs.YtegdemnfjmaicaaDoor
open Go.RowKit
set_option maxRecDepth 100000 in
set_option maxHeartbeats 4000000 in
theorem radd_many (B rb par node : Nat) (V : PV) (s key text : Ini.Str) (st : Ini.St) (kind sf sz skf skt : Nat) (wh : Bool) (w : World) (h : RAt B V w rb s st) (hf : Fit st) (he : V.e_ = .int .i64 0)
    (hp : par < st.spans.length) (hpn : (st.spans[par]).node = node) (hn : node < st.nodes.length) (hk : Ini.keyIn st.nodes node key = false) (hm : 4096 < st.nodes.length + 2) :
    Calls Tryd.prog 46 #[.pointer (some ⟨rb, 0, none⟩), .int .i64 par, .string ⟨key.toArray⟩, .agg (ncells kind text), .agg (scells 0 0 0 sf sz skf skt wh)] w fun e w' => Below B w w' ∧ e = .returned (.tuple #[]) ∧ RAt B (failV true V skf 7) w' rb s st := by
  unfold ncells scells
  have HA := Lib.hid h
  have hbase := h.base
  have hrlt := h.blk.lt
  obtain ⟨A, c, nn, hsv, _, _, _⟩ := h.spanNode hp hpn
  have HSP := Lib.hid (fun (W : World) (hb : Below w.heap.size w W) => (h.later hb).spanNode hp hpn)
  have hpI : (par : Int) < (st.spans.length : Int) := by omega
  have HF := Lib.hid hf
  have HE := Lib.hid he
  have HK := Lib.hid hk
  have HSV := Lib.hid hsv
  clear h he hf hk hpn hsv
  go_enter Tryd.func46, Tryd.ntmps46
  obtain ⟨w1, hw1⟩ : ∃ w1, (w.alloc (.cells #[.int .i64 kind, .string ⟨text.toArray⟩, .bool false, .slice none 0 0, .slice none 0 0] 49)).alloc (.cells #[.int .i64 0, .int .i64 0, .int .i64 0, .int .i64 sf, .int .i64 sz, .int .i64 skf, .int .i64 skt, .bool false, .bool wh] 45) = w1 := ⟨_, rfl⟩
  have l1 : Below w.heap.size w w1 := by rw [← hw1]; exact ((Below.refl _ _).alloc (Nat.le_refl _) _).alloc (by simp) _
  have b9 : Blk w1 (w.heap.size + 1) 45 #[.int .i64 0, .int .i64 0, .int .i64 0, .int .i64 sf, .int .i64 sz, .int .i64 skf, .int .i64 skt, .bool false, .bool wh] := by
    rw [← hw1]
    have := Blk.new (w.alloc (.cells #[.int .i64 kind, .string ⟨text.toArray⟩, .bool false, .slice none 0 0, .slice none 0 0] 49)) 45 #[.int .i64 0, .int .i64 0, .int .i64 0, .int .i64 sf, .int .i64 sz, .int .i64 skf, .int .i64 skt, .bool false, .bool wh]
    rw [World.size_alloc] at this
    exact this
  obtain ⟨A2, c2, _, hsv2, _, g4, g0⟩ := HSP.out w1 l1
  rw [HSV.out] at hsv2
  injection hsv2 with e1 e2 e3
  injection e1 with e1
  subst e1
  subst e3
  have HB9 := Lib.hid b9
  have HL1 := Lib.hid l1
  have HA1 := Lib.hid (HA.out.later l1)
  clear b9 l1
  go_upto_region 1 with fail
  (try rw [hw1])
  clear hw1
  go_wp2_with fail
  refine (rfind_any B rb node V s key st _ HA1.out HF.out hn false HK.out).mono ?_
  rintro e w2 ⟨⟨n, rfl⟩, v, rfl, hv⟩
  have HA2 := Lib.hid (HA1.out.later (below_drewN (Below.refl _ w1) n))
  have x5 : w1.cell? ⟨w.heap.size + 1, 5, none⟩ = some (.int .i64 skf) := HB9.out.cell 5
  clear g4 g0
  obtain ⟨An, cn, hnv, _⟩ := HA1.out.nodes.form
  have r2 : w1.cell? ⟨rb, 2, none⟩ = some (.slice An V.vs.length cn) := by rw [HA1.out.blk.cell 2]; show some V.nv = _; rw [hnv]
  have hvb : V.vs.length ≤ 8192 := by have h1 : V.vs.length = st.nodes.length := HA1.out.rows.len; have := HF.out.nl; omega
  have hmI : (4096 : Int) < (V.vs.length : Int) + 2 := by have h1 : V.vs.length = st.nodes.length := HA1.out.rows.len; omega
  clear hnv hm
  go_wp2_with fail
  refine (rfail_any B rb skf 7 V s st _ HA2.out true HE.out).mono ?_
  rintro e w3 ⟨rfl, hb3, h3⟩
  have HB3 : Hid (Below B w w3) := Lib.hid ((HL1.out.mono hbase).trans (((below_drewN (Below.refl _ w1) n).mono (HA1.out.base)).trans hb3))
  have c8 : w3.cell? ⟨rb, 8, none⟩ = some (.int .i64 7) := h3.blk.cell 8
  have HA3 := Lib.hid h3
  clear hb3 x5 r2 h3
  go_wp2_with fail
  refine bodyPost_ret (v := .tuple #[]) (by simp [results, Tryd.results46, go_sem]) rfl ?_
  exact ⟨HB3.out, rfl, HA3.out⟩
set_option maxRecDepth 100000 in
set_option maxHeartbeats 40000000 in
theorem radd_ok (B rb par node : Nat) (V : PV) (s key text : Ini.Str) (st : Ini.St) (kind sf sz skf skt : Nat) (wh : Bool) (w : World) (h : RAt B V w rb s st) (hf : Fit st) (he : V.e_ = .int .i64 0)
    (hp : par < st.spans.length) (hpn : (st.spans[par]).node = node) (hn : node < st.nodes.length) (hk : Ini.keyIn st.nodes node key = false) (hm : ¬ st.nodes.length + 2 > 4096) :
    Calls Tryd.prog 46 #[.pointer (some ⟨rb, 0, none⟩), .int .i64 par, .string ⟨key.toArray⟩, .agg (ncells kind text), .agg (scells 0 0 0 sf sz skf skt wh)] w fun e w' => Below B w w' ∧ e = .returned (.tuple #[]) ∧ ∃ V', RAt B V' w' rb s (addSt st node par key kind text sf sz skf skt wh hn) ∧ V'.at_ = V.at_ ∧ V'.e_ = V.e_ := by
  have hne : st.nodes ≠ [] := by intro e; rw [e] at hn; simp at hn
  unfold ncells scells
  have HA := Lib.hid h
  have hbase := h.base
  have hrlt := h.blk.lt
  obtain ⟨A, c, nn, hsv, _, _, _⟩ := h.spanNode hp hpn
  have HSP := Lib.hid (fun (W : World) (hb : Below w.heap.size w W) => (h.later hb).spanNode hp hpn)
  have hpI : (par : Int) < (st.spans.length : Int) := by omega
  have HF := Lib.hid hf
  have HE := Lib.hid he
  have HK := Lib.hid hk
  have HSV := Lib.hid hsv
  clear h he hf hk hpn hsv
  go_enter Tryd.func46, Tryd.ntmps46
  obtain ⟨w1, hw1⟩ : ∃ w1, (w.alloc (.cells #[.int .i64 kind, .string ⟨text.toArray⟩, .bool false, .slice none 0 0, .slice none 0 0] 49)).alloc (.cells #[.int .i64 0, .int .i64 0, .int .i64 0, .int .i64 sf, .int .i64 sz, .int .i64 skf, .int .i64 skt, .bool false, .bool wh] 45) = w1 := ⟨_, rfl⟩
  have l1 : Below w.heap.size w w1 := by rw [← hw1]; exact ((Below.refl _ _).alloc (Nat.le_refl _) _).alloc (by simp) _
  have b9 : Blk w1 (w.heap.size + 1) 45 #[.int .i64 0, .int .i64 0, .int .i64 0, .int .i64 sf, .int .i64 sz, .int .i64 skf, .int .i64 skt, .bool false, .bool wh] := by
    rw [← hw1]
    have := Blk.new (w.alloc (.cells #[.int .i64 kind, .string ⟨text.toArray⟩, .bool false, .slice none 0 0, .slice none 0 0] 49)) 45 #[.int .i64 0, .int .i64 0, .int .i64 0, .int .i64 sf, .int .i64 sz, .int .i64 skf, .int .i64 skt, .bool false, .bool wh]
    rw [World.size_alloc] at this
    exact this
  obtain ⟨A2, c2, _, hsv2, _, g4, g0⟩ := HSP.out w1 l1
  rw [HSV.out] at hsv2
  injection hsv2 with e1 e2 e3
  injection e1 with e1
  subst e1
  subst e3
  have b8 : Blk w1 w.heap.size 49 #[.int .i64 kind, .string ⟨text.toArray⟩, .bool false, .slice none 0 0, .slice none 0 0] := by
    rw [← hw1]
    exact (Blk.new w 49 _).alloc _
  have HB8 := Lib.hid b8
  have HB9 := Lib.hid b9
  have HL1 := Lib.hid l1
  have HA1 := Lib.hid (HA.out.later l1)
  clear b8 b9 l1
  go_upto_region 1 with fail
  (try rw [hw1])
  clear hw1
  go_wp2_with fail
  refine (rfind_any B rb node V s key st _ HA1.out HF.out hn false HK.out).mono ?_
  rintro e w2 ⟨⟨n, rfl⟩, v, rfl, hv⟩
  have HA2 := Lib.hid (HA1.out.later (below_drewN (Below.refl _ w1) n))
  have hvl : V.vs.length = st.nodes.length := HA1.out.rows.len
  have hvb : V.vs.length ≤ 4094 := by omega
  have hmI : ¬ ((4096 : Int) < (V.vs.length : Int) + 2) := by omega
  have hmb : decide ((4096 : Int) < (V.vs.length : Int) + 2) = false := by simpa using hmI
  have hnv : node < V.vs.length := by omega
  have HVL := Lib.hid hvl
  obtain ⟨g, cap, rest, hv, hG⟩ := HA1.out.nodes.head (by intro e; rw [e] at hnv; simp at hnv)
  have r2 : w1.cell? ⟨rb, 2, none⟩ = some (.slice (some ⟨g, 0, none⟩) V.vs.length cap) := by rw [HA1.out.blk.cell 2]; show some V.nv = _; rw [hv]
  have c8 : w1.cell? ⟨rb, 8, none⟩ = some (.int .i64 0) := by rw [HA1.out.blk.cell 8]; show some V.e_ = _; rw [HE.out]
  have HM0 : Hid (RMid B V (w1.drewN n) rb s st w (ncells kind text) (scells 0 0 0 sf sz skf skt wh)) := Lib.hid ⟨HA2.out, HB8.out, HB9.out, (HL1.out.mono hbase).trans ((below_drewN (Below.refl _ w1) n).mono HA1.out.base), hbase, hrlt,
    fun e => by have := (HA.out.nodes.lt _ e).2; omega, fun e => by have := (HA.out.spans.lt _ e).2; omega⟩
  clear g4 g0 hm hvl hv hG
  go_upto_region 8 with fail
  go_cut [12] (fun s12 wx => s12 = .int .i64 V.vs.length ∧ RMid B V wx rb s st w (ncells kind text) (scells 0 0 0 sf sz skf skt wh))
  case first =>
    go_wp2_with fail
    go_meet
    exact ⟨rfl, HM0.out⟩
  case rest =>
    obtain ⟨rfl, hM⟩ := hcut
    clear HM0 r2 c8 HA2
    obtain ⟨g, cap, rest, hv, hG⟩ := hM.at_.nodes.head (by intro e; rw [e] at hnv; simp at hnv)
    have r2 : wc.cell? ⟨rb, 2, none⟩ = some (.slice (some ⟨g, 0, none⟩) V.vs.length cap) := by rw [hM.at_.blk.cell 2]; show some V.nv = _; rw [hv]
    have pf : ∀ i, wc.frozen? ⟨rb, i, none⟩ = false := hM.at_.blk.frozen
    have hpg : some rb ≠ some g := by intro e; injection e with e; exact Blk.ne_ hM.at_.blk hG (by decide) e
    have HOWN : Hid (OwnRow nodeL wc B 49 (.slice (some ⟨g, 0, none⟩) V.vs.length cap) V.vs) := Lib.hid (by rw [← hv]; exact hM.at_.nodes)
    have hbw := hM.baseX
    have HM := Lib.hid hM
    have HV := Lib.hid hv
    clear hM hv hG
    go_upto_region 9 with fail
    go_cut [12] (fun s12 wx => s12 = .int .i64 V.vs.length ∧ ∃ V1, RMid B V1 wx rb s { st with nodes := st.nodes ++ [⟨5, key, [], []⟩] } w (ncells kind text) (scells 0 0 0 sf sz skf skt wh) ∧
      Hid (V1.vs = V.vs ++ [⟨5, key, SV.nil, SV.nil⟩] ∧ V1.at_ = V.at_ ∧ V1.e_ = V.e_))
    case first =>
      go_wp2_with (at_builtin; go_must (refine wpList_append_row _ rfl (.tmp 60) (.tmp 63) 23 49 80 rfl nodeT B (.slice (some ⟨g, 0, none⟩) V.vs.length cap) V.vs rfl (HOWN.out.alloc _) _ _ 1 [⟨5, key, SV.nil, SV.nil⟩] rfl (RowAt.lit1 _ _ rfl _ ?_) ?_ ?_ ?_))
      any_goals (first | rfl | (simp; omega) | (rw [World.size_alloc]; omega))
      intro v' w2 hown2 hg2 hat2
      have hp2 := (HM.out.at_.blk.alloc _).grown hg2 hpg
      have pf2 : ∀ i, w2.frozen? ⟨rb, i, none⟩ = false := hp2.frozen
      have pc2 : w2.cell? ⟨rb, 2, none⟩ = some V.nv := hp2.cell 2
      obtain ⟨g3, cap3, rest3, hv3, _⟩ := hown2.head (by simp)
      obtain ⟨n3, hn3⟩ : ∃ n3, (V.vs ++ [(⟨5, key, SV.nil, SV.nil⟩ : NV)]).length = n3 := ⟨_, rfl⟩
      rw [hn3] at hv3
      subst hv3
      rw [show (Value.slice (some ⟨g, 0, none⟩) V.vs.length cap).ownBlock = V.nv.ownBlock from by rw [HV.out]] at hg2 hat2
      have HO2 := Lib.hid hown2
      have HG2 := Lib.hid hg2
      have HAT2 := Lib.hid hat2
      clear hown2 hg2 hat2 hp2 hn3
      go_wp2_with fail
      go_meet
      exact ⟨rfl, _, (HM.out.alloc _).appNodes HO2.out HG2.out (by rw [World.size_alloc]; exact HAT2.out), Lib.hid ⟨rfl, rfl, rfl⟩⟩
    case rest =>
      obtain ⟨rfl, V1, hM, HE1⟩ := hcut
      clear HM HV HOWN hbw pf r2 hpg
      obtain ⟨g, cap, rest, hv, hG⟩ := hM.at_.nodes.head (by rw [HE1.out.1]; simp)
      have r2 : wc.cell? ⟨rb, 2, none⟩ = some (.slice (some ⟨g, 0, none⟩) V1.vs.length cap) := by rw [hM.at_.blk.cell 2]; show some V1.nv = _; rw [hv]
      have pf : ∀ i, wc.frozen? ⟨rb, i, none⟩ = false := hM.at_.blk.frozen
      have hpg : some rb ≠ some g := by intro e; injection e with e; exact Blk.ne_ hM.at_.blk hG (by decide) e
      have HOWN : Hid (OwnRow nodeL wc B 49 (.slice (some ⟨g, 0, none⟩) V1.vs.length cap) V1.vs) := Lib.hid (by rw [← hv]; exact hM.at_.nodes)
      have hbw := hM.baseX
      have n0 : wc.cell? ⟨w.heap.size, 0, none⟩ = some (.int .i64 kind) := hM.b8.cell 0
      have n1 : wc.cell? ⟨w.heap.size, 1, none⟩ = some (.string ⟨text.toArray⟩) := hM.b8.cell 1
      have n2 : wc.cell? ⟨w.heap.size, 2, none⟩ = some (.bool false) := hM.b8.cell 2
      have n3 : wc.cell? ⟨w.heap.size, 3, none⟩ = some (.slice none 0 0) := hM.b8.cell 3
      have n4 : wc.cell? ⟨w.heap.size, 4, none⟩ = some (.slice none 0 0) := hM.b8.cell 4
      have e2 := World.new_ne wc _ r2
      have en0 := World.new_ne wc _ n0
      have en1 := World.new_ne wc _ n1
      have en2 := World.new_ne wc _ n2
      have en3 := World.new_ne wc _ n3
      have en4 := World.new_ne wc _ n4
      have hownA : OwnRow nodeL (wc.alloc (.cells #[.int .i64 kind, .string ⟨text.toArray⟩, .bool false, .slice none 0 0, .slice none 0 0] 49)).drew B 49 (.slice (some ⟨g, 0, none⟩) V1.vs.length cap) V1.vs := (HOWN.out.alloc _).drew
      have hlitA : RowAt nodeL (wc.alloc (.cells #[.int .i64 kind, .string ⟨text.toArray⟩, .bool false, .slice none 0 0, .slice none 0 0] 49)).drew (wc.heap.size + 1) (some ⟨wc.heap.size, 0, none⟩) [⟨kind, text, SV.nil, SV.nil⟩] := (RowAt.lit1 _ _ rfl _ rfl).drew
      have hlA : V1.vs.length + [(⟨kind, text, SV.nil, SV.nil⟩ : NV)].length ≤ 1073741824 := by rw [HE1.out.1]; simp only [List.length_append, List.length_cons, List.length_nil]; omega
      have hbA : B ≤ (wc.alloc (.cells #[.int .i64 kind, .string ⟨text.toArray⟩, .bool false, .slice none 0 0, .slice none 0 0] 49)).drew.heap.size := by simp; omega
      have pcA : (wc.alloc (.cells #[.int .i64 kind, .string ⟨text.toArray⟩, .bool false, .slice none 0 0, .slice none 0 0] 49)).cell? ⟨rb, 2, none⟩ = some (.slice (some ⟨g, 0, none⟩) V1.vs.length cap) := by
        rw [(hM.at_.blk.alloc (.cells #[.int .i64 kind, .string ⟨text.toArray⟩, .bool false, .slice none 0 0, .slice none 0 0] 49)).cell 2]
        show some V1.nv = _
        rw [hv]
      have HM := Lib.hid hM
      have HV := Lib.hid hv
      clear hM hv hG
      go_upto_region 10 with fail
      go_cut [12] (fun s12 wx => s12 = .int .i64 V.vs.length ∧ ∃ V2, RMid B V2 wx rb s { st with nodes := st.nodes ++ [⟨5, key, [], []⟩] ++ [⟨kind, text, [], []⟩] } w (ncells kind text) (scells 0 0 0 sf sz skf skt wh) ∧
        Hid (V2.vs = V.vs ++ [⟨5, key, SV.nil, SV.nil⟩] ++ [⟨kind, text, SV.nil, SV.nil⟩] ∧ V2.at_ = V.at_ ∧ V2.e_ = V.e_))
      case first =>
        go_region_law (refine step_append_row _ rfl (.tmp 71) (.tmp 73) 23 49 80 rfl nodeT B (.slice (some ⟨g, 0, none⟩) V1.vs.length cap) V1.vs rfl hownA _ _ 1 [⟨kind, text, SV.nil, SV.nil⟩] rfl hlitA hlA hbA ?_; intro v' w2 hown2 hg2 hat2; obtain ⟨g3, cap3, rest3, rfl, hG3⟩ := hown2.head (by simp); have pf2 : ∀ i, w2.frozen? ⟨rb, i, none⟩ = false := (((HM.out.at_.blk.alloc _).drew).grown hg2 hpg).frozen; have pc2 : w2.cell? ⟨rb, 2, none⟩ = some V1.nv := (((HM.out.at_.blk.alloc _).drew).grown hg2 hpg).cell 2; have HOW2 := Lib.hid hown2; have HG2 := Lib.hid hg2; have HAT2 := Lib.hid hat2; clear hown2 hg2 hat2 hG3)
        all_goals
          go_wp2_with fail
          go_meet
          have ho := HOW2.out
          have ha := HAT2.out
          have hlen : (V1.vs ++ [(⟨kind, text, SV.nil, SV.nil⟩ : NV)]).length = V1.vs.length + 1 := by simp
          rw [hlen] at ho ha
          have hg9 : (wc.alloc (.cells #[.int .i64 kind, .string ⟨text.toArray⟩, .bool false, .slice none 0 0, .slice none 0 0] 49)).drew.grownBy w2 V1.nv.ownBlock := by rw [HV.out]; exact HG2.out
          rw [show (Value.slice (some ⟨g, 0, none⟩) V1.vs.length cap).ownBlock = V1.nv.ownBlock from by rw [HV.out]] at ha
          exact ⟨rfl, _, ((HM.out.alloc (.cells #[.int .i64 kind, .string ⟨text.toArray⟩, .bool false, .slice none 0 0, .slice none 0 0] 49)).drew).appNodes ho hg9 ha, Lib.hid ⟨by rw [HE1.out.1], HE1.out.2.1, HE1.out.2.2⟩⟩
      case rest =>
        obtain ⟨rfl, V2, hM, HE2⟩ := hcut
        clear HM HV HOWN hbw pf r2 hpg n0 n1 n2 n3 n4 e2 en0 en1 en2 en3 en4 hownA hlitA hlA hbA pcA HE1
        have hvl2 : V2.vs.length = V.vs.length + 2 := by rw [HE2.out.1]; simp
        have hnv2 : node < V2.vs.length := by omega
        obtain ⟨NA, hNA⟩ : ∃ NA, st.nodes ++ [(⟨5, key, [], []⟩ : Ini.Nd)] ++ [⟨kind, text, [], []⟩] = NA := ⟨_, rfl⟩
        have hnl2 : node < NA.length := by rw [← hNA]; simp; omega
        have hnm : NA[node] = st.nodes[node] := by subst hNA; rw [List.getElem_append_left (by simp; omega), List.getElem_append_left hn]
        rw [hNA] at hM
        have HNA := Lib.hid hNA
        clear hNA
        obtain ⟨m, hm⟩ : ∃ m, st.nodes[node] = m := ⟨_, rfl⟩
        obtain ⟨x, hx⟩ : ∃ x, V2.vs[node] = x := ⟨_, rfl⟩
        obtain ⟨hK, hI⟩ := hM.keysOf hnv2 hnl2
        rw [hx] at hK hI
        have hnm2 : NA[node] = m := hnm.trans hm
        change OwnRow intL wc B 3 x.k.v NA[node].keys at hK
        change OwnRow intL wc B 3 x.i.v NA[node].items at hI
        rw [hnm2] at hK hI
        have hin : x.i.n = m.items.length := int_len hI
        have hil : m.items.length ≤ 4096 := by have := (HF.out.keys node hn).2.1; have := HF.out.nl; rw [hm] at *; omega
        have hkl : m.keys.length ≤ 4096 := by have := (HF.out.keys node hn).1; have := HF.out.nl; rw [hm] at *; omega
        obtain ⟨g, cap, rest, hv, hG⟩ := hM.at_.nodes.head (by intro e; rw [e] at hnv2; simp at hnv2)
        have r2 : wc.cell? ⟨rb, 2, none⟩ = some (.slice (some ⟨g, 0, none⟩) V2.vs.length cap) := by rw [hM.at_.blk.cell 2]; show some V2.nv = _; rw [hv]
        obtain ⟨_, _, _, c3, c4⟩ := node_cells hG node hnv2
        rw [hx] at c3 c4
        have s0 : wc.cell? ⟨w.heap.size + 1, 0, none⟩ = some (.int .i64 0) := hM.b9.cell 0
        have s1 : wc.cell? ⟨w.heap.size + 1, 1, none⟩ = some (.int .i64 0) := hM.b9.cell 1
        have s2 : wc.cell? ⟨w.heap.size + 1, 2, none⟩ = some (.int .i64 0) := hM.b9.cell 2
        have sf' : ∀ i, wc.frozen? ⟨w.heap.size + 1, i, none⟩ = false := hM.b9.frozen
        have hnI : (node : Int) < (V2.vs.length : Int) := by omega
        have HM := Lib.hid hM
        have HNM := Lib.hid hnm2
        have HMM := Lib.hid hm
        have HVL2 := Lib.hid hvl2
        clear hM hv hG hK hI hnm hnm2 hm hx hvl2
        go_upto_region 11 with fail
        go_cut [12] (fun s12 wx => s12 = .int .i64 V.vs.length ∧ RMid B V2 wx rb s { st with nodes := NA } w (ncells kind text) (scells ((V.vs.length : Int) + 1) par m.items.length sf sz skf skt wh))
        case first =>
          go_region
          all_goals
            go_wp2_with fail
            go_meet
            exact ⟨rfl, (((HM.out.setSpan 0 (.int .i64 ((V.vs.length : Int) + 1))).setSpan 1 (.int .i64 par)).setSpan 2 (.int .i64 m.items.length)).drew⟩
        case rest =>
          obtain ⟨rfl, hM⟩ := hcut
          rename_i hK0
          apply hK0
          exact radd_tail12 B rb par node V V2 s key text st kind sf sz skf skt wh w _ m hp hn HF hvb HVL HMM hil hkl hbase hrlt NA hnl2 HNM HVL2.out hnv2 HNA hM (Lib.hid ⟨HE2.out.2.1, HE2.out.2.2⟩) _ _ _ _ _ _ _ _ _ _ _ _ _ _ _ _ _ _ _ _ _ _ _ _ _ _ _ _ _ _ _ _ _ _ _ _ _ _ _ _ _ _ _ _ _ _ _ _ _ _ _ _ _ _ _ _ _ _ _ _ _ _ _ _ _ _ _ _ _ _ _ _ _ _ _ _ _ _ _ _ _ _ _ _ _ _ _ _ _ _ _ _ _ _ _ _ _ _ _ _ _ _ _ _ _ _ _ _ _ _ _ _ _ _ _ _ _ _ _ _ _ _ _ _ _ _ _ _
          end Go.Proofs.YtegdemnfjmaicaaDoor
