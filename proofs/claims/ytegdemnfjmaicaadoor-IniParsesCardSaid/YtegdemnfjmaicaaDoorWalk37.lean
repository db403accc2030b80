/- Walks: the reference's find. -/
import Derived.Test.YtegdemnfjmaicaaDoorWalk36
import Derived.Test.YtegdemnfjmaicaaDoorWalk29
import Derived.Test.YtegdemnfjmaicaaDoorAdd
namespace Go.Proofs.YtegdemnfjmaicaaDoor
open Go.RowKit
def FPost' (w : World) (b : Bool) (e : Ending) (w' : World) : Prop := (∃ n, w' = w.drewN n) ∧ ∃ v : Int, e = .returned (.int .i64 v) ∧ decide (0 ≤ v) = b
set_option maxRecDepth 100000 in
set_option maxHeartbeats 4000000 in
theorem rfind_any (B rb node : Nat) (V : PV) (s : Ini.Str) (key : List UInt8) (st : Ini.St) (w : World) (h : RAt B V w rb s st) (hf : Fit st) (hn : node < st.nodes.length) (b : Bool) (hb : Ini.keyIn st.nodes node key = b) :
    Calls Tryd.prog 54 #[.pointer (some ⟨rb, 0, none⟩), .int .i64 node, .string ⟨key.toArray⟩] w (FPost' w b) := by
  obtain ⟨A, c, hnv, hg⟩ := GAt.of_rows h.nodes h.rows
  have hvl := hg.len
  have r2 : w.cell? ⟨rb, 2, none⟩ = some (.slice A V.vs.length c) := by rw [h.blk.cell 2]; show some V.nv = _; rw [hnv]
  have hnv' : node < V.vs.length := by omega
  obtain ⟨ad, rfl, _, c0, c1, c2, c3, c4⟩ := node_at hg.row hnv'
  obtain ⟨x, hx⟩ : ∃ x, V.vs[node] = x := ⟨_, rfl⟩
  obtain ⟨m, hm⟩ : ∃ m, st.nodes[node] = m := ⟨_, rfl⟩
  obtain ⟨na, nb, _, _⟩ := hg.nums node hnv' hn
  rw [hx, hm] at na nb
  rw [hx, nb] at c3
  have hkb := (hf.keys node hn).1
  rw [hm] at hkb
  have hnl := hf.nl
  have HKA : Hid (∀ k ∈ m.keys, k < st.nodes.length) := Lib.hid (by have := (hf.keys node hn).2.2; rw [hm] at this; exact this)
  have HG := Lib.hid hg
  have HNA := Lib.hid na
  have HM := Lib.hid hm
  have HB := Lib.hid hb
  have HVL := Lib.hid hvl
  have hnI : (node : Int) < (V.vs.length : Int) := by omega
  clear h hg na nb hx hm hb hvl c0 c1 c2 c4 hnv
  go_enter Tryd.func54, Tryd.ntmps54
  go_wp2_with fail
  go_loopw [8] (fun s8 wr => ∃ k n : Nat, k ≤ m.keys.length ∧ s8 = .int .i64 k ∧ wr = w.drewN n ∧ Hid (∀ j (h : j < m.keys.length), j < k → Ini.textAt st.nodes m.keys[j] ≠ some key)) (fun s8 _ => m.keys.length - (intOf s8).toNat)
  case atStart => exact ⟨0, 0, by omega, rfl, rfl, Lib.hid (fun j h h2 => by omega)⟩
  case round =>
    obtain ⟨k, n, hk, rfl, rfl, hno⟩ := hrel
    by_cases hlt : k < m.keys.length
    · have hltI : (k : Int) < (m.keys.length : Int) := by omega
      obtain ⟨ka, hka, _, kc⟩ := int_at HNA.out hlt
      rw [hka]
      obtain ⟨ki, hki⟩ : ∃ ki, m.keys[k] = ki := ⟨_, rfl⟩
      have hkn : ki < st.nodes.length := HKA.out ki (by rw [← hki]; exact List.getElem_mem _)
      have hkv : ki < V.vs.length := by have := HVL.out; omega
      rw [hki] at kc
      obtain ⟨ad2, hd2, _, _, g1, _⟩ := node_at HG.out.row hkv
      injection hd2 with hd2
      subst hd2
      rw [(HG.out.kind ki hkv hkn).2] at g1
      have hta : Ini.textAt st.nodes ki = some (st.nodes[ki]).text := by unfold Ini.textAt; rw [List.getElem?_eq_getElem hkn]; rfl
      obtain ⟨u, hu⟩ : ∃ u : List UInt8, (st.nodes[ki]).text = u := ⟨_, rfl⟩
      rw [hu] at g1 hta
      have HTA := Lib.hid hta
      have HKI := Lib.hid hki
      have hkvI : (ki : Int) < (V.vs.length : Int) := by omega
      clear hta hki hu hka
      by_cases hxu : u = key
      · have t1 : ((⟨u.toArray⟩ : ByteArray) == ⟨key.toArray⟩) = true := by
          show (u.toArray == key.toArray) = true
          rw [hxu, beq_self_eq_true]
        have t2 : (u == key) = true := by rw [hxu]; simp
        have HT : Hid (b = true) := Lib.hid (by
          rw [← HB.out]
          exact keyIn_yes hn HM.out ki (by rw [← HKI.out]; exact List.getElem_mem _) (by rw [HTA.out, hxu]))
        clear hxu
        go_wp2_with fail
        go_quiet (fail)
        go_wp2_with fail
        all_goals (try go_ret)
        all_goals exact ⟨⟨_, by first | rfl | rw [World.drewN_drewN]⟩, (k : Int), rfl, by rw [HT.out]; simp⟩
      · have t1 : ((⟨u.toArray⟩ : ByteArray) == ⟨key.toArray⟩) = false := by
          show (u.toArray == key.toArray) = false
          rw [beq_eq_false_iff_ne]
          exact fun e => hxu (List.toArray_inj e)
        have t2 : (u == key) = false := by simpa using hxu
        have HXU := Lib.hid hxu
        clear hxu
        go_wp2_with fail
        go_quiet (fail)
        go_wp2_with fail
        go_roundw
        case rel => exact ⟨k + 1, _, by omega, by go_num, rfl, Lib.hid (fun j h h2 => by
          by_cases e : j = k
          · subst e; rw [HKI.out, HTA.out]; exact fun e2 => HXU.out (by injection e2)
          · exact hno.out j h (by omega))⟩
        case measure => simp [intOf]; omega
    · have hltI : ¬ ((k : Int) < (m.keys.length : Int)) := by omega
      have HT : Hid (b = false) := Lib.hid (by
        rw [← HB.out]
        exact keyIn_no hn HM.out (fun k2 hk2 => by
          obtain ⟨j, hj, rfl⟩ := List.mem_iff_getElem.1 hk2
          exact hno.out j hj (by omega)))
      clear hno
      go_wp2_with fail
      go_ret
      exact ⟨⟨_, rfl⟩, -1, rfl, by rw [HT.out]; rfl⟩
/-! the steps of an entry's addition -/
section
variable {B : Nat} {V : PV} {w w2 : World} {rb : Nat} {s : Ini.Str} {st : Ini.St}
theorem RAt.appNodes (h : RAt B V w rb s st) {v' : Value} {kind : Nat} {text : Ini.Str} (hown : OwnRow nodeL w2 B 49 v' (V.vs ++ [⟨kind, text, SV.nil, SV.nil⟩])) (hg : w.grownBy w2 V.nv.ownBlock) :
    RAt B { V with nv := v', vs := V.vs ++ [⟨kind, text, SV.nil, SV.nil⟩] } (w2.setCell ⟨rb, 2, none⟩ v') rb s { st with nodes := st.nodes ++ [⟨kind, text, [], []⟩] } := by
  have hp2 : Blk w2 rb 74 _ := h.blk.grown hg (fun e => own_blk_ne h.nodes h.blk (by decide) e.symm)
  have hp3 := hp2.set_ 2 v'
  have kT : ∀ t, t ≠ 49 → t ≠ 74 → KeptT t w (w2.setCell ⟨rb, 2, none⟩ v') := fun t h1 h2 =>
    (KeptT.grown hg h.nodes (fun e => h1 e.symm)).trans (KeptT.setCell (p := ⟨rb, 2, none⟩) hp2 h2 _)
  refine ⟨h.le, ?_, hp3, ?_, h.spans.kept (kT _ (by decide) (by decide)), h.notes.kept (kT _ (by decide) (by decide)), (h.rows.snoc kind text).kept (kT _ (by decide) (by decide))⟩
  · have := h.base; have := hg.size; rw [setCell_size]; omega
  · exact hown.kept (KeptT.setCell (p := ⟨rb, 2, none⟩) hp2 (by decide) _)
theorem RAt.appSpans (h : RAt B V w rb s st) {v' : Value} {l : List Ini.Sp} (hown : OwnRow spanL w2 B 45 v' l) (hg : w.grownBy w2 V.sv.ownBlock) :
    RAt B { V with sv := v' } (w2.setCell ⟨rb, 4, none⟩ v') rb s { st with spans := l } := by
  have hp2 : Blk w2 rb 74 _ := h.blk.grown hg (fun e => own_blk_ne h.spans h.blk (by decide) e.symm)
  have hp3 := hp2.set_ 4 v'
  have kT : ∀ t, t ≠ 45 → t ≠ 74 → KeptT t w (w2.setCell ⟨rb, 4, none⟩ v') := fun t h1 h2 =>
    (KeptT.grown hg h.spans (fun e => h1 e.symm)).trans (KeptT.setCell (p := ⟨rb, 4, none⟩) hp2 h2 _)
  refine ⟨h.le, ?_, hp3, h.nodes.kept (kT _ (by decide) (by decide)), ?_, h.notes.kept (kT _ (by decide) (by decide)), h.rows.kept (kT _ (by decide) (by decide))⟩
  · have := h.base; have := hg.size; rw [setCell_size]; omega
  · exact hown.kept (KeptT.setCell (p := ⟨rb, 4, none⟩) hp2 (by decide) _)
theorem RAt.appNotes (h : RAt B V w rb s st) {v' : Value} {l : List Ini.Note} (hown : OwnRow noteL w2 B 54 v' l) (hg : w.grownBy w2 V.tv.ownBlock) :
    RAt B { V with tv := v' } (w2.setCell ⟨rb, 5, none⟩ v') rb s { st with notes := l } := by
  have hp2 : Blk w2 rb 74 _ := h.blk.grown hg (fun e => own_blk_ne h.notes h.blk (by decide) e.symm)
  have hp3 := hp2.set_ 5 v'
  have kT : ∀ t, t ≠ 54 → t ≠ 74 → KeptT t w (w2.setCell ⟨rb, 5, none⟩ v') := fun t h1 h2 =>
    (KeptT.grown hg h.notes (fun e => h1 e.symm)).trans (KeptT.setCell (p := ⟨rb, 5, none⟩) hp2 h2 _)
  refine ⟨h.le, ?_, hp3, h.nodes.kept (kT _ (by decide) (by decide)), h.spans.kept (kT _ (by decide) (by decide)), ?_, h.rows.kept (kT _ (by decide) (by decide))⟩
  · have := h.base; have := hg.size; rw [setCell_size]; omega
  · exact hown.kept (KeptT.setCell (p := ⟨rb, 5, none⟩) hp2 (by decide) _)
theorem RAt.growKeys (h : RAt B V w rb s st) {node k : Nat} (hn : node < V.vs.length) (hn2 : node < st.nodes.length) {y : SV} {g cap : Nat} (hv : V.nv = .slice (some ⟨g, 0, none⟩) V.vs.length cap)
    (hown : OwnRow intL w2 B 3 y.v (st.nodes[node].keys ++ [k])) (hg : w.grownBy w2 V.vs[node].k.v.ownBlock) (hat : y.v.ownBlock = V.vs[node].k.v.ownBlock ∨ y.v.ownBlock = some w.heap.size) :
    RAt B { V with vs := V.vs.set node { V.vs[node] with k := y } } (w2.setCell ⟨g, node * 5 + 3, none⟩ y.v) rb s { st with nodes := st.nodes.set node { st.nodes[node] with keys := st.nodes[node].keys ++ [k] } } := by
  obtain ⟨g', cap', rest, hv', _, hG, _, hback⟩ := h.nodes.row (by intro e; rw [e] at hn; simp at hn)
  rw [hv] at hv'
  obtain ⟨rfl, rfl⟩ : g = g' ∧ cap = cap' := by
    simp only [Value.slice.injEq, Option.some.injEq, Addr.mk.injEq, and_true, true_and] at hv'
    exact hv'
  have e1 : ints V.vs node false = V.vs[node].k := by unfold ints; rw [List.getElem?_eq_getElem hn]; rfl
  have e1' : ints V.vs node true = V.vs[node].i := by unfold ints; rw [List.getElem?_eq_getElem hn]; rfl
  have e2' : intsOf st.nodes node true = st.nodes[node].items := by unfold intsOf; rw [List.getElem?_eq_getElem hn2]; rfl
  have hi := h.rows.own node false
  rw [e1] at hi
  have k2 : ∀ t, t ≠ 3 → KeptT t w w2 := fun t ht => KeptT.grown hg hi (fun e => ht e.symm)
  have hG2 : Blk w2 g 49 (nodeL.all V.vs ++ rest).toArray := k2 49 (by decide) _ _ hG
  have hG3 := blk_cell nodeL hG2 node 3 { V.vs[node] with k := y } y.v hn (by decide) rfl
  have k3 : ∀ t, t ≠ 49 → KeptT t w2 (w2.setCell ⟨g, node * 5 + 3, none⟩ y.v) := fun t ht => KeptT.setCell (p := ⟨g, node * 5 + 3, none⟩) hG2 ht _
  refine ⟨h.le, ?_, (k2 74 (by decide)).trans (k3 74 (by decide)) _ _ h.blk, ?_, h.spans.kept ((k2 _ (by decide)).trans (k3 _ (by decide))), h.notes.kept ((k2 _ (by decide)).trans (k3 _ (by decide))), ?_⟩
  · have := h.base; have := hg.size; rw [setCell_size]; omega
  · have := hback (w2.setCell ⟨g, node * 5 + 3, none⟩ y.v) (V.vs.set node { V.vs[node] with k := y }) (by simp) hG3
    exact this
  · exact (Rows.grow h.rows node false { V.vs[node] with k := y } { st.nodes[node] with keys := st.nodes[node].keys ++ [k] } hn ⟨rfl, rfl⟩ ⟨rfl, rfl⟩ e1'.symm e2'.symm hown (by rw [e1]; exact hg) (by rw [e1]; exact hat)).kept (k3 3 (by decide))
theorem RAt.growItems (h : RAt B V w rb s st) {node k : Nat} (hn : node < V.vs.length) (hn2 : node < st.nodes.length) {y : SV} {g cap : Nat} (hv : V.nv = .slice (some ⟨g, 0, none⟩) V.vs.length cap)
    (hown : OwnRow intL w2 B 3 y.v (st.nodes[node].items ++ [k])) (hg : w.grownBy w2 V.vs[node].i.v.ownBlock) (hat : y.v.ownBlock = V.vs[node].i.v.ownBlock ∨ y.v.ownBlock = some w.heap.size) :
    RAt B { V with vs := V.vs.set node { V.vs[node] with i := y } } (w2.setCell ⟨g, node * 5 + 4, none⟩ y.v) rb s { st with nodes := st.nodes.set node { st.nodes[node] with items := st.nodes[node].items ++ [k] } } := by
  obtain ⟨g', cap', rest, hv', _, hG, _, hback⟩ := h.nodes.row (by intro e; rw [e] at hn; simp at hn)
  rw [hv] at hv'
  obtain ⟨rfl, rfl⟩ : g = g' ∧ cap = cap' := by
    simp only [Value.slice.injEq, Option.some.injEq, Addr.mk.injEq, and_true, true_and] at hv'
    exact hv'
  have e1 : ints V.vs node true = V.vs[node].i := by unfold ints; rw [List.getElem?_eq_getElem hn]; rfl
  have e1' : ints V.vs node false = V.vs[node].k := by unfold ints; rw [List.getElem?_eq_getElem hn]; rfl
  have e2' : intsOf st.nodes node false = st.nodes[node].keys := by unfold intsOf; rw [List.getElem?_eq_getElem hn2]; rfl
  have hi := h.rows.own node true
  rw [e1] at hi
  have k2 : ∀ t, t ≠ 3 → KeptT t w w2 := fun t ht => KeptT.grown hg hi (fun e => ht e.symm)
  have hG2 : Blk w2 g 49 (nodeL.all V.vs ++ rest).toArray := k2 49 (by decide) _ _ hG
  have hG3 := blk_cell nodeL hG2 node 4 { V.vs[node] with i := y } y.v hn (by decide) rfl
  have k3 : ∀ t, t ≠ 49 → KeptT t w2 (w2.setCell ⟨g, node * 5 + 4, none⟩ y.v) := fun t ht => KeptT.setCell (p := ⟨g, node * 5 + 4, none⟩) hG2 ht _
  refine ⟨h.le, ?_, (k2 74 (by decide)).trans (k3 74 (by decide)) _ _ h.blk, ?_, h.spans.kept ((k2 _ (by decide)).trans (k3 _ (by decide))), h.notes.kept ((k2 _ (by decide)).trans (k3 _ (by decide))), ?_⟩
  · have := h.base; have := hg.size; rw [setCell_size]; omega
  · have := hback (w2.setCell ⟨g, node * 5 + 4, none⟩ y.v) (V.vs.set node { V.vs[node] with i := y }) (by simp) hG3
    exact this
  · exact (Rows.grow h.rows node true { V.vs[node] with i := y } { st.nodes[node] with items := st.nodes[node].items ++ [k] } hn ⟨rfl, rfl⟩ ⟨rfl, rfl⟩ e1'.symm e2'.symm hown (by rw [e1]; exact hg) (by rw [e1]; exact hat)).kept (k3 3 (by decide))
end
end Go.Proofs.YtegdemnfjmaicaaDoor
