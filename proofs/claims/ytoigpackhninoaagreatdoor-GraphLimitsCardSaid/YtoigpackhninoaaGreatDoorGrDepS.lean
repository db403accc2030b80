/- The depth's walk: the rows of members, and plain parts. -/
import Derived.Test.YtoigpackhninoaaGreatDoorGrComp
namespace Go.Proofs.YtoigpackhninoaaGreatDoor
open Go.RowKit
theorem infoSl : (Tryz.prog.info? 33).map (fun i => (i.zero, i.size, i.bytes)) = some (some (.slice none 0 0), 1, 24) := by kernel_rfl
theorem make_slices (n : Nat) (hn : n ≤ 1073741824) (W : World) : (Instr.makeSlice 87 (.int .i64 (n : Int)) (.int .i64 (n : Int))).run Tryz.prog W = .ok (.slice (some ⟨W.heap.size, 0, none⟩) n n) (W.alloc (.cells (List.replicate n (Value.slice none 0 0)).toArray 33)) := by
  obtain ⟨i5, hi5, hz5, hs5, hby5⟩ := info_parts infoSl
  have := run_make_rowN (P := Tryz.prog) 87 33 i5 _ Tryz.underlying87 hi5 hz5 .i64 .i64 n n (Nat.le_refl _) (by rw [hby5]; omega) (by omega) W
  rw [hs5] at this
  simp only [Value.cells, madeCells_one] at this
  exact this
/-- a row of rows of the call's own. -/
structure Mems (w : World) (D rM : Nat) (mv : List Value) (ml : List (List Nat)) : Prop where
  blk : Blk w rM 33 mv.toArray
  lo : rM < D
  hd : D ≤ w.heap.size
  len : mv.length = ml.length
  own : ∀ c (h1 : c < mv.length) (h2 : c < ml.length), OwnRow intL w D 3 mv[c] ml[c]
  ap : ∀ c c' (h1 : c < mv.length) (h2 : c' < mv.length), c ≠ c' → ∀ k, mv[c].ownBlock = some k → mv[c'].ownBlock ≠ some k
section
variable {w w' w2 : World} {D rM : Nat} {mv : List Value} {ml : List (List Nat)}
theorem Mems.start {m : Nat} (hb : Blk w rM 33 (List.replicate m (Value.slice none 0 0)).toArray) (lo : rM < D) (hd : D ≤ w.heap.size) : Mems w D rM (List.replicate m (.slice none 0 0)) (List.replicate m []) :=
  ⟨hb, lo, hd, by simp, fun c h1 h2 => by simp only [List.getElem_replicate]; exact OwnRow.nil, fun c c' h1 h2 _ k e => by simp only [List.getElem_replicate] at e; cases e⟩
theorem Mems.later (h : Mems w D rM mv ml) (hb : Below w.heap.size w w') : Mems w' D rM mv ml :=
  ⟨h.blk.below hb h.blk.lt, h.lo, Nat.le_trans h.hd hb.size, h.len, fun c h1 h2 => (h.own c h1 h2).later hb, h.ap⟩
theorem Mems.alloc (h : Mems w D rM mv ml) (o : Obj) : Mems (w.alloc o) D rM mv ml := h.later ((Below.refl _ _).alloc (Nat.le_refl _) o)
/-- one block that is none of these is changed. -/
theorem Mems.kb {g : Nat} (h : Mems w D rM mv ml) (hk : KB g w w') (hg : g < D) (hne : g ≠ rM) : Mems w' D rM mv ml := by
  refine ⟨hk.blk h.blk (Ne.symm hne), h.lo, Nat.le_trans h.hd hk.size, h.len, fun c h1 h2 => ?_, h.ap⟩
  have ho := h.own c h1 h2
  have hlt := ho.lt
  refine ⟨ho.1, ho.2.imp id ?_⟩
  rintro ⟨g', cap, cur, hv, hge, hh, r⟩
  have e : mv[c].ownBlock = some g' := by rw [hv]; rfl
  have := hlt g' e
  exact ⟨g', cap, cur, hv, hge, (hk.block g' (by omega) (by omega)).trans hh, r⟩
/-- one row grows. -/
theorem Mems.grown (h : Mems w D rM mv ml) {c : Nat} (hc : c < mv.length) {v2 : Value} {l : List Nat} (ho : OwnRow intL w2 D 3 v2 l) (hg : w.grownBy w2 (mv[c]).ownBlock) (hat : v2.ownBlock = (mv[c]).ownBlock ∨ v2.ownBlock = some w.heap.size) :
    Mems (w2.setCell ⟨rM, c, none⟩ v2) D rM (mv.set c v2) (ml.set c l) := by
  have hcl : c < ml.length := by rw [← h.len]; exact hc
  have hlo := h.lo
  have hsz := hg.size
  have hb2 : Blk w2 rM 33 mv.toArray := h.blk.grown hg (fun e => by have := ((h.own c hc hcl).lt rM e.symm).1; omega)
  have hap : ∀ c' (h1 : c' < mv.length), c' ≠ c → ∀ k, v2.ownBlock = some k → mv[c'].ownBlock ≠ some k := by
    intro c' h1 hne k e e2
    rcases hat with h3 | h3
    · exact h.ap c' c h1 hc hne k e2 (h3.symm.trans e)
    · have := ((h.own c' h1 (by rw [← h.len]; exact h1)).lt k e2).2
      rw [h3] at e; injection e with e; omega
  refine ⟨?_, hlo, ?_, by simp [h.len], ?_, ?_⟩
  · have := hb2.set_ c v2
    simpa using this
  · have := h.hd; simp [World.setCell]; omega
  · intro c' h1 h2
    simp only [List.length_set] at h1 h2
    by_cases hcc : c' = c
    · subst hcc
      simp only [List.getElem_set_self]
      exact ho.setCell (p := ⟨rM, c', none⟩) (fun e => by have := (ho.lt _ e).1; simp only at this; omega) _
    · simp only [List.getElem_set_ne (Ne.symm hcc)]
      have h3 := h.own c' h1 h2
      have h4 := h3.off hg (fun k e e2 => h.ap c' c h1 hc hcc k e e2.symm)
      exact h4.setCell (p := ⟨rM, c, none⟩) (fun e => by have := (h3.lt _ e).1; simp only at this; omega) _
  · intro c1 c2 h1 h2 hne k e
    simp only [List.length_set] at h1 h2
    by_cases h3 : c1 = c
    · subst h3
      simp only [List.getElem_set_self] at e
      simp only [List.getElem_set_ne hne]
      exact hap c2 (by simpa using h2) (Ne.symm hne) k e
    · simp only [List.getElem_set_ne (Ne.symm h3)] at e
      by_cases h4 : c2 = c
      · subst h4
        simp only [List.getElem_set_self]
        exact fun e2 => hap c1 (by simpa using h1) h3 k e2 e
      · simp only [List.getElem_set_ne (Ne.symm h4)]
        exact h.ap c1 c2 h1 h2 hne k e
theorem Mems.grownKB {w4 : World} (h : Mems w D rM mv ml) (hk : KB rM w4 w) (hD : w4.heap.size = D) {c : Nat} (hc : c < mv.length) (v2 : Value) (hg : w.grownBy w2 (mv[c]).ownBlock) :
    KB rM w4 (w2.setCell ⟨rM, c, none⟩ v2) := by
  have hcl : c < ml.length := by rw [← h.len]; exact hc
  have hb : Below D w w2 := (h.own c hc hcl).grown_below hg h.hd
  refine KB.set ⟨hb.os.trans hk.os, hb.tape.trans hk.tape, hb.output.trans hk.output, Nat.le_trans hk.size hb.size, fun k h1 h2 => (hb.block k (by omega)).trans (hk.block k h1 h2)⟩ _ _
theorem Mems.at_ (h : Mems w D rM mv ml) {c : Nat} (hc : c < ml.length) : ∃ A cap, mv[c]? = some (.slice A (ml[c]).length cap) ∧ w.cell? ⟨rM, c, none⟩ = some (.slice A (ml[c]).length cap) ∧ RowAt intL w w.heap.size A ml[c] := by
  have hcv : c < mv.length := by rw [h.len]; exact hc
  obtain ⟨A, cap, hv, hr⟩ := (h.own c hcv hc).form
  refine ⟨A, cap, by rw [List.getElem?_eq_getElem hcv, hv], ?_, hr⟩
  rw [h.blk.cell]
  simp [List.getElem?_eq_getElem hcv, hv]
theorem Mems.row (h : Mems w D rM mv ml) {c : Nat} (hc : c < ml.length) {A : Option Addr} {n cap : Nat} (e : mv[c]? = some (.slice A n cap)) : RowAt intL w w.heap.size A ml[c] := by
  obtain ⟨A', cap', h1, _, h2⟩ := h.at_ hc
  rw [h1] at e
  injection e with e
  injection e with e _ _
  subst e
  exact h2
end
theorem members_succ (inn : Nat → Int) (i c : Nat) : Gr.members inn (i + 1) c = if inn i = (c : Int) then Gr.members inn i c ++ [i] else Gr.members inn i c := by
  unfold Gr.members
  rw [List.range_succ, List.filter_append]
  by_cases h : inn i = (c : Int) <;> simp [h]
def memsL (inn : Nat → Int) (i m : Nat) : List (List Nat) := (List.range m).map (fun c => Gr.members inn i c)
theorem memsL_len (inn : Nat → Int) (i m : Nat) : (memsL inn i m).length = m := by simp [memsL]
theorem memsL_zero (inn : Nat → Int) (m : Nat) : memsL inn 0 m = List.replicate m [] := by
  unfold memsL
  apply List.ext_getElem
  · simp
  · intro i h1 h2; simp [Gr.members]
theorem memsL_get (inn : Nat → Int) (i m c : Nat) (h : c < (memsL inn i m).length) : (memsL inn i m)[c] = Gr.members inn i c := by simp [memsL]
theorem memsL_succ (inn : Nat → Int) (i m c : Nat) (h : inn i = (c : Int)) : memsL inn (i + 1) m = (memsL inn i m).set c (Gr.members inn i c ++ [i]) := by
  apply List.ext_getElem
  · simp [memsL]
  · intro k h1 h2
    rw [memsL_get, members_succ]
    by_cases hk : k = c
    · subst hk
      rw [List.getElem_set_self, if_pos h]
    · rw [List.getElem_set_ne (Ne.symm hk), if_neg (by omega), memsL_get]
theorem members_len (inn : Nat → Int) (i c : Nat) : (Gr.members inn i c).length ≤ i := by
  unfold Gr.members
  exact Nat.le_trans (List.length_filter_le _ _) (by simp)
theorem members_lt (inn : Nat → Int) (n c : Nat) : ∀ x ∈ Gr.members inn n c, x < n := by
  intro x hx
  unfold Gr.members at hx
  exact List.mem_range.1 (List.mem_filter.1 hx).1
/-- the numbers stay small. -/
def Sml (M : Nat) (p : List Nat × Bool) : Prop := ∀ k, p.1.getD k 0 ≤ M
theorem Sml.step {M : Nat} {inn : Nat → Int} {c : Nat} {p : List Nat × Bool} (h : Sml M p) (x : Nat) : Sml M (Gr.dstep inn c p x) := by
  unfold Gr.dstep
  split
  · exact h
  · intro k
    show (p.1.set c _).getD k 0 ≤ M
    by_cases hk : c = k
    · subst hk
      by_cases hl : c < p.1.length
      · rw [Gr.getD_set_self _ _ _ _ hl]
        have := h c; have := h (inn x).toNat; omega
      · rw [List.set_eq_of_length_le (by omega)]; exact h c
    · rw [Gr.getD_set_ne _ _ _ _ _ hk]; exact h k
theorem Sml.fold {M : Nat} {inn : Nat → Int} {c : Nat} (L : List Nat) : ∀ {p : List Nat × Bool}, Sml M p → Sml M (L.foldl (Gr.dstep inn c) p) := by
  induction L with
  | nil => intro p h; exact h
  | cons x L ih => intro p h; rw [List.foldl_cons]; exact ih (h.step x)
theorem Sml.foldM {M : Nat} {inn : Nat → Int} {c : Nat} (sc : Nat → List Nat) (L : List Nat) : ∀ {p : List Nat × Bool}, Sml M p → Sml M (L.foldl (fun p i => (sc i).foldl (Gr.dstep inn c) p) p) := by
  induction L with
  | nil => intro p h; exact h
  | cons x L ih => intro p h; rw [List.foldl_cons]; exact ih (h.fold _)
theorem dstep_len (inn : Nat → Int) (c : Nat) (p : List Nat × Bool) (x : Nat) : (Gr.dstep inn c p x).1.length = p.1.length := by
  unfold Gr.dstep; split <;> simp
theorem dfold_len (inn : Nat → Int) (c : Nat) (L : List Nat) : ∀ p : List Nat × Bool, (L.foldl (Gr.dstep inn c) p).1.length = p.1.length := by
  induction L with
  | nil => intro p; rfl
  | cons x L ih => intro p; rw [List.foldl_cons, ih, dstep_len]
theorem dfoldM_len (inn : Nat → Int) (c : Nat) (sc : Nat → List Nat) (L : List Nat) : ∀ p : List Nat × Bool, (L.foldl (fun p i => (sc i).foldl (Gr.dstep inn c) p) p).1.length = p.1.length := by
  induction L with
  | nil => intro p; rfl
  | cons x L ih => intro p; rw [List.foldl_cons, ih, dfold_len]
theorem dcomp_len (sc : Nat → List Nat) (inn : Nat → Int) (n : Nat) (sizes : List Nat) (p : List Nat × Bool) (c : Nat) : (Gr.dcomp sc inn n sizes p c).1.length = p.1.length := by
  unfold Gr.dcomp; simp [dfoldM_len]
theorem dcomps_len (sc : Nat → List Nat) (inn : Nat → Int) (n : Nat) (sizes : List Nat) (L : List Nat) : ∀ p : List Nat × Bool, (L.foldl (Gr.dcomp sc inn n sizes) p).1.length = p.1.length := by
  induction L with
  | nil => intro p; rfl
  | cons x L ih => intro p; rw [List.foldl_cons, ih, dcomp_len]
theorem Sml.comp {M N : Nat} {sc : Nat → List Nat} {inn : Nat → Int} {n : Nat} {sizes : List Nat} {p : List Nat × Bool} (h : Sml M p) (c : Nat) (hN : ∀ k, sizes.getD k 0 ≤ N) : Sml (M + N) (Gr.dcomp sc inn n sizes p c) := by
  unfold Gr.dcomp
  have h1 := h.foldM (inn := inn) (c := c) sc (Gr.members inn n c)
  obtain ⟨q, hq⟩ : ∃ q, (Gr.members inn n c).foldl (fun p i => (sc i).foldl (Gr.dstep inn c) p) p = q := ⟨_, rfl⟩
  rw [hq] at h1
  rw [hq]
  intro k
  show (q.1.set c _).getD k 0 ≤ _
  have := h1 k
  by_cases hk : c = k
  · subst hk
    by_cases hl : c < q.1.length
    · rw [Gr.getD_set_self _ _ _ _ hl]; have := hN c; omega
    · rw [List.set_eq_of_length_le (by omega)]; omega
  · rw [Gr.getD_set_ne _ _ _ _ _ hk]; omega
theorem Sml.comps {N : Nat} {sc : Nat → List Nat} {inn : Nat → Int} {n : Nat} {sizes : List Nat} {p : List Nat × Bool} (h : Sml 0 p) (hN : ∀ k, sizes.getD k 0 ≤ N) (k : Nat) : Sml (k * N) ((List.range k).foldl (Gr.dcomp sc inn n sizes) p) := by
  induction k with
  | zero => simpa using h
  | succ k ih =>
    rw [List.range_succ, List.foldl_append, Nat.add_mul, Nat.one_mul]
    exact ih.comp k hN
end Go.Proofs.YtoigpackhninoaaGreatDoor
