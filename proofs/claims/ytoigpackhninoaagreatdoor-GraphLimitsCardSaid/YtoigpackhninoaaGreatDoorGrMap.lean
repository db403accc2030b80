/- A map of slices of ints, keyed by steps (two cells: an int and a string), of the call's own. -/
import Derived.Test.YtoigpackhninoaaGreatDoorGrInd
import Derived.Laws.StructEq
import Derived.MapKept
namespace Go.Proofs.YtoigpackhninoaaGreatDoor
open Go.RowKit
abbrev SK := Int × Gr.Str
def skv (k : SK) : Value := .agg #[.int .i64 k.1, .string ⟨k.2.toArray⟩]
theorem skv_inj {a b : SK} (h : skv a = skv b) : a = b := by
  unfold skv at h
  injection h with h
  simp at h
  exact Prod.ext h.1 h.2
theorem sk_fields : (Tryz.prog.fieldsOf 91).toList.map (fun f => (f.name, f.type, f.offset)) = [("Index", 3, 0), ("Key", 9, 1)] := by kernel_rfl
theorem sk_und : Tryz.prog.underlying 91 = some (.struct (Tryz.prog.fieldsOf 91)) := by kernel_rfl
theorem sk_stood : Tryz.prog.stoodInHeld 91 = false := by kernel_rfl
theorem sk_plainI : Tryz.prog.plainKey 3 = true := by kernel_rfl
theorem sk_plainS : Tryz.prog.plainKey 9 = true := by kernel_rfl
theorem sk_eq (a b : SK) (w : World) : (Op.equal 91 (skv a) (skv b)).run Tryz.prog w = .ok (a == b) w := by
  unfold Op.equal Op.maxDepth skv
  rw [run_equalIn_struct w 9999 91 _ _ sk_und sk_stood]
  have hf := sk_fields
  obtain ⟨fs, hfs⟩ : ∃ fs, (Tryz.prog.fieldsOf 91).toList = fs := ⟨_, rfl⟩
  rw [hfs] at hf ⊢
  obtain ⟨f, g, rfl⟩ : ∃ f g, fs = [f, g] := by
    rcases fs with _ | ⟨f, _ | ⟨g, _ | ⟨h, r⟩⟩⟩
    · simp at hf
    · simp at hf
    · exact ⟨f, g, rfl⟩
    · simp at hf
  simp only [List.map_cons, List.map_nil, List.cons.injEq, Prod.mk.injEq, and_true] at hf
  obtain ⟨⟨f1, f2, f3⟩, g1, g2, g3⟩ := hf
  simp only [Op.eqFields, f1, g1, f2, g2, f3, g3]
  have p1 : ∀ (x y : Value), (part 3 #[x, y] 0).run Tryz.prog w = .ok x w := fun x y => run_part_plain w sk_plainI rfl
  have p2 : ∀ (x y : Value), (part 9 #[x, y] 1).run Tryz.prog w = .ok y w := fun x y => run_part_plain w sk_plainS rfl
  have e : (a == b) = ((a.1 == b.1) && (a.2 == b.2)) := rfl
  have e2 : ((⟨a.2.toArray⟩ : ByteArray).toList == (⟨b.2.toArray⟩ : ByteArray).toList) = (a.2 == b.2) := by rw [ByteArray.toList_eq, ByteArray.toList_eq]
  rw [e]
  simp [p1, p2, run_equalIn_int w 9998 3 .i64 .i64 a.1 b.1 Tryz.underlying3, run_equalIn_string w 9998 9 _ _ Tryz.underlying9]
  by_cases h : a.1 = b.1 <;> by_cases h2 : a.2 = b.2 <;> simp [h, h2]
/-- the entries: the i-th group's key, its stamp i, and its slice. -/
def ment (gl : List (SK × List Nat)) (vs : List Value) (i : Nat) : MapEntry := ⟨skv (gl.getD i ((0, []), [])).1, vs.getD i .nilFunc, i⟩
structure MapAt (w : World) (D b : Nat) (gl : List (SK × List Nat)) (vs : List Value) (es : Array MapEntry) : Prop where
  blk : w.heap[b]? = some (.map es gl.length)
  lv : vs.length = gl.length
  le : es.size = gl.length
  at_ : ∀ i (h : i < es.size) (h1 : i < gl.length) (h2 : i < vs.length), es[i] = ⟨skv gl[i].1, vs[i], i⟩
  own : ∀ i (h1 : i < vs.length) (h2 : i < gl.length), OwnRow intL w D 3 vs[i] gl[i].2
  ap : ∀ i j (h1 : i < vs.length) (h2 : j < vs.length), i ≠ j → ∀ k, vs[i].ownBlock = some k → vs[j].ownBlock ≠ some k
  nd : (gl.map (·.1)).Nodup
  lo : b < D
  hd : D ≤ w.heap.size
theorem sk_checkN (em : Bool) (n : Nat) (k : SK) (w : World) : (Instr.checkKey em (n + 1 + 1) 91 (skv k)).run Tryz.prog w = .ok () w := by
  unfold skv
  have hf := sk_fields
  have p1 : ∀ (x y : Value), (part 3 #[x, y] 0).run Tryz.prog w = .ok x w := fun x y => run_part_plain w sk_plainI rfl
  have p2 : ∀ (x y : Value), (part 9 #[x, y] 1).run Tryz.prog w = .ok y w := fun x y => run_part_plain w sk_plainS rfl
  have c1 : ∀ (x : Int), (Instr.checkKey em (n + 1) 3 (.int .i64 x)).run Tryz.prog w = .ok () w := fun x => by simp [Instr.checkKey, run_underlying Tryz.underlying3]
  have c2 : ∀ (x : ByteArray), (Instr.checkKey em (n + 1) 9 (.string x)).run Tryz.prog w = .ok () w := fun x => by simp [Instr.checkKey, run_underlying Tryz.underlying9]
  generalize hn : n + 1 = m at c1 c2
  rw [Instr.checkKey]
  simp only [Sem.run_bind, run_underlying sk_und, Result.andThen_ok]
  rw [← Array.forIn_toList]
  obtain ⟨fs, hfs⟩ : ∃ fs, (Tryz.prog.fieldsOf 91).toList = fs := ⟨_, rfl⟩
  rw [hfs] at hf ⊢
  obtain ⟨f, g, rfl⟩ : ∃ f g, fs = [f, g] := by
    rcases fs with _ | ⟨f, _ | ⟨g, _ | ⟨h, r⟩⟩⟩
    · simp at hf
    · simp at hf
    · exact ⟨f, g, rfl⟩
    · simp at hf
  simp only [List.map_cons, List.map_nil, List.cons.injEq, Prod.mk.injEq, and_true] at hf
  obtain ⟨⟨f1, f2, f3⟩, g1, g2, g3⟩ := hf
  simp [List.forIn_cons, f1, f2, f3, g1, g2, g3, p1, p2, c1, c2]
theorem sk_check (em : Bool) (k : SK) (w : World) : (Instr.checkKey em 10000 91 (skv k)).run Tryz.prog w = .ok () w := sk_checkN em 9998 k w
theorem sk_ask (k : SK) (W : World) : ∀ (gl : List (SK × List Nat)) (vs : List Value) (es : List MapEntry) (m : Nat), es.length = gl.length → vs.length = gl.length → (∀ i (h : i < es.length) (h1 : i < gl.length) (h2 : i < vs.length), es[i].key = skv gl[i].1 ∧ es[i].val = vs[i]) →
    (∃ j, ∃ (h1 : j < gl.length) (h2 : j < vs.length), gl[j].1 = k ∧ (Instr.findAsking 91 (skv k) es m).run Tryz.prog W = .ok (some (m + j, vs[j])) W) ∨ ((∀ g ∈ gl, g.1 ≠ k) ∧ (Instr.findAsking 91 (skv k) es m).run Tryz.prog W = .ok none W) := by
  intro gl
  induction gl with
  | nil =>
    intro vs es m h1 h2 _
    obtain rfl := List.eq_nil_of_length_eq_zero h1
    exact .inr ⟨by simp, by simp [Instr.findAsking]⟩
  | cons g gl ih =>
    intro vs es m h1 h2 h3
    match es, vs, h1, h2 with
    | e :: es, v :: vs, h1, h2 =>
      obtain ⟨e1, e2⟩ := h3 0 (by simp) (by simp) (by simp)
      simp only [List.getElem_cons_zero] at e1 e2
      by_cases hk : g.1 = k
      · refine .inl ⟨0, by simp, by simp, by simpa using hk, ?_⟩
        simp [Instr.findAsking, e1, sk_eq, hk, e2]
      · have hne : (k == g.1) = false := by simpa using fun e => hk e.symm
        have hr : (Instr.findAsking 91 (skv k) (e :: es) m).run Tryz.prog W = (Instr.findAsking 91 (skv k) es (m + 1)).run Tryz.prog W := by
          simp [Instr.findAsking, e1, sk_eq, hne]
        rw [hr]
        rcases ih vs es (m + 1) (by simpa using h1) (by simpa using h2) (fun i a b c => by
          have := h3 (i + 1) (by simp; omega) (by simp; omega) (by simp; omega)
          simpa using this) with ⟨j, a, b, c, d⟩ | ⟨a, b⟩
        · refine .inl ⟨j + 1, by simp; omega, by simp; omega, by simpa using c, ?_⟩
          rw [d]
          simp; omega
        · refine .inr ⟨fun x hx => ?_, b⟩
          rcases List.mem_cons.1 hx with rfl | hx
          · exact hk
          · exact a x hx
theorem zero_slice (W : World) : (zeroValue 33).run Tryz.prog W = .ok (.slice none 0 0) W := by kernel_rfl
section
variable {w w2 : World} {D b : Nat} {gl : List (SK × List Nat)} {vs : List Value} {es : Array MapEntry}
theorem MapAt.find (h : MapAt w D b gl vs es) (k : SK) (W : World) : (∃ j, ∃ (h1 : j < gl.length) (h2 : j < vs.length), gl[j].1 = k ∧ (Instr.findKey 91 (skv k) es.toList).run Tryz.prog W = .ok (some (j, vs[j])) W) ∨ ((∀ g ∈ gl, g.1 ≠ k) ∧ (Instr.findKey 91 (skv k) es.toList).run Tryz.prog W = .ok none W) := by
  rw [run_findKey_eq W (k := 91) (by rw [sk_und])]
  have := sk_ask k W gl vs es.toList 0 (by simpa using h.le) h.lv (fun i h0 h1 h2 => by
    have := h.at_ i (by simpa using h0) h1 h2
    simp only [Array.getElem_toList, this]; exact ⟨trivial, trivial⟩)
  simpa using this
theorem MapAt.look (h : MapAt w D b gl vs es) (k : SK) : (∃ j, ∃ (h1 : j < gl.length) (h2 : j < vs.length), gl[j].1 = k ∧ (Instr.lookup 89 (.map (some b)) (skv k) false).run Tryz.prog w = .ok vs[j] w) ∨ ((∀ g ∈ gl, g.1 ≠ k) ∧ (Instr.lookup 89 (.map (some b)) (skv k) false).run Tryz.prog w = .ok (.slice none 0 0) w) := by
  rcases h.find k w with ⟨j, h1, h2, h3, h4⟩ | ⟨h1, h2⟩
  · refine .inl ⟨j, h1, h2, h3, ?_⟩
    simp [Instr.lookup, run_underlying Tryz.underlying89, MapKept.run_getObj_map h.blk, sk_check, h4]
  · refine .inr ⟨h1, ?_⟩
    simp [Instr.lookup, run_underlying Tryz.underlying89, MapKept.run_getObj_map h.blk, sk_check, h2]
/-- one block is laid anew. -/
theorem Kept1.heap {w : World} {g : Nat} (o : Obj) : Kept1 g w { w with heap := w.heap.setIfInBounds g o } := by
  refine ⟨rfl, rfl, rfl, by simp, fun k hk => ?_⟩
  show (w.heap.setIfInBounds g o)[k]? = _
  rw [Array.getElem?_setIfInBounds_ne (Ne.symm hk)]
theorem heap_blk {w : World} {g : Nat} {o o' : Obj} (h : w.heap[g]? = some o) : ({ w with heap := w.heap.setIfInBounds g o' } : World).heap[g]? = some o' := by
  show (w.heap.setIfInBounds g o')[g]? = _
  have hlt : g < w.heap.size := (Array.getElem?_eq_some_iff.1 h).1
  rw [Array.getElem?_setIfInBounds_self_of_lt hlt]
theorem OwnRow.kept1 {α : Type} {L : Lay α} {w w' : World} {base g : Nat} {E : TypeId} {v : Value} {l : List α} (h : OwnRow L w base E v l) (hk : Kept1 g w w') (hg : g < base) : OwnRow L w' base E v l := by
  have hlt := h.lt
  refine ⟨h.1, h.2.imp id ?_⟩
  rintro ⟨g', cap, cur, hv, hge, hh, r⟩
  exact ⟨g', cap, cur, hv, hge, (hk.block g' (by omega)).trans hh, r⟩
/-- the entry of a key, made if it is not there. -/
theorem MapAt.entry (h : MapAt w D b gl vs es) (k : SK) : ∃ (w1 : World) (gl1 : List (SK × List Nat)) (vs1 : List Value) (es1 : Array MapEntry) (j : Nat), ∃ (h1 : j < gl1.length) (h2 : j < vs1.length), (Instr.mapEntry 89 (.map (some b)) (skv k)).run Tryz.prog w = .ok (.tuple #[vs1[j], .int .i64 (j : Int)]) w1 ∧ Kept1 b w w1 ∧ MapAt w1 D b gl1 vs1 es1 ∧ gl1[j].1 = k ∧
    (gl1 = gl ∨ ((∀ g ∈ gl, g.1 ≠ k) ∧ gl1 = gl ++ [(k, [])])) := by
  rcases h.find k w with ⟨j, h1, h2, h3, h4⟩ | ⟨h1, h2⟩
  · have hje : j < es.size := by rw [h.le]; exact h1
    have hkey : (es[j]?.map (·.key)).getD (skv k) = skv k := by
      rw [Array.getElem?_eq_getElem hje, h.at_ j hje h1 h2]; simp [h3]
    have hborn : (es[j]?.map (·.born)).getD 0 = j := by
      rw [Array.getElem?_eq_getElem hje, h.at_ j hje h1 h2]; simp
    have hstay : (Instr.keyThatStays (skv k) (skv k)).run Tryz.prog w = .ok (skv k) w := by
      have : Instr.sameBits 10000 (skv k) (skv k) = true := by
        show Instr.sameBits (9999 + 1) (skv k) (skv k) = true
        unfold skv
        rw [Instr.sameBits]
        simp [Instr.sameBits, (MapKept.bytes_beq _ _).2 rfl]
      simp [Instr.keyThatStays, this]
    have hmod : es.modify j (fun e => { e with key := skv k }) = es := by
      apply Array.ext
      · simp
      · intro i a c
        rw [Array.getElem_modify]
        split
        · subst i
          rw [h.at_ j hje h1 h2, h3]
        · rfl
    refine ⟨{ w with heap := w.heap.setIfInBounds b (.map es gl.length) }, gl, vs, es, j, h1, h2, ?_, Kept1.heap _, ?_, h3, .inl rfl⟩
    · simp [Instr.mapEntry, run_underlying Tryz.underlying89, MapKept.run_getObj_map h.blk, sk_check, h4, hkey, hstay, hmod, MapKept.run_setObj_map _ h.blk, goInt]
      rw [Array.getElem?_eq_getElem hje, h.at_ j hje h1 h2]; simp
    · exact ⟨heap_blk h.blk, h.lv, h.le, h.at_, fun i a c => (h.own i a c).kept1 (Kept1.heap _) h.lo, h.ap, h.nd, h.lo, by have := h.hd; simpa using this⟩
  · have hb := h.lo
    refine ⟨{ w with heap := w.heap.setIfInBounds b (.map (es.push ⟨skv k, .slice none 0 0, gl.length⟩) (gl.length + 1)) }, gl ++ [(k, [])], vs ++ [.slice none 0 0], es.push ⟨skv k, .slice none 0 0, gl.length⟩, gl.length, by simp, by simp [h.lv], ?_, Kept1.heap _, ?_, by simp, .inr ⟨h1, rfl⟩⟩
    · have : (vs ++ [Value.slice none 0 0])[gl.length]'(by simp [h.lv]) = .slice none 0 0 := by simp [← h.lv]
      simp [Instr.mapEntry, run_underlying Tryz.underlying89, MapKept.run_getObj_map h.blk, sk_check, h2, MapKept.run_setObj_map _ h.blk, goInt, this]
    · refine ⟨?_, by simp [h.lv], by simp [h.le], ?_, ?_, ?_, ?_, h.lo, by have := h.hd; simpa using this⟩
      · rw [heap_blk h.blk]; simp
      · intro i a c d
        simp only [Array.size_push, List.length_append, List.length_cons, List.length_nil, h.le] at a c d
        by_cases hi : i < gl.length
        · rw [Array.getElem_push_lt (by rw [h.le]; exact hi), h.at_ i (by rw [h.le]; exact hi) hi (by rw [h.lv]; exact hi), List.getElem_append_left hi, List.getElem_append_left (by rw [h.lv]; exact hi)]
        · have hie : i = gl.length := by omega
          subst hie
          have e1 : (es.push ⟨skv k, .slice none 0 0, gl.length⟩)[gl.length]'(by simp [h.le]) = ⟨skv k, .slice none 0 0, gl.length⟩ := by
            simp [Array.getElem_push, h.le]
          rw [e1]
          have e2 : (vs ++ [Value.slice none 0 0])[gl.length]'(by simp [h.lv]) = .slice none 0 0 := by simp [← h.lv]
          rw [e2]
          simp
      · intro i a c
        simp only [List.length_append, List.length_cons, List.length_nil] at a c
        by_cases hi : i < gl.length
        · have hv : i < vs.length := by rw [h.lv]; exact hi
          rw [List.getElem_append_left hv, List.getElem_append_left hi]
          exact (h.own i hv hi).kept1 (Kept1.heap _) h.lo
        · have hie : i = gl.length := by omega
          subst hie
          have e2 : (vs ++ [Value.slice none 0 0])[gl.length]'(by simp [h.lv]) = .slice none 0 0 := by simp [← h.lv]
          rw [e2]
          simp only [List.getElem_concat_length]
          exact OwnRow.nil
      · intro i j a c hne g e
        simp only [List.length_append, List.length_cons, List.length_nil] at a c
        by_cases hi : i < vs.length
        · rw [List.getElem_append_left hi] at e
          by_cases hj : j < vs.length
          · rw [List.getElem_append_left hj]; exact h.ap i j hi hj hne g e
          · have hje : j = vs.length := by omega
            subst hje
            simp [Value.ownBlock]
        · have hie : i = vs.length := by omega
          subst hie
          simp [Value.ownBlock] at e
      · rw [List.map_append, List.nodup_append]
        refine ⟨h.nd, by simp, ?_⟩
        intro a ha c hc
        simp at hc
        subst hc
        obtain ⟨g, hg, rfl⟩ := List.mem_map.1 ha
        exact h1 g hg
/-- a group's row has grown, and its entry is stored. -/
theorem MapAt.store (h : MapAt w D b gl vs es) {j : Nat} (h1 : j < gl.length) (h2 : j < vs.length) {v2 : Value} {l : List Nat} (ho : OwnRow intL w2 D 3 v2 l) (hg : w.grownBy w2 (vs[j]).ownBlock) (hat : v2.ownBlock = (vs[j]).ownBlock ∨ v2.ownBlock = some w.heap.size) :
    ∃ w3 es3, (Instr.entryStore 89 (.map (some b)) (.int .i64 (j : Int)) v2).run Tryz.prog w2 = .ok () w3 ∧ Kept1 b w2 w3 ∧ MapAt w3 D b (gl.set j (gl[j].1, l)) (vs.set j v2) es3 := by
  have hlo := h.lo
  have hsz := hg.size
  have hje : j < es.size := by rw [h.le]; exact h1
  have hb2 : w2.heap[b]? = some (.map es gl.length) := (hg.block b (by have := h.hd; omega) (fun e => by have := ((h.own j h2 h1).lt b e.symm).1; omega)).trans h.blk
  have hidx : es.findIdx? (fun e => ((e.born : Nat) : Int) == (j : Int)) = some j := by
    rw [Array.findIdx?_eq_some_iff_getElem]
    refine ⟨hje, by rw [h.at_ j hje h1 h2]; simp, fun i hi => ?_⟩
    rw [h.at_ i (by omega) (by omega) (by have := h.lv; omega)]
    simp; omega
  have hap : ∀ i (a : i < vs.length), i ≠ j → ∀ k, v2.ownBlock = some k → vs[i].ownBlock ≠ some k := by
    intro i a hne k e e2
    rcases hat with h3 | h3
    · exact h.ap i j a h2 hne k e2 (h3.symm.trans e)
    · have := ((h.own i a (by have := h.lv; omega)).lt k e2).2
      rw [h3] at e; injection e with e; omega
  refine ⟨{ w2 with heap := w2.heap.setIfInBounds b (.map (es.modify j fun e => { e with val := v2 }) gl.length) }, es.modify j fun e => { e with val := v2 }, ?_, Kept1.heap _, ?_⟩
  · simp [Instr.entryStore, MapKept.run_getObj_map hb2, asInt, asIntOf, hidx, MapKept.run_setObj_map _ hb2]
  · refine ⟨by rw [heap_blk hb2]; simp, by simp [h.lv], by simp [h.le], ?_, ?_, ?_, ?_, hlo, by have := h.hd; simp; omega⟩
    · intro i a c d
      simp only [Array.size_modify, List.length_set] at a c d
      rw [Array.getElem_modify]
      by_cases hi : i = j
      · subst hi
        simp only [if_true, List.getElem_set_self]
        rw [h.at_ i hje h1 h2]
      · rw [if_neg (by omega), List.getElem_set_ne (by omega), List.getElem_set_ne (by omega), h.at_ i (by rw [h.le]; simpa using c) (by simpa using c) (by simpa using d)]
    · intro i a c
      have a' : i < vs.length := by simpa using a
      have c' : i < gl.length := by simpa using c
      by_cases hi : i = j
      · subst hi
        simp only [List.getElem_set_self]
        exact ho.kept1 (Kept1.heap _) hlo
      · simp only [List.getElem_set_ne (Ne.symm hi)]
        exact ((h.own i a' c').off hg (fun k e e2 => h.ap i j a' h2 hi k e e2.symm)).kept1 (Kept1.heap _) hlo
    · intro i i' a c hne g e
      have a' : i < vs.length := by simpa using a
      have c' : i' < vs.length := by simpa using c
      by_cases hi : i = j
      · subst hi
        simp only [List.getElem_set_self] at e
        simp only [List.getElem_set_ne hne]
        exact hap i' c' (Ne.symm hne) g e
      · simp only [List.getElem_set_ne (Ne.symm hi)] at e
        by_cases hj : i' = j
        · subst hj
          simp only [List.getElem_set_self]
          exact fun e2 => hap i a' hi g e2 e
        · simp only [List.getElem_set_ne (Ne.symm hj)]
          exact h.ap i i' a' c' hne g e
    · have : (gl.set j (gl[j].1, l)).map (·.1) = gl.map (·.1) := by
        apply List.ext_getElem
        · simp
        · intro i a c
          simp only [List.length_map, List.length_set] at a
          simp only [List.getElem_map]
          by_cases hi : i = j
          · subst hi; simp
          · rw [List.getElem_set_ne (Ne.symm hi)]
      rw [this]
      exact h.nd
end
/-- what the groups are behind a prefix of the nodes. -/
structure GI (kd : Nat → SK) (P : List Nat) (gl : List (SK × List Nat)) : Prop where
  grp : ∀ g ∈ gl, g.2 = P.filter (fun x => kd x == g.1)
  all : ∀ x ∈ P, ∃ g ∈ gl, g.1 = kd x
theorem GI.nil (kd : Nat → SK) : GI kd [] [] := ⟨fun _ h => (by cases h), fun _ h => (by cases h)⟩
theorem GI.none {kd : Nat → SK} {P : List Nat} {gl : List (SK × List Nat)} (h : GI kd P gl) {k : SK} (hk : ∀ g ∈ gl, g.1 ≠ k) : P.filter (fun x => kd x == k) = [] := by
  rw [List.filter_eq_nil_iff]
  intro x hx e
  obtain ⟨g, hg, he⟩ := h.all x hx
  exact hk g hg (he.trans (by simpa using e))
theorem GI.next {kd : Nat → SK} {P : List Nat} {gl gl1 : List (SK × List Nat)} (h : GI kd P gl) {x j : Nat} (h1 : j < gl1.length) (hk : gl1[j].1 = kd x) (hor : gl1 = gl ∨ ((∀ g ∈ gl, g.1 ≠ kd x) ∧ gl1 = gl ++ [(kd x, [])])) (hn : (gl1.map (·.1)).Nodup) :
    GI kd (P ++ [x]) (gl1.set j (gl1[j].1, gl1[j].2 ++ [x])) := by
  have hG : GI kd P gl1 := by
    rcases hor with rfl | ⟨h2, rfl⟩
    · exact h
    · refine ⟨fun g hg => ?_, fun y hy => ?_⟩
      · rcases List.mem_append.1 hg with hg | hg
        · exact h.grp g hg
        · simp at hg; subst hg; exact (h.none h2).symm
      · obtain ⟨g, hg, he⟩ := h.all y hy
        exact ⟨g, List.mem_append_left _ hg, he⟩
  have hj := hG.grp _ (List.getElem_mem h1)
  refine ⟨fun g hg => ?_, fun y hy => ?_⟩
  · obtain ⟨i, hi, rfl⟩ := List.getElem_of_mem hg
    simp only [List.length_set] at hi
    by_cases hij : i = j
    · subst hij
      simp only [List.getElem_set_self, List.filter_append, hk]
      rw [← hk, ← hj, hk]
      simp
    · simp only [List.getElem_set_ne (Ne.symm hij), List.filter_append]
      rw [← hG.grp _ (List.getElem_mem hi)]
      have hne : gl1[i].1 ≠ kd x := fun e => by
        have hn' := List.pairwise_iff_getElem.1 (show (gl1.map (·.1)).Pairwise (· ≠ ·) from hn)
        rcases Nat.lt_or_gt_of_ne hij with h3 | h3
        · exact hn' i j (by simpa using hi) (by simpa using h1) h3 (by simp [e, hk])
        · exact hn' j i (by simpa using h1) (by simpa using hi) h3 (by simp [e, hk])
      simp [Ne.symm hne]
  · have hold : ∀ g ∈ gl1, ∃ g' ∈ gl1.set j (gl1[j].1, gl1[j].2 ++ [x]), g'.1 = g.1 := by
      intro g hg
      obtain ⟨i, hi, rfl⟩ := List.getElem_of_mem hg
      refine ⟨(gl1.set j (gl1[j].1, gl1[j].2 ++ [x]))[i]'(by simpa using hi), List.getElem_mem _, ?_⟩
      by_cases hij : i = j
      · subst hij; simp
      · rw [List.getElem_set_ne (Ne.symm hij)]
    rcases List.mem_append.1 hy with hy | hy
    · obtain ⟨g, hg, he⟩ := hG.all y hy
      obtain ⟨g', h3, h4⟩ := hold g hg
      exact ⟨g', h3, h4.trans he⟩
    · simp at hy; subst hy
      obtain ⟨g', h3, h4⟩ := hold _ (List.getElem_mem h1)
      exact ⟨g', h3, h4.trans hk⟩
end Go.Proofs.YtoigpackhninoaaGreatDoor
