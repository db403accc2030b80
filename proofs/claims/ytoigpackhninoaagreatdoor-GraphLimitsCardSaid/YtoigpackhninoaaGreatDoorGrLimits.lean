/- Walks: GraphLimits. -/
import Derived.Test.YtoigpackhninoaaGreatDoorGrAwake
namespace Go.Proofs.YtoigpackhninoaaGreatDoor
open Go.RowKit
def zNV : NV := ⟨0, [], false, SV.nil, SV.nil⟩
theorem madeCells_nodes (n : Nat) : madeCells #[.int .i64 0, .string ⟨#[]⟩, .bool false, .slice none 0 0, .slice none 0 0] (n * 5) = (nodeL.all (List.replicate n zNV)).toArray := by
  apply Array.ext'
  simp only [madeCells, Array.toList_map, Array.toList_range]
  induction n with
  | zero => rfl
  | succ n ih =>
    rw [Nat.add_mul, Nat.one_mul, List.range_add, List.map_append, ih, List.replicate_succ', nodeL.all_append]
    congr 1
    have e : List.range 5 = [0, 1, 2, 3, 4] := rfl
    rw [e]
    have h : ∀ i, i < 5 → (n * 5 + i) % 5 = i := fun i hi => by omega
    simp [h]
    rfl
theorem infoNode : (Tryz.prog.info? 35).map (fun i => (i.zero, i.size, i.bytes)) = some (some (.agg #[.int .i64 0, .string ⟨#[]⟩, .bool false, .slice none 0 0, .slice none 0 0]), 5, 80) := by kernel_rfl
theorem make_nodes (n : Nat) (hn : n ≤ 1073741824) (W : World) : (Instr.makeSlice 22 (.int .i64 (n : Int)) (.int .i64 (n : Int))).run Tryz.prog W = .ok (.slice (some ⟨W.heap.size, 0, none⟩) n n) (W.alloc (.cells (nodeL.all (List.replicate n zNV)).toArray 35)) := by
  obtain ⟨i5, hi5, hz5, hs5, hby5⟩ := info_parts infoNode
  have := run_make_rowN (P := Tryz.prog) 22 35 i5 _ Tryz.underlying22 hi5 hz5 .i64 .i64 n n (Nat.le_refl _) (by rw [hby5]; omega) (by omega) W
  rw [hs5] at this
  rw [← madeCells_nodes]
  exact this
theorem rows_plain {B : Nat} {w : World} {vs : List NV} {ns : List Gr.Nd} (hlen : vs.length = ns.length) (hk : ∀ j (h : j < vs.length) (h2 : j < ns.length), vs[j].kind = ns[j].kind ∧ vs[j].text = ns[j].text ∧ vs[j].ord = ns[j].ord)
    (hv : ∀ x ∈ vs, x.k = SV.nil ∧ x.i = SV.nil) (hn : ∀ m ∈ ns, m.keys = [] ∧ m.items = []) : Rows B w vs ns := by
  have e1 : ∀ j b, ints vs j b = SV.nil := by
    intro j b
    unfold ints
    split
    · rename_i x hx
      have := hv x (List.mem_of_getElem? hx)
      cases b <;> simp [this]
    · rfl
  have e2 : ∀ j b, intsOf ns j b = [] := by
    intro j b
    unfold intsOf
    split
    · rename_i x hx
      have := hn x (List.mem_of_getElem? hx)
      cases b <;> simp [this]
    · rfl
  refine ⟨hlen, hk, fun j b => ?_, fun j b j' b' g h => ?_⟩
  · rw [e1, e2]; exact OwnRow.nil
  · rw [e1] at h; simp [SV.nil, SV.v, Value.ownBlock] at h
/-- the made nodes, the first of them a list. -/
theorem made_tab {B g n : Nat} {w : World} (hn : 0 < n) (hn2 : n ≤ 1000000) (h : Blk w g 35 (nodeL.all (List.replicate n zNV)).toArray) (hB : B ≤ g) :
    Tab B (w.setCell ⟨g, 0, none⟩ (.int .i64 9)) (.slice (some ⟨g, 0, none⟩) n n) (⟨9, [], false, SV.nil, SV.nil⟩ :: List.replicate (n - 1) zNV) (⟨9, [], false, [], []⟩ :: List.replicate (n - 1) ⟨0, [], false, [], []⟩) := by
  obtain ⟨m, rfl⟩ : ∃ m, n = m + 1 := ⟨n - 1, by omega⟩
  have h0 : Blk w g 35 (nodeL.all (List.replicate (m + 1) zNV) ++ []).toArray := by rw [List.append_nil]; exact h
  have h1 := blk_cell nodeL h0 0 0 ⟨9, [], false, SV.nil, SV.nil⟩ (.int .i64 9) (by simp) (by decide) (by simp [zNV, nodeL])
  have e : (List.replicate (m + 1) zNV).set 0 ⟨9, [], false, SV.nil, SV.nil⟩ = ⟨9, [], false, SV.nil, SV.nil⟩ :: List.replicate m zNV := by rw [List.replicate_succ]; rfl
  rw [e, List.append_nil] at h1
  have hal := nodeL.all_len (⟨9, [], false, SV.nil, SV.nil⟩ :: List.replicate m zNV)
  refine ⟨⟨hal, .inr ⟨g, m + 1, _, by simp, hB, h1, by simp, by simp only [maxLen]; omega, ?_, ?_⟩⟩, ?_⟩
  · simp only [List.size_toArray]; rw [hal]; simp
  · simp only []
    exact List.take_of_length_le (by rw [hal]; exact Nat.le_refl _)
  · refine rows_plain (by simp) ?_ ?_ ?_
    · intro j h1 h2
      cases j with
      | zero => exact ⟨rfl, rfl, rfl⟩
      | succ j => simp [zNV]
    · intro x hx
      rcases List.mem_cons.1 hx with rfl | hx
      · exact ⟨rfl, rfl⟩
      · rw [(List.mem_replicate.1 hx).2]; exact ⟨rfl, rfl⟩
    · intro x hx
      rcases List.mem_cons.1 hx with rfl | hx
      · exact ⟨rfl, rfl⟩
      · rw [(List.mem_replicate.1 hx).2]; exact ⟨rfl, rfl⟩
theorem addr_none (g k : Nat) : (⟨g, 0, none⟩ : Addr).add k = ⟨g, k, none⟩ := by unfold Addr.add; split <;> simp_all
/-- the chain so far. -/
def chP (j : Nat) : List Gr.Nd := (List.range j).map (fun i => (⟨9, [], false, [], [i + 1]⟩ : Gr.Nd))
theorem chP_succ (j : Nat) : chP (j + 1) = chP j ++ [⟨9, [], false, [], [j + 1]⟩] := by
  unfold chP; rw [List.range_succ, List.map_append]; rfl
theorem chP_len (j : Nat) : (chP j).length = j := by simp [chP]
theorem wide_facts (n : Nat) (hn : 0 < n) (hn2 : n ≤ 100000) : NH (Gr.wide n) ∧ KU (Gr.wide n) ∧ Gr.Refs (Gr.wide n) ∧ (Gr.wide n).length = n ∧ checkG sclU (Gr.wide n) 0 = if n > 4096 then 7 else 0 := by
  have hl : (Gr.wide n).length = n := Gr.wide_len n hn
  refine ⟨?_, ?_, ?_, hl, ?_⟩
  · intro x hx
    rcases List.mem_cons.1 hx with rfl | hx
    · simp; omega
    · rw [(List.mem_replicate.1 hx).2]; simp
  · intro x hx
    rcases List.mem_cons.1 hx with rfl | hx
    · simp
    · rw [(List.mem_replicate.1 hx).2]; simp
  · intro x hx r hr
    rw [hl]
    rcases List.mem_cons.1 hx with rfl | hx
    · simp at hr; obtain ⟨a, ha, rfl⟩ := hr; omega
    · rw [(List.mem_replicate.1 hx).2] at hr; simp at hr
  · unfold checkG
    rw [hl, Gr.check_wide sclU rfl n hn]
theorem chain_facts (d t : Nat) (l : List Nat) (hd : d ≤ 1000) (htd : t ≤ d) (hl : l = [t] ∨ (l = [] ∧ t = d)) : NH (Gr.chain d l) ∧ KU (Gr.chain d l) ∧ Gr.Refs (Gr.chain d l) ∧ (Gr.chain d l).length = d + 1 ∧ checkG sclU (Gr.chain d l) 0 = if d > 32 then 5 else 0 := by
  have hlen : (Gr.chain d l).length = d + 1 := by simp [Gr.chain]
  have hmem : ∀ x ∈ Gr.chain d l, (∃ i, i < d ∧ x = ⟨9, [], false, [], [i + 1]⟩) ∨ x = ⟨9, [], false, [], l⟩ := by
    intro x hx
    rcases List.mem_append.1 hx with hx | hx
    · obtain ⟨i, hi, rfl⟩ := List.mem_map.1 hx
      exact .inl ⟨i, by simpa using hi, rfl⟩
    · exact .inr (by simpa using hx)
  have hll : l.length ≤ 1 ∧ ∀ x ∈ l, x < d + 1 := by rcases hl with rfl | ⟨rfl, _⟩ <;> simp <;> omega
  refine ⟨?_, ?_, ?_, hlen, ?_⟩
  · intro x hx
    rcases hmem x hx with ⟨i, _, rfl⟩ | rfl
    · simp
    · simp; omega
  · intro x hx
    rcases hmem x hx with ⟨i, _, rfl⟩ | rfl <;> simp
  · intro x hx r hr
    rw [hlen]
    rcases hmem x hx with ⟨i, hi, rfl⟩ | rfl
    · simp at hr; omega
    · simp at hr; exact hll.2 r hr
  · unfold checkG
    rw [hlen, if_neg (by omega), Gr.check_chain sclU d t l htd hl]
theorem chain_chk {B : Nat} {w : World} {v : Value} {vs : List NV} {d t : Nat} {l : List Nat} (h : Tab B w v vs (Gr.chain d l)) (hd : d ≤ 1000) (htd : t ≤ d) (hl : l = [t] ∨ (l = [] ∧ t = d)) (hUT : UT w) : ChkOk w (.agg #[v, .int .i64 0]) (if d > 32 then 5 else 0) := by
  obtain ⟨h1, h2, h3, h4, h5⟩ := chain_facts d t l hd htd hl
  obtain ⟨A, c, hv, hg⟩ := h.at_
  have := chk_small A c vs _ w hUT h1 h2 h3 (by omega) (by omega) hg
  rw [h5] at this
  rw [hv]
  exact this
theorem wide_chk {B : Nat} {w : World} {v : Value} {vs : List NV} {n : Nat} (h : Tab B w v vs (Gr.wide n)) (hn : 0 < n) (hn2 : n ≤ 100000) (hUT : UT w) : ChkOk w (.agg #[v, .int .i64 0]) (checkG sclU (Gr.wide n) 0) := by
  obtain ⟨h1, h2, h3, h4, h5⟩ := wide_facts n hn hn2
  obtain ⟨A, c, hv, hg⟩ := h.at_
  have := chk_small A c vs _ w hUT h1 h2 h3 (by omega) (by omega) hg
  rw [hv]
  exact this
/-- the chain and its box. -/
def ChainAt (cb d : Nat) (v : Value) (wq w : World) : Prop := ∃ ys l t, Tab cb w v ys (Gr.chain d l) ∧ Blk w cb 24 #[v, .int .i64 0] ∧ Below cb wq w ∧ t ≤ d ∧ (l = [t] ∨ (l = [] ∧ t = d))
/-- the last node's items stored. -/
theorem chain_loop {cb d g c t : Nat} {wq w : World} {xs : List NV} {rest : List Value} (hT : Tab cb w (.slice (some ⟨g, 0, none⟩) (d + 1) c) xs (Gr.chain d [])) (hB : Blk w cb 24 #[.slice (some ⟨g, 0, none⟩) (d + 1) c, .int .i64 0]) (hL : Below cb wq w) (htd : t ≤ d)
    (hN : Blk w g 35 (nodeL.all xs ++ rest).toArray) (hback : ∀ w' l', l'.length = xs.length → Blk w' g 35 (nodeL.all l' ++ rest).toArray → OwnRow nodeL w' cb 35 (.slice (some ⟨g, 0, none⟩) (d + 1) c) l') (hbg : cb ≤ g) (hd : d < xs.length) :
    ChainAt cb d (.slice (some ⟨g, 0, none⟩) (d + 1) c) wq (((w.alloc (.cells #[.int .i64 (t : Int)] 3)).setCell ⟨g, d * 5 + 4, none⟩ (.slice (some ⟨w.heap.size, 0, none⟩) 1 1)).drew) := by
  have hb1 := hB.lt
  have hNa := hN.alloc (.cells #[.int .i64 (t : Int)] 3)
  have h5 := nodes_setI hNa d hd ⟨some ⟨w.heap.size, 0, none⟩, 1, 1⟩
  have hne : 3 ≠ 35 := by decide
  have hli : OwnRow intL (w.alloc (.cells #[.int .i64 (t : Int)] 3)) cb 3 (.slice (some ⟨w.heap.size, 0, none⟩) 1 1) [t] := own_of_blk (l := [t]) (Blk.new _ _ _) (by omega) rfl (by decide)
  have hdc : d < (Gr.chain d []).length := by simp [Gr.chain]
  have hcd : (Gr.chain d [])[d] = ⟨9, [], false, [], []⟩ := by
    have h1 : (Gr.chain d [])[d]? = some ⟨9, [], false, [], []⟩ := by
      unfold Gr.chain
      rw [List.getElem?_append_right (by simp)]; simp
    rw [List.getElem?_eq_getElem hdc] at h1
    exact Option.some.inj h1
  have hr := hT.rows.grow (w' := w.alloc (.cells #[.int .i64 (t : Int)] 3)) d true { xs[d] with i := ⟨some ⟨w.heap.size, 0, none⟩, 1, 1⟩ } ⟨9, [], false, [], [t]⟩ hd ⟨rfl, rfl, rfl⟩ (by rw [hcd]; exact ⟨rfl, rfl, rfl⟩)
    (by rw [if_pos rfl]; unfold ints; rw [List.getElem?_eq_getElem hd]; rfl) (by rw [if_pos rfl]; unfold intsOf; rw [List.getElem?_eq_getElem hdc, hcd]; rfl) (by rw [if_pos rfl, if_pos rfl]; exact hli)
    (grown_below ((Below.refl _ _).alloc (Nat.le_refl _) _)) (.inr rfl)
  have hch : (Gr.chain d []).set d ⟨9, [], false, [], [t]⟩ = Gr.chain d [t] := by
    unfold Gr.chain
    rw [List.set_append_right _ _ (by simp)]
    simp
  rw [hch] at hr
  have hk : KeptT 3 (w.alloc (.cells #[.int .i64 (t : Int)] 3)) ((w.alloc (.cells #[.int .i64 (t : Int)] 3)).setCell ⟨g, d * 5 + 4, none⟩ (.slice (some ⟨w.heap.size, 0, none⟩) 1 1)) := KeptT.setCell (p := ⟨g, d * 5 + 4, none⟩) hNa hne _
  have hkG : KeptT 24 w (((w.alloc (.cells #[.int .i64 (t : Int)] 3)).setCell ⟨g, d * 5 + 4, none⟩ (.slice (some ⟨w.heap.size, 0, none⟩) 1 1)).drew) := ((KeptT.alloc _ _ _).trans (KeptT.setCell (p := ⟨g, d * 5 + 4, none⟩) hNa (by decide) _)).trans (KeptT.drew _ _)
  refine ⟨_, [t], t, ⟨(hback _ _ (by simp) h5).drew, (hr.kept hk).kept (KeptT.drew _ _)⟩, hkG _ _ hB, ?_, htd, .inl rfl⟩
  exact ((hL.alloc (by have := hL.size; omega) _).setCell hbg _).drew
set_option maxRecDepth 100000 in
set_option maxHeartbeats 8000000 in
theorem limits_any (x y : Nat) (b : Bool) (hx : x < 65536) (hy : y < 256) (w : World) (hUT : UT w) : Calls Tryz.prog 7 #[.int .u16 x, .int .u8 y, .bool b] w fun e w' => e = .returned (.bool true) ∧ Below w.heap.size w w' := by
  have HUT := Lib.hid hUT
  clear hUT
  go_enter Tryz.func7, Tryz.ntmps7
  go_upto_region 1 with fail
  go_upto_region 2 with fail
  obtain ⟨n, hn⟩ : ∃ n : Nat, 4090 + x % 12 = n := ⟨_, rfl⟩
  obtain ⟨d, hd⟩ : ∃ d : Nat, 28 + y % 10 = d := ⟨_, rfl⟩
  have hnI : (4090 : Int) + (x : Int) % 12 = (n : Int) := by omega
  have hdI : (28 : Int) + (y : Int) % 10 = (d : Int) := by omega
  have hn1 : 4090 ≤ n := by omega
  have hn2 : n ≤ 4101 := by omega
  have hd1 : 28 ≤ d := by omega
  have hd2 : d ≤ 37 := by omega
  have HXY : Hid (x < 65536 ∧ y < 256) := Lib.hid ⟨hx, hy⟩
  rw [hnI, hdI]
  clear hnI hdI hn hd hx hy
  have hmk := fun W => make_nodes n (by omega) W
  go_upto_region 3 with fail
  clear hmk
  obtain ⟨gb, hgb⟩ : ∃ gb, w.heap.size = gb := ⟨_, rfl⟩
  (try rw [hgb])
  obtain ⟨w1, hw1⟩ : ∃ w1, w.alloc (.cells (nodeL.all (List.replicate n zNV)).toArray 35) = w1 := ⟨_, rfl⟩
  have b1 : Blk w1 gb 35 (nodeL.all (List.replicate n zNV)).toArray := by rw [← hw1, ← hgb]; exact Blk.new _ _ _
  have l1 : Below gb w w1 := by rw [← hw1, ← hgb]; exact (Below.refl _ _).alloc (Nat.le_refl _) _
  have s1 : w1.heap.size = gb + 1 := by rw [← hw1, ← hgb]; simp
  obtain ⟨w2, hw2⟩ : ∃ w2, w1.alloc (.cells #[.slice (some ⟨gb, 0, none⟩) n n, .int .i64 0] 24) = w2 := ⟨_, rfl⟩
  have b2 : Blk w2 (gb + 1) 24 #[.slice (some ⟨gb, 0, none⟩) n n, .int .i64 0] := by rw [← hw2, ← s1]; exact Blk.new _ _ _
  have b12 : Blk w2 gb 35 (nodeL.all (List.replicate n zNV)).toArray := by rw [← hw2]; exact b1.alloc _
  have l2 : Below gb w w2 := by rw [← hw2]; exact l1.alloc (by omega) _
  have s2 : w2.heap.size = gb + 2 := by rw [← hw2]; simp [s1]
  (try rw [hw1])
  (try rw [hw2])
  clear hw1 hw2
  have g0 : w2.cell? ⟨gb + 1, 0, none⟩ = some (.slice (some ⟨gb, 0, none⟩) n n) := b2.cell 0
  have g1 : w2.cell? ⟨gb, 0, none⟩ = some (.int .i64 0) := by
    rw [b12.cell]
    obtain ⟨m, rfl⟩ : ∃ m, n = m + 1 := ⟨n - 1, by omega⟩
    rw [List.replicate_succ]; rfl
  have gf : ∀ i, w2.frozen? ⟨gb, i, none⟩ = false := b12.frozen
  have hn0 : (0 : Int) < (n : Int) := by omega
  have hn0N : 0 < n := by omega
  have HT3 : Hid (Tab gb (w2.setCell ⟨gb, 0, none⟩ (.int .i64 9)) (.slice (some ⟨gb, 0, none⟩) n n) (⟨9, [], false, SV.nil, SV.nil⟩ :: List.replicate (n - 1) zNV) (⟨9, [], false, [], []⟩ :: List.replicate (n - 1) ⟨0, [], false, [], []⟩)) := Lib.hid (made_tab (by omega) (by omega) b12 (Nat.le_refl _))
  have HB3 : Hid (Blk (w2.setCell ⟨gb, 0, none⟩ (.int .i64 9)) (gb + 1) 24 #[.slice (some ⟨gb, 0, none⟩) n n, .int .i64 0]) := Lib.hid (b2.far (by simp) _)
  have HL3 : Hid (Below gb w (w2.setCell ⟨gb, 0, none⟩ (.int .i64 9))) := Lib.hid (l2.setCell (by simp) _)
  have HGB := Lib.hid hgb
  have HS3 : Hid (gb + 2 ≤ (w2.setCell ⟨gb, 0, none⟩ (.int .i64 9)).heap.size) := Lib.hid (by simp [s2])
  clear b1 l1 s1 b2 b12 l2 s2 hgb
  go_upto_region 4 with fail
  obtain ⟨w3, hw3⟩ : ∃ w3, w2.setCell ⟨gb, 0, none⟩ (.int .i64 9) = w3 := ⟨_, rfl⟩
  rw [hw3] at HT3 HB3 HL3 HS3
  rw [hw3]
  clear hw3 g0 g1 gf
  go_upto_region 5 with fail
  go_loopw [10] (fun s10 wr => ∃ (j : Nat) (i0 : SV), 1 ≤ j ∧ j ≤ n ∧ s10 = .int .i64 j ∧ Hid (Tab gb wr (.slice (some ⟨gb, 0, none⟩) n n) (⟨9, [], false, SV.nil, i0⟩ :: List.replicate (n - 1) zNV) (⟨9, [], false, [], (List.range (j - 1)).map (· + 1)⟩ :: List.replicate (n - 1) ⟨0, [], false, [], []⟩) ∧ Blk wr (gb + 1) 24 #[.slice (some ⟨gb, 0, none⟩) n n, .int .i64 0] ∧ Below gb w wr ∧ gb + 2 ≤ wr.heap.size)) (fun s10 _ => n - (intOf s10).toNat)
  case atStart => exact ⟨1, SV.nil, by omega, by omega, rfl, Lib.hid ⟨HT3.out, HB3.out, HL3.out, HS3.out⟩⟩
  case round =>
    obtain ⟨j, i0, hj1, hj, rfl, HW⟩ := hrel
    obtain ⟨wq, hwq⟩ : ∃ wq, wq = wr := ⟨_, rfl⟩
    subst hwq
    by_cases hlt : j < n
    · have hltI : (j : Int) < (n : Int) := by omega
      have HSUC : Hid ((List.range (j - 1)).map (· + 1) ++ [j] = (List.range (j + 1 - 1)).map (· + 1)) := Lib.hid (by
        rw [show j + 1 - 1 = (j - 1) + 1 from by omega, List.range_succ, List.map_append]
        simp; omega)
      obtain ⟨its, hits⟩ : ∃ its, (List.range (j - 1)).map (· + 1) = its := ⟨_, rfl⟩
      have hil : its.length ≤ 5000 := by rw [← hits]; simp; omega
      rw [hits] at HW HSUC
      clear hits
      have hG := HW.out.2.1
      obtain ⟨g9, cap9, rest, hv9, hcap9, hN, hbg, hback⟩ := HW.out.1.row.row (by simp)
      obtain ⟨rfl, rfl⟩ : g9 = gb ∧ cap9 = n := by
        injection hv9 with e1 e2 e3
        injection e1 with e1
        injection e1 with e1
        exact ⟨e1.symm, e3.symm⟩
      have hI : OwnRow intL wq g9 3 (.slice i0.a i0.n i0.c) its := HW.out.1.rows.own 0 true
      have q0 : wq.cell? ⟨g9 + 1, 0, none⟩ = some (.slice (some ⟨g9, 0, none⟩) cap9 cap9) := hG.cell 0
      have q4 : wq.cell? ⟨g9, 4, none⟩ = some (.slice i0.a i0.n i0.c) := hN.cell 4
      have qf : ∀ i, wq.frozen? ⟨g9, i, none⟩ = false := hN.frozen
      have e2 := World.new_ne wq _ q0
      have e3 := World.new_ne wq _ q4
      have hbA0 : g9 ≤ wq.heap.size := by have := HW.out.2.2.2; omega
      have hownA : OwnRow intL (wq.alloc (.cells #[.int .i64 j] 3)).drew g9 3 (.slice i0.a i0.n i0.c) its := (hI.alloc _).drew
      have hlitA : RowAt intL (wq.alloc (.cells #[.int .i64 j] 3)).drew (wq.heap.size + 1) (some ⟨wq.heap.size, 0, none⟩) [j] := (RowAt.lit1 _ _ rfl _ rfl).drew
      have hlA : its.length + [j].length ≤ 1073741824 := by simp only [List.length_cons, List.length_nil]; omega
      have hbA : g9 ≤ (wq.alloc (.cells #[.int .i64 j] 3)).drew.heap.size := by simp; omega
      have pcA : (wq.alloc (.cells #[.int .i64 j] 3)).cell? ⟨g9 + 1, 0, none⟩ = some (.slice (some ⟨g9, 0, none⟩) cap9 cap9) := (hG.alloc _).cell 0
      have pc4 : (wq.alloc (.cells #[.int .i64 j] 3)).cell? ⟨g9, 4, none⟩ = some (.slice i0.a i0.n i0.c) := (hN.alloc _).cell 4
      have HBLK : Hid (Blk (wq.alloc (.cells #[.int .i64 j] 3)).drew (g9 + 1) 24 _) := Lib.hid (hG.alloc (.cells #[.int .i64 j] 3))
      have HNB : Hid (Blk (wq.alloc (.cells #[.int .i64 j] 3)).drew g9 35 _) := Lib.hid (hN.alloc (.cells #[.int .i64 j] 3))
      clear hv9 hG hN hI hback hbg hcap9
      go_upto_region 7 with fail
      focus
        go_region_law (refine step_append_row _ rfl (.tmp 41) (.tmp 43) 33 3 8 rfl intT g9 (.slice i0.a i0.n i0.c) its rfl hownA _ _ 1 [j] rfl hlitA hlA hbA ?_; intro v' w2 hown2 hg2 hat2; obtain ⟨A8, c8, hv8, _⟩ := hown2.form; obtain ⟨q, hq⟩ : ∃ q, (its ++ [j]).length = q := ⟨_, rfl⟩; rw [hq] at hv8; subst hv8; have hN2 := (KeptT.grown (t := 35) hg2 hownA (by decide) _ _ HNB.out); have gf2 : ∀ i, w2.frozen? ⟨g9, i, none⟩ = false := hN2.frozen; have c42 : w2.cell? ⟨g9, 4, none⟩ = some (.slice i0.a i0.n i0.c) := hN2.cell 4; have pc2 : w2.cell? ⟨g9 + 1, 0, none⟩ = some (.slice (some ⟨g9, 0, none⟩) cap9 cap9) := (KeptT.grown (t := 24) hg2 hownA (by decide) _ _ HBLK.out).cell 0; have HOW2 := Lib.hid hown2; have HG2 := Lib.hid hg2; have HAT2 := Lib.hid hat2; clear hown2 hg2 hat2 hN2 hq)
        all_goals
          go_wp2_with fail
          have hT := (HW.out.1.later (w' := (wq.alloc (.cells #[.int .i64 j] 3)).drew) ((Below.refl wq.heap.size wq).alloc (Nat.le_refl _) _).drew)
          obtain ⟨i1, hi1, hT8, hK8, hB8⟩ := hT.push HOW2.out HG2.out (by have := HAT2.out; exact this)
          have hb := (HW.out.2.2.1.trans ((((Below.refl g9 wq).alloc hbA0 (.cells #[.int .i64 j] 3)).drew).trans (hB8 hbA)))
          have hkg := hK8 _ (by decide) (by decide) _ _ HBLK.out
          have hsz : g9 + 2 ≤ (w2.setCell ⟨g9, 4, none⟩ (.slice A8 q c8)).heap.size := by
            have h1 := (hB8 hbA).size
            have h2 := HW.out.2.2.2
            simp at h1 ⊢
            omega
          refine ⟨⟨j + 1, i1, by omega, by omega, by go_num, ?_⟩, by simp [intOf]; omega⟩
          rw [← HSUC.out]
          exact Lib.hid ⟨hT8, hkg, hb, hsz⟩
    · have hltI : ¬ (j : Int) < (n : Int) := by omega
      have hje : j = n := by omega
      have HT4 : Hid (Tab gb wq (.slice (some ⟨gb, 0, none⟩) n n) (⟨9, [], false, SV.nil, i0⟩ :: List.replicate (n - 1) zNV) (Gr.wide n) ∧ Blk wq (gb + 1) 24 #[.slice (some ⟨gb, 0, none⟩) n n, .int .i64 0] ∧ Below gb w wq) := Lib.hid (by
        rw [hje] at HW
        exact ⟨HW.out.1, HW.out.2.1, HW.out.2.2.1⟩)
      clear hje HW HT3 HB3 HL3 HS3
      go_upto_region 9 with fail
      obtain ⟨ev, HCW, hev⟩ : ∃ ev : Nat, Hid (checkG sclU (Gr.wide n) 0 = ev) ∧ ((4096 < n ∧ ev = 7) ∨ (n ≤ 4096 ∧ ev = 0)) := by
        rcases Nat.lt_or_ge 4096 n with hbig | hbig
        · exact ⟨7, Lib.hid (by rw [(wide_facts n (by omega) (by omega)).2.2.2.2, if_pos hbig]), .inl ⟨hbig, rfl⟩⟩
        · exact ⟨0, Lib.hid (by rw [(wide_facts n (by omega) (by omega)).2.2.2.2, if_neg (by omega)]), .inr ⟨hbig, rfl⟩⟩
      rcases hev with ⟨hbig, rfl⟩ | ⟨hbig, rfl⟩
      all_goals (first | have hbI : (4096 : Int) < (n : Int) := by omega
                       | have hbI : ¬ (4096 : Int) < (n : Int) := by omega)
      all_goals go_upto_region 11 with fail
      all_goals
        obtain ⟨cb, hcb⟩ : ∃ cb, wq.heap.size = cb := ⟨_, rfl⟩
        go_upto_region 12 with fail
        (try rw [hcb])
        obtain ⟨wz, hwz⟩ : ∃ wz, wq.alloc (.cells #[.slice none 0 0, .int .i64 0] 24) = wz := ⟨_, rfl⟩
        have bz : Blk wz cb 24 #[.slice none 0 0, .int .i64 0] := by rw [← hwz, ← hcb]; exact Blk.new _ _ _
        have lz : Below cb wq wz := by rw [← hwz, ← hcb]; exact (Below.refl _ _).alloc (Nat.le_refl _) _
        have HBZ := Lib.hid bz
        have HLZ := Lib.hid lz
        have HCB := Lib.hid hcb
        (try rw [hwz])
        clear hwz bz lz hcb
        go_upto_region 13 with fail
        go_loopw [51] (fun s51 wr => ∃ (j : Nat) (A1 : Option Addr) (c1 : Nat) (vs1 : List NV), j ≤ d ∧ s51 = .int .i64 j ∧ Hid (Tab cb wr (.slice A1 j c1) vs1 (chP j) ∧ Blk wr cb 24 #[.slice A1 j c1, .int .i64 0] ∧ Below cb wq wr)) (fun s51 _ => d - (intOf s51).toNat)
        case atStart => exact ⟨0, none, 0, [], by omega, rfl, Lib.hid ⟨⟨OwnRow.nil, Rows.nil _ _⟩, HBZ.out, HLZ.out⟩⟩
        case round =>
          obtain ⟨j, A1, c1, vs1, hj, rfl, HC⟩ := hrel
          obtain ⟨wp, hwp⟩ : ∃ wp, wp = wr := ⟨_, rfl⟩
          subst hwp
          have c0 : wp.cell? ⟨cb, 0, none⟩ = some (.slice A1 j c1) := HC.out.2.1.cell 0
          by_cases hlt : j < d
          · have hltI : (j : Int) < (d : Int) := by omega
            have hcn : cb < wp.heap.size := HC.out.2.1.lt
            obtain ⟨xn, hxn⟩ : ∃ xn : NV, xn = ⟨9, [], false, SV.nil, ⟨some ⟨wp.heap.size, 0, none⟩, 1, 1⟩⟩ := ⟨_, rfl⟩
            have HXN := Lib.hid hxn
            have HROW := Lib.hid HC.out.1.row
            have hvl : vs1.length = j := by rw [HC.out.1.rows.len, chP_len]
            have e2 := World.new_ne wp _ c0
            clear hxn
            go_wp2_with (at_builtin; go_must (refine wpList_append_row _ rfl (.tmp 55) (.tmp 60) 22 35 80 rfl nodeT cb (.slice A1 j c1) vs1 rfl ((HROW.out.alloc _).alloc _) _ _ 1 [xn] rfl (RowAt.lit1 _ _ (by rw [HXN.out]; rfl) _ ?_) ?_ ?_ ?_))
            any_goals (first | rfl | omega | (simp; omega))
            intro v' w7 hown hg hat
            obtain ⟨A2, c2, hv2, _⟩ := hown.form
            have hl7 : (vs1 ++ [xn]).length = j + 1 := by rw [List.length_append, hvl]; rfl
            rw [hl7] at hv2
            subst hv2
            have hk : ∀ t, t ≠ 35 → KeptT t wp w7 := fun t ht => ((KeptT.alloc _ _ _).trans (KeptT.alloc _ _ _)).trans (KeptT.grown hg ((HROW.out.alloc _).alloc _) (fun e => ht e.symm))
            have hb7 : Below cb wp w7 := (((Below.refl cb wp).alloc (by omega) _).alloc (by simp; omega) _).trans (((HROW.out.alloc _).alloc _).grown_below hg (by simp; omega))
            have hli : Blk w7 wp.heap.size 3 (icells [j + 1]) := KeptT.grown hg ((HROW.out.alloc _).alloc _) (by decide) _ _ ((by have := Blk.new wp 3 (icells [j + 1]); simpa [icells] using this : Blk (wp.alloc (.cells #[.int .i64 ((j : Int) + 1)] 3)) wp.heap.size 3 (icells [j + 1])).alloc _)
            have hbg := hk _ (by decide) _ _ HC.out.2.1
            have d0 : w7.cell? ⟨cb, 0, none⟩ = some (.slice A1 j c1) := hbg.cell 0
            have df : ∀ i, w7.frozen? ⟨cb, i, none⟩ = false := hbg.frozen
            have hT7 : Tab cb w7 (.slice A2 (j + 1) c2) (vs1 ++ [xn]) (chP (j + 1)) := by
              rw [chP_succ]
              refine ⟨hown, (HC.out.1.rows.kept (hk _ (by decide))).snoc xn _ (by rw [HXN.out]; exact ⟨rfl, rfl, rfl⟩) (by rw [HXN.out]; exact OwnRow.nil) (by rw [HXN.out]; exact own_of_blk hli (by omega) rfl (by show 1 ≤ maxLen; decide)) (by rw [HXN.out]; intro g e1; simp [SV.nil, SV.v, Value.ownBlock] at e1) ?_⟩
              intro j' b' g e1
              have := ((HC.out.1.rows.own j' b').lt g e1).2
              rw [HXN.out]
              constructor <;> (intro e2; simp [SV.nil, SV.v, Value.ownBlock] at e2; try omega)
            have hkk : ∀ t, t ≠ 24 → KeptT t w7 (w7.setCell ⟨cb, 0, none⟩ (.slice A2 (j + 1) c2)) := fun t ht => KeptT.setCell (p := ⟨cb, 0, none⟩) hbg ht _
            have HNX : Hid (Tab cb (w7.setCell ⟨cb, 0, none⟩ (.slice A2 (j + 1) c2)) (.slice A2 (j + 1) c2) (vs1 ++ [xn]) (chP (j + 1)) ∧ Blk (w7.setCell ⟨cb, 0, none⟩ (.slice A2 (j + 1) c2)) cb 24 #[.slice A2 (j + 1) c2, .int .i64 0] ∧ Below cb wq (w7.setCell ⟨cb, 0, none⟩ (.slice A2 (j + 1) c2))) := Lib.hid ⟨⟨hT7.row.kept (hkk _ (by decide)), hT7.rows.kept (hkk _ (by decide))⟩, hbg.set_ 0 _, (HC.out.2.2.trans hb7).setCell (by simp) _⟩
            obtain ⟨w8, hw8⟩ : ∃ w8, w7.setCell ⟨cb, 0, none⟩ (.slice A2 (j + 1) c2) = w8 := ⟨_, rfl⟩
            rw [hw8] at HNX
            clear hown hg hat hl7 hk hb7 hli hbg hT7 hkk c0 e2 hcn
            go_wp2_with fail
            (try rw [hw8])
            (try clear hw8)
            go_roundw
            case rel => exact ⟨j + 1, A2, c2, _, by omega, by go_num, HNX⟩
            case measure => simp [intOf]; omega
          · have hltI : ¬ (j : Int) < (d : Int) := by omega
            obtain rfl : j = d := by omega
            go_upto_region 17 with fail
            have hcn : cb < wp.heap.size := HC.out.2.1.lt
            have HROW := Lib.hid HC.out.1.row
            have hvl : vs1.length = j := by rw [HC.out.1.rows.len, chP_len]
            have e2 := World.new_ne wp _ c0
            go_wp2_with (at_builtin; go_must (refine wpList_append_row _ rfl (.tmp 65) (.tmp 67) 22 35 80 rfl nodeT cb (.slice A1 j c1) vs1 rfl (HROW.out.alloc _) _ _ 1 [⟨9, [], false, SV.nil, SV.nil⟩] rfl (RowAt.lit1 _ _ rfl _ ?_) ?_ ?_ ?_))
            any_goals (first | rfl | omega | (simp; omega))
            intro v' w7 hown hg hat
            obtain ⟨A2, c2, hv2, _⟩ := hown.form
            have hl7 : (vs1 ++ [(⟨9, [], false, SV.nil, SV.nil⟩ : NV)]).length = j + 1 := by rw [List.length_append, hvl]; rfl
            rw [hl7] at hv2
            subst hv2
            have hk : ∀ t, t ≠ 35 → KeptT t wp w7 := fun t ht => (KeptT.alloc _ _ _).trans (KeptT.grown hg (HROW.out.alloc _) (fun e => ht e.symm))
            have hb7 : Below cb wp w7 := ((Below.refl cb wp).alloc (by omega) _).trans ((HROW.out.alloc _).grown_below hg (by simp; omega))
            have hbg := hk _ (by decide) _ _ HC.out.2.1
            have d0 : w7.cell? ⟨cb, 0, none⟩ = some (.slice A1 j c1) := hbg.cell 0
            have df : ∀ i, w7.frozen? ⟨cb, i, none⟩ = false := hbg.frozen
            have hT7 : Tab cb w7 (.slice A2 (j + 1) c2) (vs1 ++ [⟨9, [], false, SV.nil, SV.nil⟩]) (Gr.chain j []) := by
              refine ⟨hown, (HC.out.1.rows.kept (hk _ (by decide))).snoc _ _ ⟨rfl, rfl, rfl⟩ OwnRow.nil OwnRow.nil (by intro g e1; simp [SV.nil, SV.v, Value.ownBlock] at e1) ?_⟩
              intro j' b' g e1
              constructor <;> (intro e2; simp [SV.nil, SV.v, Value.ownBlock] at e2)
            have hkk : ∀ t, t ≠ 24 → KeptT t w7 (w7.setCell ⟨cb, 0, none⟩ (.slice A2 (j + 1) c2)) := fun t ht => KeptT.setCell (p := ⟨cb, 0, none⟩) hbg ht _
            have HNX : Hid (Tab cb (w7.setCell ⟨cb, 0, none⟩ (.slice A2 (j + 1) c2)) (.slice A2 (j + 1) c2) (vs1 ++ [⟨9, [], false, SV.nil, SV.nil⟩]) (Gr.chain j []) ∧ Blk (w7.setCell ⟨cb, 0, none⟩ (.slice A2 (j + 1) c2)) cb 24 #[.slice A2 (j + 1) c2, .int .i64 0] ∧ Below cb wq (w7.setCell ⟨cb, 0, none⟩ (.slice A2 (j + 1) c2))) := Lib.hid ⟨⟨hT7.row.kept (hkk _ (by decide)), hT7.rows.kept (hkk _ (by decide))⟩, hbg.set_ 0 _, (HC.out.2.2.trans hb7).setCell (by simp) _⟩
            obtain ⟨w8, hw8⟩ : ∃ w8, w7.setCell ⟨cb, 0, none⟩ (.slice A2 (j + 1) c2) = w8 := ⟨_, rfl⟩
            rw [hw8] at HNX
            have HVL : Hid (vs1.length = j) := Lib.hid hvl
            clear hown hg hat hl7 hk hb7 hbg hT7 hkk c0 e2 hcn hvl HROW HC
            go_upto_region 18 with fail
            (try rw [hw8])
            clear hw8
            cases b
            case true =>
              go_upto_region 19 with fail
              obtain ⟨xs, hxs⟩ : ∃ xs, vs1 ++ [(⟨9, [], false, SV.nil, SV.nil⟩ : NV)] = xs := ⟨_, rfl⟩
              have hjx : j < xs.length := by rw [← hxs, List.length_append, HVL.out]; simp
              have hxj : xs[j] = ⟨9, [], false, SV.nil, SV.nil⟩ := by
                have h1 : xs[j]? = some ⟨9, [], false, SV.nil, SV.nil⟩ := by
                  rw [← hxs, List.getElem?_append_right (by rw [HVL.out]; exact Nat.le_refl _), HVL.out, Nat.sub_self]; rfl
                rw [List.getElem?_eq_getElem hjx] at h1
                exact Option.some.inj h1
              rw [hxs] at HNX
              obtain ⟨g, cap, rest, hv9, hcap9, hN, hbg, hback⟩ := HNX.out.1.row.row (by intro e; rw [e] at hjx; simp at hjx)
              have hxl : xs.length = j + 1 := by rw [← hxs, List.length_append, HVL.out]; rfl
              rw [hxl] at hv9
              injection hv9 with f1 f2 f3
              subst f1 f3
              have harr : (nodeL.all xs ++ rest).toArray[j * 5 + 4]? = some (.slice none 0 0) := by
                obtain ⟨A9, c9, hv10, hr10⟩ := HNX.out.1.row.form
                injection hv10 with f1 f2 f3
                obtain ⟨ad, h1, h2, _, _, _, _, h4⟩ := node_at hr10 hjx
                rw [hxj] at h4
                rw [← f1] at h1
                injection h1 with h1
                have ea : ad.add (j * 5) = ⟨g, j * 5, none⟩ := by rw [← h1, addr_none]
                rw [ea, hN.cell] at h4
                exact h4
              have q0 : w8.cell? ⟨cb, 0, none⟩ = some (.slice (some ⟨g, 0, none⟩) (j + 1) c2) := HNX.out.2.1.cell 0
              have q4 : w8.cell? ⟨g, j * 5 + 4, none⟩ = some (.slice none 0 0) := by rw [hN.cell]; exact harr
              have qf : ∀ i, w8.frozen? ⟨g, i, none⟩ = false := hN.frozen
              have pcA : ∀ o, (w8.alloc o).cell? ⟨cb, 0, none⟩ = some (.slice (some ⟨g, 0, none⟩) (j + 1) c2) := fun o => (HNX.out.2.1.alloc o).cell 0
              have pc4 : ∀ o, (w8.alloc o).cell? ⟨g, j * 5 + 4, none⟩ = some (.slice none 0 0) := fun o => by rw [(hN.alloc o).cell]; exact harr
              have pcf : ∀ o i, (w8.alloc o).frozen? ⟨g, i, none⟩ = false := fun o => (hN.alloc o).frozen
              have pn : ∀ o, g ≠ w8.heap.size := fun o => by have := hN.lt; omega
              have e2 := World.new_ne w8 _ q0
              have e3 := World.new_ne w8 _ q4
              have hj1I : ¬ ((j : Int) + 1 = 0) := by omega
              have hjN : j < j + 1 := by omega
              have HN := Lib.hid hN
              have HAR := Lib.hid harr
              have HBK := Lib.hid hback
              have HBGG := Lib.hid hbg
              clear harr hN hback hbg
              go_region
              obtain ⟨t, ht⟩ : ∃ t, x % (j + 1) = t := ⟨_, rfl⟩
              have htd : t ≤ j := by rw [← ht]; have := Nat.mod_lt x (show 0 < j + 1 by omega); omega
              have htI : (wrap64 (x : Int)).tmod ((j : Int) + 1) = (t : Int) := by
                have hx := HXY.out.1
                rw [show wrap64 (x : Int) = (x : Int) from by unfold wrap64; omega, ← ht]
                exact (Int.ofNat_tmod x (j + 1)).symm
              rw [htI]
              have hch := chain_loop (t := t) HNX.out.1 HNX.out.2.1 HNX.out.2.2 htd HN.out HBK.out HBGG.out hjx
              obtain ⟨w9, hw9⟩ : ∃ w9, (((w8.alloc (.cells #[.int .i64 (t : Int)] 3)).setCell ⟨g, j * 5 + 4, none⟩ (.slice (some ⟨w8.heap.size, 0, none⟩) 1 1)).drew) = w9 := ⟨_, rfl⟩
              rw [hw9] at hch
              (try rw [hw9])
              have HCH := Lib.hid hch
              clear hw9 hch ht htd htI q0 q4 qf pcA pc4 pcf pn e2 e3 hj1I hjN HN HAR HBK HBGG hxj hjx hxl HNX
              obtain ⟨fv, HFV, hfv⟩ : ∃ fv : Nat, Hid ((if j > 32 then 5 else 0) = fv) ∧ ((32 < j ∧ fv = 5) ∨ (j ≤ 32 ∧ fv = 0)) := by
                rcases Nat.lt_or_ge 32 j with hb | hb
                · exact ⟨5, Lib.hid (by rw [if_pos hb]), .inl ⟨hb, rfl⟩⟩
                · exact ⟨0, Lib.hid (by rw [if_neg (by omega)]), .inr ⟨hb, rfl⟩⟩
              rcases hfv with ⟨hfb, rfl⟩ | ⟨hfb, rfl⟩
              all_goals (first | have hfI : (32 : Int) < (j : Int) := by omega
                               | have hfI : ¬ (32 : Int) < (j : Int) := by omega)
              all_goals
                obtain ⟨ys, l, t0, hcT, hcB, hcL, hct, hcl⟩ := HCH.out
                have hgc : gb + 1 < cb := by have := HT4.out.2.1.lt; have := HCB.out; omega
                have hb1 : Below gb w w9 := HT4.out.2.2.trans (hcL.mono (by omega))
                have hUW : UT w9 := UT.stays _ _ HUT.out (by rw [HGB.out]; exact hb1)
                have hwB := HT4.out.2.1.below hcL hgc
                have hwk := wide_chk (HT4.out.1.later (by rw [HCB.out]; exact hcL)) hn0N (by omega) hUW
                rw [HCW.out] at hwk
                have HWK := Lib.hid hwk
                have hck := chain_chk hcT (by omega) hct hcl hUW
                rw [HFV.out] at hck
                have HCK := Lib.hid hck
                have HB1 := Lib.hid hb1
                have HCBX := Lib.hid hcB
                have HSZ : Hid (gb ≤ w9.heap.size) := Lib.hid (by have := hcB.lt; omega)
                have p0 : w9.cell? ⟨gb + 1, 0, none⟩ = some (.slice (some ⟨gb, 0, none⟩) n n) := hwB.cell 0
                have p1 : w9.cell? ⟨gb + 1, 1, none⟩ = some (.int .i64 0) := hwB.cell 1
                clear hcT hcB hcL hct hcl hb1 hUW hwB hwk hck hgc HCH HT4
                go_wp2_with fail
                refine (HWK.out w9 (Below.refl _ _)).mono ?_
                rintro e wA ⟨rfl, hbA⟩
                have hcB2 := HCBX.out.below hbA HCBX.out.lt
                have r0 := hcB2.cell 0
                have r1 := hcB2.cell 1
                have HCK2 := Lib.hid (HCK.out.later hbA)
                have HBA : Hid (Below gb w wA) := Lib.hid (HB1.out.trans (hbA.mono HSZ.out))
                have HSA : Hid (gb ≤ wA.heap.size) := Lib.hid (Nat.le_trans HSZ.out hbA.size)
                change wA.cell? ⟨cb, 0, none⟩ = some (.slice (some ⟨g, 0, none⟩) (j + 1) c2) at r0
                change wA.cell? ⟨cb, 1, none⟩ = some (.int .i64 0) at r1
                clear hbA hcB2 p0 p1
                go_wp2_with fail
                refine (HCK2.out wA (Below.refl _ _)).mono ?_
                rintro e wB ⟨rfl, hbB⟩
                have HBB : Hid (Below gb w wB) := Lib.hid (HBA.out.trans (hbB.mono HSA.out))
                have HSB : Hid (gb ≤ wB.heap.size) := Lib.hid (Nat.le_trans HSA.out hbB.size)
                have HAW := Lib.hid (awake_any wB (UT.stays _ _ HUT.out (by rw [HGB.out]; exact HBB.out)))
                clear hbB r0 r1
                go_wp2_with fail
                refine HAW.out.mono ?_
                rintro e wC ⟨rfl, hbC⟩
                have HBC : Hid (Below gb w wC) := Lib.hid (HBB.out.trans (hbC.mono HSB.out))
                clear hbC
                go_wp2_with fail
                go_ret
                exact ⟨rfl, by rw [HGB.out]; exact HBC.out⟩
            case false =>
              have HCH : Hid (ChainAt cb j (.slice A2 (j + 1) c2) wq w8) := Lib.hid ⟨_, [], j, HNX.out.1, HNX.out.2.1, HNX.out.2.2, Nat.le_refl _, .inr ⟨rfl, rfl⟩⟩
              clear HNX
              obtain ⟨fv, HFV, hfv⟩ : ∃ fv : Nat, Hid ((if j > 32 then 5 else 0) = fv) ∧ ((32 < j ∧ fv = 5) ∨ (j ≤ 32 ∧ fv = 0)) := by
                rcases Nat.lt_or_ge 32 j with hb | hb
                · exact ⟨5, Lib.hid (by rw [if_pos hb]), .inl ⟨hb, rfl⟩⟩
                · exact ⟨0, Lib.hid (by rw [if_neg (by omega)]), .inr ⟨hb, rfl⟩⟩
              rcases hfv with ⟨hfb, rfl⟩ | ⟨hfb, rfl⟩
              all_goals (first | have hfI : (32 : Int) < (j : Int) := by omega
                               | have hfI : ¬ (32 : Int) < (j : Int) := by omega)
              all_goals
                obtain ⟨ys, l, t0, hcT, hcB, hcL, hct, hcl⟩ := HCH.out
                have hgc : gb + 1 < cb := by have := HT4.out.2.1.lt; have := HCB.out; omega
                have hb1 : Below gb w w8 := HT4.out.2.2.trans (hcL.mono (by omega))
                have hUW : UT w8 := UT.stays _ _ HUT.out (by rw [HGB.out]; exact hb1)
                have hwB := HT4.out.2.1.below hcL hgc
                have hwk := wide_chk (HT4.out.1.later (by rw [HCB.out]; exact hcL)) hn0N (by omega) hUW
                rw [HCW.out] at hwk
                have HWK := Lib.hid hwk
                have hck := chain_chk hcT (by omega) hct hcl hUW
                rw [HFV.out] at hck
                have HCK := Lib.hid hck
                have HB1 := Lib.hid hb1
                have HCBX := Lib.hid hcB
                have HSZ : Hid (gb ≤ w8.heap.size) := Lib.hid (by have := hcB.lt; omega)
                have p0 : w8.cell? ⟨gb + 1, 0, none⟩ = some (.slice (some ⟨gb, 0, none⟩) n n) := hwB.cell 0
                have p1 : w8.cell? ⟨gb + 1, 1, none⟩ = some (.int .i64 0) := hwB.cell 1
                clear hcT hcB hcL hct hcl hb1 hUW hwB hwk hck hgc HCH HT4
                go_wp2_with fail
                refine (HWK.out w8 (Below.refl _ _)).mono ?_
                rintro e wA ⟨rfl, hbA⟩
                have hcB2 := HCBX.out.below hbA HCBX.out.lt
                have r0 := hcB2.cell 0
                have r1 := hcB2.cell 1
                have HCK2 := Lib.hid (HCK.out.later hbA)
                have HBA : Hid (Below gb w wA) := Lib.hid (HB1.out.trans (hbA.mono HSZ.out))
                have HSA : Hid (gb ≤ wA.heap.size) := Lib.hid (Nat.le_trans HSZ.out hbA.size)
                change wA.cell? ⟨cb, 0, none⟩ = some (.slice A2 (j + 1) c2) at r0
                change wA.cell? ⟨cb, 1, none⟩ = some (.int .i64 0) at r1
                clear hbA hcB2 p0 p1
                go_wp2_with fail
                refine (HCK2.out wA (Below.refl _ _)).mono ?_
                rintro e wB ⟨rfl, hbB⟩
                have HBB : Hid (Below gb w wB) := Lib.hid (HBA.out.trans (hbB.mono HSA.out))
                have HSB : Hid (gb ≤ wB.heap.size) := Lib.hid (Nat.le_trans HSA.out hbB.size)
                have HAW := Lib.hid (awake_any wB (UT.stays _ _ HUT.out (by rw [HGB.out]; exact HBB.out)))
                clear hbB r0 r1
                go_wp2_with fail
                refine HAW.out.mono ?_
                rintro e wC ⟨rfl, hbC⟩
                have HBC : Hid (Below gb w wC) := Lib.hid (HBB.out.trans (hbC.mono HSB.out))
                clear hbC
                go_wp2_with fail
                go_ret
                exact ⟨rfl, by rw [HGB.out]; exact HBC.out⟩
end Go.Proofs.YtoigpackhninoaaGreatDoor
