/- Check of a graph whose references are indices; checked, Size, Depth, Scalar. -/
import Derived.Test.YtoigpackhninoaaGreatDoorGrAppd
import Derived.Test.YtoigpackhninoaaGreatDoorGrScal
namespace Go.Proofs.YtoigpackhninoaaGreatDoor
namespace Gr
def Nd.ni (x : Nd) : Ni := ⟨x.kind, x.text, x.ord, x.keys.map Int.ofNat, x.items.map Int.ofNat⟩
theorem ni_nd (x : Nd) : x.ni.nd = x := by
  cases x
  simp [Nd.ni, Ni.nd, Function.comp_def]
theorem ni_map (ns : List Nd) : (ns.map Nd.ni).map Ni.nd = ns := by
  rw [List.map_map]
  conv => rhs; rw [← List.map_id ns]
  exact List.map_congr_left (fun x _ => ni_nd x)
theorem indB_ni (ns : List Nd) (root : Nat) (hr : Refs ns) (hroot : root < ns.length) : indB (ns.map Nd.ni) (root : Int) = true := by
  unfold indB inR
  simp only [List.length_map, Bool.and_eq_true, decide_eq_true_eq]
  refine ⟨⟨by omega, by omega⟩, ?_⟩
  rw [List.all_map, List.all_eq_true]
  intro x hx
  show rng ns.length x.ni = true
  unfold rng
  rw [show x.ni.keys ++ x.ni.items = (x.keys ++ x.items).map Int.ofNat from by simp [Nd.ni], List.all_map, List.all_eq_true]
  intro y hy
  have := hr x hx y hy
  simp [inR]; omega
end Gr
open Go.RowKit
theorem intI_of (l : List Nat) : intI.all (l.map Int.ofNat) = intL.all l := by
  induction l with
  | nil => rfl
  | cons x l ih =>
    have e1 : intI.all (Int.ofNat x :: l.map Int.ofNat) = intI.enc (Int.ofNat x) ++ intI.all (l.map Int.ofNat) := rfl
    have e2 : intL.all (x :: l) = intL.enc x ++ intL.all l := rfl
    rw [List.map_cons, e1, e2, ih]
    rfl
theorem intI_of_row {w : World} {B : Nat} {A : Option Addr} {l : List Nat} (h : RowAt intL w B A l) : RowAt intI w B A (l.map Int.ofNat) := by
  unfold RowAt at h ⊢
  rw [intI_of, List.length_map]
  exact h
theorem GAt.toI {w : World} {B : Nat} {A : Option Addr} {vs : List NV} {ns : List Gr.Nd} (h : GAt w B A vs ns) : IAt w B A vs (ns.map Gr.Nd.ni) := by
  refine ⟨h.row, by simp [h.len], fun j h1 h2 => ?_, fun j h1 h2 => ?_⟩
  · rw [List.length_map] at h2
    rw [List.getElem_map]
    exact h.kind j h1 h2
  · rw [List.length_map] at h2
    rw [List.getElem_map]
    obtain ⟨a, b, c, d⟩ := h.nums j h1 h2
    exact ⟨intI_of_row a, by rw [b]; simp [Gr.Nd.ni], intI_of_row c, by rw [d]; simp [Gr.Nd.ni]⟩
/-- what Check answers for a graph whose references are indices. -/
def checkG (sclr : Int → Gr.Str → Bool) (ns : List Gr.Nd) (root : Nat) : Nat := if ns.length > 4096 then 7 else Gr.checkN sclr ns root
theorem check_g (T : World → Prop) (hT : Stays T) (sclr : Int → Gr.Str → Bool) (A : Option Addr) (c root : Nat) (vs : List NV) (ns : List Gr.Nd) (hks : NH ns) (hsc : ScalsOk T sclr ns) (hl : ns.length ≤ 1073741823) (hr : Gr.Refs ns) (hroot : root < ns.length) (w : World) (hTw : T w) (h : GAt w w.heap.size A vs ns) :
    Calls Tryz.prog 14 #[.agg #[.slice A ns.length c, .int .i64 root]] w fun e w' => e = .returned (.int .i64 (checkG sclr ns root : Nat)) ∧ Below w.heap.size w w' := by
  have := check_any T hT sclr A c (root : Int) vs (ns.map Gr.Nd.ni) (by rw [Gr.ni_map]; exact hks) (by rw [Gr.ni_map]; exact hsc) (by simpa using hl) w hTw h.toI
  rw [List.length_map] at this
  have e : checkI sclr (ns.map Gr.Nd.ni) (root : Int) = checkG sclr ns root := by
    unfold checkI checkG
    rw [List.length_map, Gr.ni_map, Gr.indB_ni ns root hr hroot]
    by_cases h1 : ns.length > 4096
    · rw [if_pos h1, if_pos h1]
    · rw [if_neg h1, if_neg h1, if_neg (by simp; intro e; rw [e] at hroot; simp at hroot), Int.toNat_natCast]
  rw [e] at this
  exact this
/-- Check's answer on a value, wherever what lies below stands as now. -/
def ChkOk (w : World) (g : Value) (chk : Nat) : Prop := ∀ W, Below w.heap.size w W → Calls Tryz.prog 14 #[g] W fun e w' => e = .returned (.int .i64 (chk : Nat)) ∧ Below W.heap.size W w'
theorem ChkOk.later {w w' : World} {g : Value} {chk : Nat} (h : ChkOk w g chk) (hb : Below w.heap.size w w') : ChkOk w' g chk := fun W hW => h W (hb.trans (hW.mono hb.size))
/-- the empty graph. -/
def gZero : Value := .agg #[.slice none 0 0, .int .i64 0]
set_option maxRecDepth 100000 in
set_option maxHeartbeats 4000000 in
theorem checked_any (A : Option Addr) (n c : Nat) (root : Int) (chk : Nat) (w : World) (h : ChkOk w (.agg #[.slice A n c, .int .i64 root]) chk) :
    Calls Tryz.prog 50 #[.agg #[.slice A n c, .int .i64 root]] w fun e w' => e = .returned (.tuple #[if chk = 0 then .agg #[.slice A n c, .int .i64 root] else gZero, .int .i64 (chk : Nat)]) ∧ Below w.heap.size w w' := by
  have HC := Lib.hid h
  clear h
  go_enter Tryz.func50, Tryz.ntmps50
  go_upto_region 1 with fail
  obtain ⟨w1, hw1⟩ : ∃ w1, (w.alloc (.cells #[.slice A n c, .int .i64 root] 24)).alloc (.cells #[.slice none 0 0, .int .i64 0] 24) = w1 := ⟨_, rfl⟩
  obtain ⟨gb, hgb⟩ : ∃ gb, w.heap.size = gb := ⟨_, rfl⟩
  have b1 : Blk w1 gb 24 #[.slice A n c, .int .i64 root] := by rw [← hw1, ← hgb]; exact (Blk.new _ _ _).alloc _
  have b2 : Blk w1 (gb + 1) 24 #[.slice none 0 0, .int .i64 0] := by rw [← hw1, ← hgb]; have := Blk.new (w.alloc (.cells #[.slice A n c, .int .i64 root] 24)) 24 #[.slice none 0 0, .int .i64 0]; rwa [World.size_alloc] at this
  have l1 : Below gb w w1 := by rw [← hw1, ← hgb]; exact ((Below.refl _ _).alloc (Nat.le_refl _) _).alloc (by simp) _
  have HL1 := Lib.hid l1
  have HGB := Lib.hid hgb
  have HCC : Hid (ChkOk w1 (.agg #[.slice A n c, .int .i64 root]) chk) := Lib.hid (HC.out.later (by rw [hgb]; exact l1))
  have HB1 := Lib.hid b1
  have HB2 := Lib.hid b2
  have g0 : w1.cell? ⟨gb, 0, none⟩ = some (.slice A n c) := b1.cell 0
  have g1 : w1.cell? ⟨gb, 1, none⟩ = some (.int .i64 root) := b1.cell 1
  (try rw [hw1])
  (try rw [hgb])
  clear hw1 hgb b1 b2 l1
  go_wp2_with fail
  refine (HCC.out w1 (Below.refl _ _)).mono ?_
  rintro e w2 ⟨rfl, hb2⟩
  have hc1 := HB1.out.below hb2 HB1.out.lt
  have hc2 := HB2.out.below hb2 HB2.out.lt
  have HLB : Hid (Below gb w w2) := Lib.hid (HL1.out.trans (hb2.mono (by have := HB1.out.lt; omega)))
  have k0 : w2.cell? ⟨gb, 0, none⟩ = some (.slice A n c) := hc1.cell 0
  have k1 : w2.cell? ⟨gb, 1, none⟩ = some (.int .i64 root) := hc1.cell 1
  have d0 : w2.cell? ⟨gb + 1, 0, none⟩ = some (.slice none 0 0) := hc2.cell 0
  have d1 : w2.cell? ⟨gb + 1, 1, none⟩ = some (.int .i64 0) := hc2.cell 1
  have df : ∀ i, w2.frozen? ⟨gb + 1, i, none⟩ = false := hc2.frozen
  have HC2 := Lib.hid hc2
  clear hb2 hc1 hc2 g0 g1
  by_cases h0 : chk = 0
  · subst h0
    go_wp2_with fail
    have e0 := ((HC2.out.set_ 0 (.slice A n c)).set_ 1 (.int .i64 root)).cell 0
    have e1 := ((HC2.out.set_ 0 (.slice A n c)).set_ 1 (.int .i64 root)).cell 1
    refine bodyPost_ret (v := .tuple #[.agg #[.slice A n c, .int .i64 root], .int .i64 0]) (by rw [results_cell_tmp rfl]; go_simp) rfl ⟨rfl, ?_⟩
    rw [HGB.out]
    exact (HLB.out.setCell (by simp) _).setCell (by simp) _
  · have h0I : ((chk : Int) == 0) = false := by rw [beq_eq_false_iff_ne]; omega
    go_wp2_with fail
    refine bodyPost_ret (v := .tuple #[gZero, .int .i64 chk]) (by rw [results_cell_tmp rfl]; go_simp; rfl) rfl ⟨by first | rfl | rw [if_neg h0], ?_⟩
    rw [HGB.out]
    exact (HLB.out.setCell (by simp) _).setCell (by simp) _
set_option maxRecDepth 100000 in
set_option maxHeartbeats 4000000 in
theorem size_any (A : Option Addr) (n c : Nat) (root : Int) (chk : Nat) (w : World) (h : ChkOk w (.agg #[.slice A n c, .int .i64 root]) chk) :
    Calls Tryz.prog 21 #[.agg #[.slice A n c, .int .i64 root]] w fun e w' => e = .returned (.int .i64 (if chk = 0 then (n : Int) else 0)) ∧ Below w.heap.size w w' := by
  obtain ⟨w1, hw1⟩ : ∃ w1, w.alloc (.cells #[.slice A n c, .int .i64 root] 24) = w1 := ⟨_, rfl⟩
  have l1 : Below w.heap.size w w1 := by rw [← hw1]; exact (Below.refl _ _).alloc (Nat.le_refl _) _
  have HCC : Hid (ChkOk w1 (.agg #[.slice A n c, .int .i64 root]) chk) := Lib.hid (h.later l1)
  have HL1 := Lib.hid l1
  clear h l1
  go_enter Tryz.func21, Tryz.ntmps21
  go_upto_region 1 with fail
  have b1 : Blk w1 w.heap.size 24 #[.slice A n c, .int .i64 root] := by rw [← hw1]; exact Blk.new _ _ _
  have g0 : w1.cell? ⟨w.heap.size, 0, none⟩ = some (.slice A n c) := b1.cell 0
  have g1 : w1.cell? ⟨w.heap.size, 1, none⟩ = some (.int .i64 root) := b1.cell 1
  have HB1 := Lib.hid b1
  (try rw [hw1])
  clear hw1 b1
  go_wp2_with fail
  refine (HCC.out w1 (Below.refl _ _)).mono ?_
  rintro e w2 ⟨rfl, hb2⟩
  have HLB : Hid (Below w.heap.size w w2) := Lib.hid (HL1.out.trans (hb2.mono HL1.out.size))
  have hc1 := HB1.out.below hb2 HB1.out.lt
  have k0 : w2.cell? ⟨w.heap.size, 0, none⟩ = some (.slice A n c) := hc1.cell 0
  clear hb2 hc1 g0 g1
  by_cases h0 : chk = 0
  · subst h0
    go_wp2_with fail
    go_ret
    exact ⟨rfl, HLB.out⟩
  · have h0I : ((chk : Int) == 0) = false := by rw [beq_eq_false_iff_ne]; omega
    go_wp2_with fail
    go_ret
    exact ⟨by first | rfl | (rw [if_neg h0]; rfl), HLB.out⟩
/-- depth's answer on a value, wherever what lies below stands as now. -/
def DepOk (w : World) (g : Value) (p : Int × Bool) : Prop := ∀ W, Below w.heap.size w W → Calls Tryz.prog 39 #[g] W fun e w' => e = .returned (.tuple #[.int .i64 p.1, .bool p.2]) ∧ Below W.heap.size W w'
set_option maxRecDepth 100000 in
set_option maxHeartbeats 4000000 in
theorem Depth_any (A : Option Addr) (n c : Nat) (root : Int) (chk : Nat) (p : Int × Bool) (w : World) (h : ChkOk w (.agg #[.slice A n c, .int .i64 root]) chk) (hd : chk = 0 → DepOk w (.agg #[.slice A n c, .int .i64 root]) p) :
    Calls Tryz.prog 22 #[.agg #[.slice A n c, .int .i64 root]] w fun e w' => e = .returned (.tuple #[.int .i64 (if chk = 0 then p.1 else 0), .bool (if chk = 0 then p.2 else false)]) ∧ Below w.heap.size w w' := by
  obtain ⟨w1, hw1⟩ : ∃ w1, w.alloc (.cells #[.slice A n c, .int .i64 root] 24) = w1 := ⟨_, rfl⟩
  have l1 : Below w.heap.size w w1 := by rw [← hw1]; exact (Below.refl _ _).alloc (Nat.le_refl _) _
  have HCC : Hid (ChkOk w1 (.agg #[.slice A n c, .int .i64 root]) chk) := Lib.hid (h.later l1)
  have HL1 := Lib.hid l1
  have HD := Lib.hid hd
  clear h l1 hd
  go_enter Tryz.func22, Tryz.ntmps22
  go_upto_region 1 with fail
  have b1 : Blk w1 w.heap.size 24 #[.slice A n c, .int .i64 root] := by rw [← hw1]; exact Blk.new _ _ _
  have g0 : w1.cell? ⟨w.heap.size, 0, none⟩ = some (.slice A n c) := b1.cell 0
  have g1 : w1.cell? ⟨w.heap.size, 1, none⟩ = some (.int .i64 root) := b1.cell 1
  have HB1 := Lib.hid b1
  (try rw [hw1])
  clear hw1 b1
  go_wp2_with fail
  refine (HCC.out w1 (Below.refl _ _)).mono ?_
  rintro e w2 ⟨rfl, hb2⟩
  have hlb : Below w.heap.size w w2 := HL1.out.trans (hb2.mono HL1.out.size)
  have HLB := Lib.hid hlb
  have hc1 := HB1.out.below hb2 HB1.out.lt
  have k0 : w2.cell? ⟨w.heap.size, 0, none⟩ = some (.slice A n c) := hc1.cell 0
  have k1 : w2.cell? ⟨w.heap.size, 1, none⟩ = some (.int .i64 root) := hc1.cell 1
  clear hb2 hc1 g0 g1 hlb
  by_cases h0 : chk = 0
  · have HDD := Lib.hid (HD.out h0 w2 HLB.out)
    subst h0
    go_wp2_with fail
    refine HDD.out.mono ?_
    rintro e w3 ⟨rfl, hb3⟩
    have HL3 : Hid (Below w.heap.size w w3) := Lib.hid (HLB.out.trans (hb3.mono HLB.out.size))
    clear hb3
    go_wp2_with fail
    go_ret2
    exact ⟨rfl, HL3.out⟩
  · have h0I : ((chk : Int) == 0) = false := by rw [beq_eq_false_iff_ne]; omega
    go_wp2_with fail
    go_ret2
    exact ⟨by first | rfl | (rw [if_neg h0, if_neg h0]; rfl), HLB.out⟩
/-- a graph of one node. -/
def SclPost (w : World) (kind : Int) (text : Gr.Str) (r : Bool) (e : Ending) (w' : World) : Prop :=
  Below w.heap.size w w' ∧ (r = false → e = .returned (.tuple #[gZero, .int .i64 3])) ∧ (r = true → ∃ g, w.heap.size ≤ g ∧ e = .returned (.tuple #[.agg #[.slice (some ⟨g, 0, none⟩) 1 1, .int .i64 0], .int .i64 0]) ∧ Blk w' g 35 #[.int .i64 kind, .string ⟨text.toArray⟩, .bool false, .slice none 0 0, .slice none 0 0])
set_option maxRecDepth 100000 in
set_option maxHeartbeats 4000000 in
theorem Scalar_any (T : World → Prop) (hT : Stays T) (kind : Int) (text : Gr.Str) (r : Bool) (hk : 0 ≤ kind) (hk8 : kind ≤ 8) (hs : ScalOk T kind text r) (w : World) (hTw : T w) :
    Calls Tryz.prog 16 #[.int .i64 kind, .string ⟨text.toArray⟩] w (SclPost w kind text r) := by
  have c1 : ¬ kind < 0 := by omega
  have c2 : ¬ (8 : Int) < kind := by omega
  obtain ⟨w1, hw1⟩ : ∃ w1, w.alloc (.cells #[.slice none 0 0, .int .i64 0] 24) = w1 := ⟨_, rfl⟩
  obtain ⟨gb, hgb⟩ : ∃ gb, w.heap.size = gb := ⟨_, rfl⟩
  have l1 : Below gb w w1 := by rw [← hw1, ← hgb]; exact (Below.refl _ _).alloc (Nat.le_refl _) _
  have b1 : Blk w1 gb 24 #[.slice none 0 0, .int .i64 0] := by rw [← hw1, ← hgb]; exact Blk.new _ _ _
  have HS := Lib.hid (hs w1 (hT _ _ hTw (by rw [hgb]; exact l1)))
  have HL1 := Lib.hid l1
  have HB1 := Lib.hid b1
  have HGB := Lib.hid hgb
  clear hs hTw l1 b1
  go_enter Tryz.func16, Tryz.ntmps16
  go_upto_region 1 with fail
  (try rw [hw1])
  (try rw [hgb])
  clear hw1 hgb
  go_wp2_with fail
  refine HS.out.mono ?_
  rintro e w2 ⟨rfl, hb2⟩
  have hc1 := HB1.out.below hb2 HB1.out.lt
  have HLB : Hid (Below gb w w2) := Lib.hid (HL1.out.trans (hb2.mono (by have := HB1.out.lt; omega)))
  have HC1 := Lib.hid hc1
  have df : ∀ i, w2.frozen? ⟨gb, i, none⟩ = false := hc1.frozen
  have df2 : ∀ o i, (w2.alloc o).frozen? ⟨gb, i, none⟩ = false := fun o => (hc1.alloc o).frozen
  have d0 : w2.cell? ⟨gb, 0, none⟩ = some (.slice none 0 0) := hc1.cell 0
  have d1 : w2.cell? ⟨gb, 1, none⟩ = some (.int .i64 0) := hc1.cell 1
  have d2 : ∀ o, (w2.alloc o).cell? ⟨gb, 0, none⟩ = some (.slice none 0 0) := fun o => (hc1.alloc o).cell 0
  have d3 : ∀ o, (w2.alloc o).cell? ⟨gb, 1, none⟩ = some (.int .i64 0) := fun o => (hc1.alloc o).cell 1
  have HSZ : Hid (gb < w2.heap.size) := Lib.hid hc1.lt
  clear hb2 hc1
  cases r with
  | false =>
    go_wp2_with fail
    refine bodyPost_ret (v := .tuple #[gZero, .int .i64 3]) (by rw [results_cell_tmp rfl]; go_simp; rfl) rfl ⟨?_, fun _ => rfl, fun h => nomatch h⟩
    rw [HGB.out]
    exact (HLB.out.setCell (by simp) _).setCell (by simp) _
  | true =>
    go_wp2_with fail
    obtain ⟨o, ho⟩ : ∃ o, Obj.cells #[Value.int IntKind.i64 kind, Value.string { data := List.toArray text }, Value.bool false, Value.slice none 0 0, Value.slice none 0 0] 35 = o := ⟨_, rfl⟩
    rw [ho]
    obtain ⟨ng, hng⟩ : ∃ ng, w2.heap.size = ng := ⟨_, rfl⟩
    rw [hng]
    have HC3 := ((HC1.out.alloc o).set_ 0 (.slice (some ⟨ng, 0, none⟩) 1 1)).set_ 1 (.int .i64 0)
    have e0 := HC3.cell 0
    have e1 := HC3.cell 1
    have HLB2 := HLB.out
    have HSZ2 := HSZ.out
    have hbn : Blk (w2.alloc o) ng 35 #[.int .i64 kind, .string ⟨text.toArray⟩, .bool false, .slice none 0 0, .slice none 0 0] := by rw [← hng, ← ho]; exact Blk.new _ _ _
    refine bodyPost_ret (v := .tuple #[.agg #[.slice (some ⟨ng, 0, none⟩) 1 1, .int .i64 0], .int .i64 0]) ?_ rfl (And.intro ?_ (And.intro (fun h => nomatch h) (fun _ => ⟨ng, ?_, rfl, ?_⟩)))
    · rw [results_cell_tmp rfl]; go_simp
    · rw [HGB.out]
      exact ((HLB2.alloc (by omega) o).setCell (by simp) _).setCell (by simp) _
    · rw [HGB.out]; omega
    · exact (hbn.far (by simp; omega) _).far (by simp; omega) _
end Go.Proofs.YtoigpackhninoaaGreatDoor
