/- A reference pushed onto the items of a table's first node; the literal of one node. -/
import Derived.Test.YtoigpackhninoaaGreatDoorGrNat
namespace Go.Proofs.YtoigpackhninoaaGreatDoor
open Go.RowKit
theorem Tab.push {B : Nat} {w1 w2 : World} {g n cap k : Nat} {x : NV} {vl : List NV} {m : Gr.Nd} {nl : List Gr.Nd} {v : Value} (h : Tab B w1 (.slice (some ⟨g, 0, none⟩) n cap) (x :: vl) (m :: nl))
    (hown : OwnRow intL w2 B 3 v (m.items ++ [k])) (hg : w1.grownBy w2 x.i.v.ownBlock) (hat : v.ownBlock = x.i.v.ownBlock ∨ v.ownBlock = some w1.heap.size) :
    ∃ i : SV, v = i.v ∧ Tab B (w2.setCell ⟨g, 4, none⟩ v) (.slice (some ⟨g, 0, none⟩) n cap) ({ x with i := i } :: vl) ({ m with items := m.items ++ [k] } :: nl) ∧ (∀ t, t ≠ 35 → t ≠ 3 → KeptT t w1 (w2.setCell ⟨g, 4, none⟩ v)) ∧ (B ≤ w1.heap.size → Below B w1 (w2.setCell ⟨g, 4, none⟩ v)) := by
  obtain ⟨A, c, hv, _⟩ := hown.form
  have hi : ints (x :: vl) 0 true = x.i := rfl
  have hm : intsOf (m :: nl) 0 true = m.items := rfl
  have ho := h.rows.own 0 true
  rw [hi, hm] at ho
  have hkN : KeptT 35 w1 w2 := KeptT.grown hg ho (by decide)
  obtain ⟨g', cap', rest, hv', hcap, hb, hbg, hback⟩ := h.row.row (by simp)
  obtain ⟨rfl, rfl, rfl⟩ : g = g' ∧ n = (x :: vl).length ∧ cap = cap' := by
    injection hv' with e1 e2 e3
    injection e1 with e1
    injection e1 with e1
    exact ⟨e1, e2, e3⟩
  have hb2 := hkN _ _ hb
  have h5 := nodes_setI hb2 0 (by simp) ⟨A, (m.items ++ [k]).length, c⟩
  have hv2 : v = (⟨A, (m.items ++ [k]).length, c⟩ : SV).v := hv
  rw [← hv2, Nat.zero_mul, Nat.zero_add] at h5
  have hk2 : KeptT 3 w2 (w2.setCell ⟨g, 4, none⟩ v) := KeptT.setCell (p := ⟨g, 4, none⟩) hb2 (by decide) v
  refine ⟨⟨A, (m.items ++ [k]).length, c⟩, hv2, ⟨hback _ _ (by simp) h5, ?_⟩, ?_, ?_⟩
  · have hr := h.rows.grow (w' := w2) 0 true { x with i := ⟨A, (m.items ++ [k]).length, c⟩ } { m with items := m.items ++ [k] } (by simp) ⟨rfl, rfl, rfl⟩ ⟨rfl, rfl, rfl⟩ rfl rfl (by rw [if_pos rfl, if_pos rfl, ← hv2]; exact hown) hg (by rw [if_pos rfl, ← hv2]; exact hat)
    exact hr.kept hk2
  · intro t h1 h2
    exact (KeptT.grown hg ho (fun e => h2 e.symm)).trans (KeptT.setCell (p := ⟨g, 4, none⟩) hb2 h1 v)
  · intro hB
    exact (ho.grown_below hg hB).setCell hbg v
/-- a table of one node, both its lists nil. -/
theorem Tab.one {B : Nat} {w : World} {g : Nat} {kind : Int} {text : Gr.Str} {ord : Bool} (h : Blk w g 35 #[.int .i64 kind, .string ⟨text.toArray⟩, .bool ord, .slice none 0 0, .slice none 0 0]) (hB : B ≤ g) :
    Tab B w (.slice (some ⟨g, 0, none⟩) 1 1) [⟨kind, text, ord, SV.nil, SV.nil⟩] [⟨kind, text, ord, [], []⟩] := by
  have hr := (Rows.nil B w).snoc ⟨kind, text, ord, SV.nil, SV.nil⟩ ⟨kind, text, ord, [], []⟩ ⟨rfl, rfl, rfl⟩ OwnRow.nil OwnRow.nil (fun g h => by simp [SV.nil, SV.v, Value.ownBlock] at h) (fun j b g h => by simp [ints, SV.nil, SV.v, Value.ownBlock] at h)
  refine ⟨⟨nodeL.all_len _, .inr ⟨g, 1, _, rfl, hB, h, Nat.le_refl _, by decide, rfl, rfl⟩⟩, hr⟩
/-- an argument: a graph whose references are any integers. -/
structure GArg where
  a : Option Addr
  c : Nat
  root : Int
  vs : List NV
  is : List Gr.Ni
def GArg.v (x : GArg) : Value := .agg #[.slice x.a x.is.length x.c, .int .i64 x.root]
def argL : Lay GArg := { enc := fun x => [.slice x.a x.is.length x.c, .int .i64 x.root], sz := 2, len := fun _ => rfl, one := fun x u hu => by simp at hu; rcases hu with rfl | rfl <;> rfl, pos := by omega }
theorem arg_at {w : World} {B : Nat} {A : Option Addr} {l : List GArg} {k : Nat} (h : RowAt argL w B A l) (hk : k < l.length) : ∃ ad, A = some ad ∧ ad.block < B ∧ w.cell? (ad.add (k * 2)) = some (.slice l[k].a l[k].is.length l[k].c) ∧
    w.cell? { block := (ad.add (k * 2)).block, off := (ad.add (k * 2)).off + 1 } = some (.int .i64 l[k].root) := by
  obtain ⟨ad, h1, h2, h3, h4⟩ := h.get hk
  exact ⟨ad, h1, h2, h3 _ rfl, h4 1 _ (by omega) rfl⟩
/-- graphs that can be read. -/
structure GsAt (w : World) (B : Nat) (A : Option Addr) (l : List GArg) : Prop where
  row : RowAt argL w B A l
  each : ∀ x ∈ l, IAt w B x.a x.vs x.is
theorem GsAt.below {w w' : World} {B : Nat} {A : Option Addr} {l : List GArg} (h : GsAt w B A l) (hb : Below B w w') : GsAt w' B A l := ⟨h.row.below hb, fun x hx => (h.each x hx).below hb⟩
theorem GsAt.more {w : World} {B B' : Nat} {A : Option Addr} {l : List GArg} (h : GsAt w B A l) (hB : B ≤ B') : GsAt w B' A l := ⟨h.row.more hB, fun x hx => (h.each x hx).more hB⟩
namespace Gr
/-- the nodes of a list, a graph at a time. -/
def push0 (k : Nat) : List Nd → List Nd
  | [] => []
  | m :: l => { m with items := m.items ++ [k] } :: l
def lstep (ns : List Nd) (g : List Ni × Int) : List Nd := push0 (g.2.toNat + ns.length) (ns ++ (g.1.map Ni.nd).map (shN ns.length))
def listN (gs : List (List Ni × Int)) : List Nd := gs.foldl lstep [⟨9, [], false, [], []⟩]
theorem push0_len (k : Nat) (l : List Nd) : (push0 k l).length = l.length := by cases l <;> rfl
theorem lstep_len (ns : List Nd) (g : List Ni × Int) : (lstep ns g).length = ns.length + g.1.length := by
  unfold lstep; rw [push0_len]; simp
end Gr
def GArg.p (x : GArg) : List Gr.Ni × Int := (x.is, x.root)
def GArg.chk (sclr : Int → Gr.Str → Bool) (x : GArg) : Nat := checkI sclr x.is x.root
theorem chk_ok {sclr : Int → Gr.Str → Bool} {x : GArg} (h : x.chk sclr = 0) : x.is.length ≤ 4096 ∧ 0 < x.is.length ∧ Gr.indB x.is x.root = true := by
  unfold GArg.chk checkI at h
  by_cases h1 : x.is.length > 4096
  · rw [if_pos h1] at h; cases h
  · rw [if_neg h1] at h
    by_cases h2 : x.is.length = 0 ∨ Gr.indB x.is x.root = false
    · rw [if_pos h2] at h; cases h
    · refine ⟨by omega, by omega, ?_⟩
      cases h3 : Gr.indB x.is x.root with
      | false => exact absurd (.inr h3) h2
      | true => rfl
theorem ind_ok {is : List Gr.Ni} {root : Int} (h : Gr.indB is root = true) : ∃ r : Nat, root = (r : Int) ∧ r < is.length ∧ (∀ x ∈ is, ∀ y ∈ x.keys ++ x.items, 0 ≤ y) ∧ Gr.Refs (is.map Gr.Ni.nd) := by
  unfold Gr.indB at h
  rw [Bool.and_eq_true] at h
  have h1 := h.1
  simp only [Gr.inR, Bool.and_eq_true, decide_eq_true_eq] at h1
  refine ⟨root.toNat, by omega, by omega, ?_, ?_⟩
  · exact (rng_refs h.2).1
  · exact (rng_refs h.2).2
end Go.Proofs.YtoigpackhninoaaGreatDoor
