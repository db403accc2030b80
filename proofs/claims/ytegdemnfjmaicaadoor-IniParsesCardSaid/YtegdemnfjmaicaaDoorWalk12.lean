/- Walks: an entry's line. -/
import Derived.Test.YtegdemnfjmaicaaDoorWalk11
import Derived.Deep.RegionWith
import Derived.Deep.DeepCutAuto
import Derived.Deep.CutBlock
import Derived.Outline
namespace Go.Proofs.YtegdemnfjmaicaaDoor
open Go.RowKit
/-- the span's box. -/
def spCells (b tz2 a en : Nat) : Array Value := #[.int .i64 0, .int .i64 0, .int .i64 0, .int .i64 (b : Nat), .int .i64 (tz2 : Nat), .int .i64 (a : Nat), .int .i64 (en : Nat), .bool false, .bool true]
theorem not_quote (s : Ini.Str) (b tz : Nat) (ht : tz ≤ s.length) (hq : ∀ h : b < tz, s[b]'(by omega) ≠ 34) :
    (∃ h : b < (⟨s.toArray⟩ : ByteArray).size, (b : Int) < tz ∧ ¬ (((⟨s.toArray⟩ : ByteArray)[b]'h).toNat : Int) = 34) ∨ ¬ ((b : Int) < (tz : Int)) := by
  by_cases h : b < tz
  · exact .inl ⟨by simp [ByteArray.size]; omega, by omega, byte_not s b (by omega) _ 34 34 rfl rfl (hq h)⟩
  · exact .inr (by omega)
theorem is_quote (s : Ini.Str) (b tz : Nat) (ht : tz ≤ s.length) (h : b < tz) (hq : s[b]'(by omega) = 34) :
    ∃ h : b < (⟨s.toArray⟩ : ByteArray).size, (b : Int) < tz ∧ (((⟨s.toArray⟩ : ByteArray)[b]'h).toNat : Int) = 34 :=
  ⟨by simp [ByteArray.size]; omega, by omega, byte_is s b (by omega) _ 34 34 rfl rfl hq⟩
section
variable {B : Nat} {V : PV} {w w' w2 : World} {pb g : Nat} {s : Ini.Str} {st st' : Ini.St} {t : TypeId} {cs : Array Value}
theorem PAt.alloc (h : PAt B V w pb s st) (o : Obj) : PAt B V (w.alloc o) pb s st := h.later ((Below.refl _ _).alloc (Nat.le_refl _) o)
theorem PAt.drew (h : PAt B V w pb s st) : PAt B V w.drew pb s st := h.later (Below.refl _ _).drew
theorem PNext.box (h : PNext B V w w' pb s st') (hp : PAt B V w2 pb s st) (hb : Blk w g t cs) (hg : w2.heap.size ≤ g) : Blk w' g t cs := by
  obtain ⟨V', _, _, hk⟩ := h
  exact hk.blk hb (fun e => by have := (hp.own_lt e).2; omega)
theorem PNext.setBox (h : PNext B V w w' pb s st') (hb : Blk w' g 60 cs) (hg : w.heap.size ≤ g) (i : Nat) (u : Value) : PNext B V w (w'.setCell ⟨g, i, none⟩ u) pb s st' := by
  obtain ⟨V', h1, h2, h3⟩ := h
  have kT : ∀ t, t ≠ 60 → KeptT t w' (w'.setCell ⟨g, i, none⟩ u) := fun t ht => KeptT.setCell (p := ⟨g, i, none⟩) hb ht u
  exact ⟨V', ⟨h1.le, by rw [setCell_size]; exact h1.base, kT 62 (by decide) _ _ h1.blk, h1.nodes.kept (kT _ (by decide)), h1.spans.kept (kT _ (by decide)), h1.notes.kept (kT _ (by decide)), h1.rows.kept (kT _ (by decide))⟩, h2,
    h3.setCell (p := ⟨g, i, none⟩) (.inr hg) u⟩
theorem PNext.drew (h : PNext B V w w' pb s st') : PNext B V w w'.drew pb s st' := h.later (Below.refl _ _).drew
theorem FPost.drew {a e : Nat} (h : FPost w w' pb a e) (hl : pb < w.heap.size) : FPost w w'.drew pb a e := h.later hl (Below.refl _ _).drew
end
end Go.Proofs.YtegdemnfjmaicaaDoor
