/- A region that draws its order, whose operations read and whose calls make memory: one walk in the order of the text (the library's law on a class of worlds, at the class of the worlds that have grown above B). -/
import Derived.Test.YtoigpackhninoaaGreatDoorGrTwice
import Derived.BigQuiet
namespace Go.Proofs.YtoigpackhninoaaGreatDoor
open Go.RowKit
/-- a world that is as w0 was below B. -/
structure WB (B : Nat) (w0 : World) where
  w : World
  h : Below B w0 w
instance WB.inst (B : Nat) (w0 : World) : Nonempty (WB B w0) := ⟨⟨w0, Below.refl _ _⟩⟩
theorem wp_region_grow {P : Program} {id : Nat} {Q : Exit → Act → World → Prop} {a : Act} {w : World} {l : List Oper} (B : Nat) (w0 : World) (hm : P.follows .mixedOrders = true) (hB : Region.lexB .any l.toArray = true) (h0 : Below B w0 w)
    (h : wpQuiet P l.toArray (fun W => ∃ x : WB B w0, W = x.w) (fun a' => ∀ W, (∃ x : WB B w0, W = x.w) → Q .normal a' W) l a) : (Code.region id l.toArray true).wp P Q a w :=
  wp_region_quiet (C := fun W => ∃ x : WB B w0, W = x.w) hm hB ⟨⟨_, below_drewN h0 1⟩, rfl⟩ (by simpa using h)
/-- a call, met in such a world. -/
theorem Calls.grow {P : Program} {f : FuncId} {args : Array Value} {B : Nat} {w0 : World} {x : WB B w0} {v : Value} (h : Calls P f args x.w fun e w' => e = .returned v ∧ Below B w0 w') :
    Calls P f args x.w fun e w'' => e = .returned v ∧ ∃ y : WB B w0, w'' = y.w := h.mono fun _ _ ⟨he, hb⟩ => ⟨he, ⟨_, hb⟩, rfl⟩
end Go.Proofs.YtoigpackhninoaaGreatDoor
