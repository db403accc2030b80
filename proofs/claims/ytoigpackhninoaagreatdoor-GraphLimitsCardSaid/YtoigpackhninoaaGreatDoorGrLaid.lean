/- The seven tables of the library, as the rows list them. -/
import Derived.Test.YtoigpackhninoaaGreatDoorRows
import Derived.Test.YtoigpackhninoaaGreatDoorGrScal
import Derived.Lib.LaidU8T
import Derived.PinnedBridge
import Derived.Lay
import Derived.Deep.DeepHandedRow
import Derived.Deep.DeepWitnessRowRef
import Derived.ProofKit
import Derived.SizedLaws
namespace Go.Proofs.YtoigpackhninoaaGreatDoor
open Go.Shelf Go.Lib Go.ChangeShapes Go.WideShapes Go.ChangeAt Go.RowKit
/-- what each row lists. -/
def laid7 : List (String × DataW Unit) := Rows.graphLimitsRow.laid
theorem own : ownKnob Tryz.prog.godebug = none := by kernel_rfl
theorem first_eq : Rows.laid_unicode_utf8_first = Lib.firstData := by kernel_rfl
theorem accept_eq : (Rows.laid_unicode_utf8_acceptRanges : DataW Unit) = Lib.acceptData := by kernel_rfl
/-- the witness's world. -/
noncomputable def laidWorld (os : Os) : World := World.laidAll Tryz.prog os laid7
theorem laid_met (os : Os) (args : Array Value) : laidMet Tryz.prog laid7 ((laidWorld os).forCall (fun _ _ => 0) ⟨#[], args, []⟩).memory := laidMet_laidAll _ (by kernel_rfl) (by kernel_rfl)
theorem mem_first : ("unicode/utf8.first", Lib.firstData) ∈ laid7 := by
  rw [← first_eq]
  exact .tail _ (.tail _ (.tail _ (.tail _ (.tail _ (.tail _ (.head _))))))
theorem mem_accept : ("unicode/utf8.acceptRanges", Lib.acceptData) ∈ laid7 := by
  rw [← accept_eq]
  exact .tail _ (.tail _ (.tail _ (.head _)))
theorem tabs_of_laid {W : World} (h : laidMet Tryz.prog laid7 W) : Lib.Utf8Tabs 1 2 W :=
  utf8Tabs_of_readsT (ρ := Tryz.lays197_ren) { Tryz.lays197 with } ⟨by kernel_rfl, by kernel_rfl, by kernel_rfl, by kernel_rfl, by kernel_rfl, by kernel_rfl, by kernel_rfl⟩ (Lib.laidMet.reads h mem_first) (Lib.laidMet.reads h mem_accept)
theorem ut_of_laid {W : World} (hl : laidMet Tryz.prog laid7 W) : UT W := by
  have h := tabs_of_laid hl
  refine ⟨h, ?_⟩
  have h0 := (h.2 0 (by decide)).1
  rcases Nat.lt_or_ge 2 W.heap.size with h1 | h1
  · exact h1
  · rw [World.cell?] at h0
    simp [Array.getElem?_eq_none h1] at h0
end Go.Proofs.YtoigpackhninoaaGreatDoor
