/- The two tables of the library, as the rows list them. -/
import Derived.Test.YtegdemnfjmaicaaDoorRows
import Derived.Test.YtegdemnfjmaicaaDoorShelf
import Derived.Lib.LaidU8
import Derived.PinnedBridge
import Derived.Deep.DeepHandedRow
import Derived.Deep.DeepWitnessRowRef
import Derived.ProofKit
import Derived.SizedLaws
namespace Go.Proofs.YtegdemnfjmaicaaDoor
open Go.Shelf Go.Lib Go.ChangeShapes Go.WideShapes Go.ChangeAt Go.RowKit
/-- what each row lists. -/
def laid2 : List (String × DataW Unit) := [("unicode/utf8.acceptRanges", Rows.laid_unicode_utf8_acceptRanges), ("unicode/utf8.first", Rows.laid_unicode_utf8_first)]
theorem own : ownKnob Tryd.prog.godebug = none := by kernel_rfl
theorem laid2_eq : laid2 = [("unicode/utf8.acceptRanges", Lib.acceptData), ("unicode/utf8.first", Lib.firstData)] := by kernel_rfl
/-- the witness's world. -/
noncomputable def laidWorld (os : Os) : World :=
  let w0 := World.holding Tryd.prog os ⟨#[], #[], []⟩
  let put (h : Array Obj) (g : Nat) (cs : Array Value) : Array Obj := h.modify g fun
    | .cells _ t frozen => .cells cs t frozen
    | o => o
  let h1 := put w0.heap 0 (Lib.firstTab.map fun z => Value.int .u8 z).toArray
  let h2 := put h1 1 ((List.range 16).flatMap fun i => [Value.int .u8 (Lib.accLo i), Value.int .u8 (Lib.accHi i)]).toArray
  { w0 with heap := h2 }
theorem laid_met (os : Os) (args : Array Value) : laidMet Tryd.prog laid2 ((laidWorld os).forCall (fun _ _ => 0) ⟨#[], args, []⟩).memory :=
  (LaidIn.of_run (l := laid2) [1, 0] 8 (by kernel_rfl) (by kernel_rfl) (by kernel_rfl) (by kernel_rfl)).met
theorem tabs_of_laid {W : World} (h : laidMet Tryd.prog laid2 W) : Lib.Utf8Tabs 0 1 W := by
  rw [laid2_eq] at h
  exact utf8Tabs_of_reads (ρ := Tryd.lays260_ren) Tryd.lays260 ⟨by kernel_rfl, by kernel_rfl, by kernel_rfl, by kernel_rfl, by kernel_rfl, by kernel_rfl, by kernel_rfl⟩ (Lib.laidMet.reads h (.tail _ (.head _))) (Lib.laidMet.reads h (.head _))
theorem heap_two {W : World} (h : Lib.Utf8Tabs 0 1 W) : 2 ≤ W.heap.size := by
  have h0 := (h.2 0 (by decide)).1
  rcases Nat.lt_or_ge 1 W.heap.size with h1 | h1
  · exact h1
  · rw [World.cell?] at h0
    simp [Array.getElem?_eq_none h1] at h0
theorem nat_of_u8 {a : Int} (h : (Lit.int .u8 a).wf = true) : ∃ b : Nat, a = (b : Int) := by
  have h0 : 0 ≤ a := by
    have : (decide (IntKind.u8.min ≤ a) && decide (a ≤ IntKind.u8.max)) = true := h
    simp [IntKind.min, IntKind.max, IntKind.signed, IntKind.bits] at this
    omega
  exact ⟨a.toNat, by omega⟩
end Go.Proofs.YtegdemnfjmaicaaDoor
