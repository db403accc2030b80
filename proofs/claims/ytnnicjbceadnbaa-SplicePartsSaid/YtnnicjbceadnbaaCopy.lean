/- copy of a string into a row of the call's own, in a region that draws its order; bytes read back as a string. -/
import Derived.Test.YtnnicjbceadnbaaBase
import Derived.Laws.CopyOwn
import Derived.Lib.AppendStr
namespace Go.Proofs.Ytnnicjbceadnbaa
open Go.RowKit

/-- bytes as cells. -/
def byteVals (l : List UInt8) : List Value := l.map fun b => Value.int .u8 b.toNat
theorem byteVals_len (l : List UInt8) : (byteVals l).length = l.length := by simp [byteVals]
theorem byteVals_one (l : List UInt8) : ∀ u ∈ byteVals l, u.oneCell' = true := by
  intro u hu
  simp only [byteVals, List.mem_map] at hu
  obtain ⟨b, _, rfl⟩ := hu
  rfl
theorem byteVals_append (l r : List UInt8) : byteVals (l ++ r) = byteVals l ++ byteVals r := by simp [byteVals]

section
variable {P : Program}
theorem run_copy_str (w : World) (dT sT ty elem : TypeId) (dp : Option Addr) (dLen dCap : Nat) (l : List UInt8) (hu : P.underlying dT = some (.slice elem)) (hsz : (P.info? elem).map (·.size) = some 1)
    (g off : Nat) (cur : List Value) (t : TypeId) (hg : w.heap[g]? = some (.cells cur.toArray t (0, 0))) (hle : l.length ≤ dLen)
    (hpos : 0 < l.length → dp = some ⟨g, off, none⟩) (hfit : off + l.length ≤ cur.length) :
    ∃ w', (Builtin.copy_ #[dT, sT] ty #[.slice dp dLen dCap, .string ⟨l.toArray⟩]).run P w = .ok (goInt l.length) w' ∧ w'.heap[g]? = some (.cells (splice cur off (byteVals l)).toArray t (0, 0)) ∧
      (∀ B w0, B ≤ g → Below B w0 w → Below B w0 w') ∧ w.grownBy w' (some g) := by
  have hn : Nat.min l.length dLen = l.length := Nat.min_eq_left hle
  obtain ⟨i, hq⟩ : ∃ i, P.info? elem = some i := by
    cases hq : P.info? elem with
    | none => simp [hq] at hsz
    | some i => exact ⟨i, rfl⟩
  have hsize : (⟨l.toArray⟩ : ByteArray).size = l.length := by simp [ByteArray.size]
  by_cases h0 : l = []
  · subst h0
    refine ⟨w, ?_, by simpa [splice, byteVals] using hg, fun _ _ _ h => h, World.grownBy.refl w _⟩
    cases dp with
    | none => simp [Builtin.copy_, run_underlying hu, Builtin.lenOf, Builtin.firstCells, sizeOf, typeInfo, hq, ByteArray.size]
    | some a => simp [Builtin.copy_, run_underlying hu, Builtin.lenOf, Builtin.firstCells, sizeOf, typeInfo, hq, storeCells, ByteArray.size]
  · have hlp : 0 < l.length := List.length_pos_iff.2 h0
    obtain rfl := hpos hlp
    have hst := run_storeCells_at P g off t (byteVals l) 0 cur.toArray w hg (by simpa [byteVals] using hfit) (byteVals_one l)
    simp only [Nat.add_zero] at hst
    refine ⟨_, ?_, setRow_heap w g _ (splice cur off (byteVals l)).toArray t _ hg, fun B w0 hB hb => below_setRow hb hB _, ⟨rfl, rfl, rfl, by simp [World.setRow], fun k _ hk => setRow_other w g k _ (fun e => hk (by rw [e]))⟩⟩
    simp [Builtin.copy_, run_underlying hu, Builtin.lenOf, Builtin.firstCells, sizeOf, typeInfo, hq, hsize, hn]
    rw [List.take_of_length_le (by simp)]
    show ((Sem.run P (storeCells _ (byteVals l)) w).andThen _) = _
    rw [hst]
    simp [splice]

theorem step_copy_str {ops : Array Oper} {o : Oper} {a : Act} {w : World} {K : Act → World → Prop} {Q : Exit → Act → World → Prop} {E : Prop} (hgd : o.guard = none) (d s : Operand) (dT sT : TypeId)
    (ho : o.op = .call { callee := .builtin .copy, args := #[d, s], argTypes := #[dT, sT] }) (elem : TypeId) (hu : P.underlying dT = some (.slice elem)) (hsz : (P.info? elem).map (·.size) = some 1)
    (dp : Option Addr) (dLen dCap : Nat) (l : List UInt8) (hd : a.eval d = .slice dp dLen dCap) (hs : a.eval s = .string ⟨l.toArray⟩)
    (g off : Nat) (cur : List Value) (t : TypeId) (hg : w.heap[g]? = some (.cells cur.toArray t (0, 0))) (hle : l.length ≤ dLen)
    (hpos : 0 < l.length → dp = some ⟨g, off, none⟩) (hfit : off + l.length ≤ cur.length)
    (h : ∀ w', Hid (w'.heap[g]? = some (.cells (splice cur off (byteVals l)).toArray t (0, 0))) → Hid (∀ B w0, B ≤ g → Below B w0 w → Below B w0 w') → w.grownBy w' (some g) → K (a.put o.dst (goInt l.length)) w') :
    if Region.wanted o (yielded ops a.tmps) = true then Oper.wp P o a w K Q else E := by
  have hw : Region.wanted o (yielded ops a.tmps) = true := by simp [Region.wanted, hgd]
  rw [if_pos hw]
  obtain ⟨w', hrun, h1, h2, h3⟩ := run_copy_str (P := P) w dT sT o.type elem dp dLen dCap l hu hsz g off cur t hg hle hpos hfit
  unfold Oper.wp execOp
  simp only [ho, resolve, invoke, builtin, Sem.run_bind, Sem.run_pure, Result.andThen_ok, List.map_toArray, List.map_cons, List.map_nil, hd, hs, hrun]
  exact h w' h1 h2 h3
theorem run_slice_from_any (t e : TypeId) (i : TypeInfo) (ht : P.underlying t = some (.slice e)) (hi : P.info? e = some i) (a : Option Addr) (n c k : Nat) (hk : k ≤ n) (hn : n ≤ c) (w : World) :
    (Instr.slice t (.slice a n c) (some (.int .i64 (k : Int))) none none).run P w = .ok (.slice (if c = k then a else a.map (·.add (k * i.size))) (n - k) (c - k)) w := by
  have h1 : (0 : Int) ≤ k := by omega
  have h2 : (k : Int) ≤ n := by omega
  have e1 : ∀ code, (Instr.sliceBound (.int .i64 (k : Int)) n code).run P w = .ok k w := fun code => by
    rw [run_sliceBound (P := P) (w := w) .i64 k n code h1 h2]; simp
  simp [Instr.slice, run_underlying ht, Instr.sliceBounds, sizeOf, typeInfo, hi, e1]
theorem run_slice_from (t e : TypeId) (i : TypeInfo) (ht : P.underlying t = some (.slice e)) (hi : P.info? e = some i) (h1 : i.size = 1) (g n k : Nat) (hk : k ≤ n) :
    ∃ X : Nat, (k < n → X = k) ∧ ∀ w : World, (Instr.slice t (.slice (some ⟨g, 0, none⟩) n n) (some (.int .i64 (k : Int))) none none).run P w = .ok (.slice (some ⟨g, X, none⟩) (n - k) (n - k)) w := by
  refine ⟨if n = k then 0 else k, fun h => by rw [if_neg (by omega)], fun w => ?_⟩
  rw [run_slice_from_any t e i ht hi (some ⟨g, 0, none⟩) n n k hk (Nat.le_refl _) w, h1]
  congr 2
  by_cases h : n = k
  · simp [h]
  · simp [h, Addr.add]
    omega
end
end Go.Proofs.Ytnnicjbceadnbaa
