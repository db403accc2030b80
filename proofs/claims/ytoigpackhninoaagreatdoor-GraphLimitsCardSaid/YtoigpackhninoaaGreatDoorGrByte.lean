/- Rows of bytes. -/
import Derived.Test.YtoigpackhninoaaGreatDoorGrMem
import Derived.Outline
import Derived.Deep.RegionHeld3
import Derived.Deep.DeepCutAuto
import Derived.Deep.CutBlock
import Derived.BigRegion
namespace Go.Proofs.YtoigpackhninoaaGreatDoor
open Go.RowKit
def byteL : Lay UInt8 := { enc := fun x => [.int .u8 (x.toNat : Int)], sz := 1, len := fun _ => rfl, one := fun x u hu => by simp at hu; subst hu; rfl, pos := by omega }
theorem byteT : SliceT Tryz.prog byteL 119 5 1 := sliceT_of byteL 119 5 (.int .u8 0) 1 Tryz.underlying119 (by kernel_rfl) rfl (by omega)
theorem u8_at {w : World} {B : Nat} {A : Option Addr} {l : List UInt8} {k : Nat} (h : RowAt byteL w B A l) (hk : k < l.length) : ∃ ad, A = some ad ∧ ad.block < B ∧ w.cell? (ad.add k) = some (.int .u8 (l[k].toNat : Int)) := by
  obtain ⟨ad, h1, h2, h3, _⟩ := h.get hk
  refine ⟨ad, h1, h2, ?_⟩
  have := h3 (.int .u8 (l[k].toNat : Int)) rfl
  rwa [show k * byteL.sz = k from Nat.mul_one k] at this
theorem cut_bytes (a : Option Addr) (n c m : Nat) (hm : m ≤ c) (w : World) : (Instr.slice 119 (.slice a n c) none (some (.int .i64 (m : Int))) none).run Tryz.prog w = .ok (.slice a m c) w := by
  obtain ⟨i0, z, hi, hz0, hz1, hz2, hz3⟩ := byteT.info
  rw [run_slice_h (P := Tryz.prog) 119 5 i0 Tryz.underlying119 hi a n c m hm w]
  split
  · rfl
  · cases a <;> simp [Addr.add]
theorem beqF (c d : UInt8) (h : c ≠ d) : ((c.toNat : Int) == (d.toNat : Int)) = false := by
  have : ¬ ((c.toNat : Int) = (d.toNat : Int)) := fun e => h (UInt8.toNat_inj.1 (by omega))
  simpa using this
theorem beqT (c d : UInt8) (h : c = d) : ((c.toNat : Int) == (d.toNat : Int)) = true := by subst h; simp
theorem byte_is (s : Gr.Str) (k : Nat) (hk : k < s.length) (c d : UInt8) (n : Int) (hn : (d.toNat : Int) = n) (h : s[k] = c) (e : c = d) : (((⟨s.toArray⟩ : ByteArray)[k]'(by simpa [ByteArray.size] using hk)).toNat : Int) = n := by
  have : (⟨s.toArray⟩ : ByteArray)[k]'(by simpa [ByteArray.size] using hk) = s[k] := rfl
  rw [this, h, e, hn]
theorem byte_not (s : Gr.Str) (k : Nat) (hk : k < s.length) (c d : UInt8) (n : Int) (hn : (d.toNat : Int) = n) (h : s[k] = c) (e : c ≠ d) : ¬ (((⟨s.toArray⟩ : ByteArray)[k]'(by simpa [ByteArray.size] using hk)).toNat : Int) = n := by
  have : (⟨s.toArray⟩ : ByteArray)[k]'(by simpa [ByteArray.size] using hk) = s[k] := rfl
  rw [this, h, ← hn]
  exact fun he => e (UInt8.toNat_inj.1 (by omega))
theorem byte_isb (s : Gr.Str) (k : Nat) (hk : k < s.length) (c d : UInt8) (n : Int) (hn : (d.toNat : Int) = n) (h : s[k] = c) (e : c = d) : ((((⟨s.toArray⟩ : ByteArray)[k]'(by simpa [ByteArray.size] using hk)).toNat : Int) == n) = true := by
  simpa using byte_is s k hk c d n hn h e
theorem byte_nob (s : Gr.Str) (k : Nat) (hk : k < s.length) (c d : UInt8) (n : Int) (hn : (d.toNat : Int) = n) (h : s[k] = c) (e : c ≠ d) : ((((⟨s.toArray⟩ : ByteArray)[k]'(by simpa [ByteArray.size] using hk)).toNat : Int) == n) = false := by
  simpa using byte_not s k hk c d n hn h e
def ucells (l : List UInt8) : Array Value := (l.map (fun (c : UInt8) => Value.int .u8 (c.toNat : Int))).toArray
theorem ucells_set (l : List UInt8) (i : Nat) (x : UInt8) : (ucells l).setIfInBounds i (.int .u8 (x.toNat : Int)) = ucells (l.set i x) := by
  simp [ucells, List.map_set]
theorem ucells_all (l : List UInt8) : (ucells l).toList = byteL.all l := by
  induction l with
  | nil => rfl
  | cons x l ih =>
    have e1 : (ucells (x :: l)).toList = .int .u8 (x.toNat : Int) :: (ucells l).toList := by simp [ucells]
    have e2 : byteL.all (x :: l) = .int .u8 (x.toNat : Int) :: byteL.all l := rfl
    rw [e1, e2, ih]
theorem infoByte : (Tryz.prog.info? 5).map (fun i => (i.zero, i.size, i.bytes)) = some (some (.int .u8 0), 1, 1) := by kernel_rfl
theorem make_bytes (n : Nat) (hn : n ≤ 1073741824) (W : World) : (Instr.makeSlice 119 (.int .i64 (n : Int)) (.int .i64 (n : Int))).run Tryz.prog W = .ok (.slice (some ⟨W.heap.size, 0, none⟩) n n) (W.alloc (.cells (ucells (List.replicate n 0)) 5)) := by
  obtain ⟨i5, hi5, hz5, hs5, hby5⟩ := info_parts infoByte
  have := run_make_rowN (P := Tryz.prog) 119 5 i5 _ Tryz.underlying119 hi5 hz5 .i64 .i64 n n (Nat.le_refl _) (by rw [hby5]; omega) (by omega) W
  rw [hs5] at this
  simp only [Value.cells, madeCells_one] at this
  rw [this]
  simp [ucells]
theorem RowAt.ofBlk {α : Type} {L : Lay α} {w : World} {g B : Nat} {t : TypeId} {cs : Array Value} {l : List α} (hb : Blk w g t cs) (hc : cs.toList = L.all l) (hg : g < B) : RowAt L w B (some ⟨g, 0, none⟩) l := by
  refine ⟨L.all_len l, fun _ => ⟨_, rfl, hg, fun j u hu => ?_⟩⟩
  have e : (⟨g, 0, none⟩ : Addr).add j = ⟨g, j, none⟩ := by unfold Addr.add; split <;> simp_all
  rw [e, hb.cell, ← hu, ← hc]
  simp
end Go.Proofs.YtoigpackhninoaaGreatDoor
