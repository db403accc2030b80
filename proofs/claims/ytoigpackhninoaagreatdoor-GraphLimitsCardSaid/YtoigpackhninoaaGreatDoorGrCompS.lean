/- The components' walk: its memory at the start. -/
import Derived.Test.YtoigpackhninoaaGreatDoorGrVisit
namespace Go.Proofs.YtoigpackhninoaaGreatDoor
open Go.RowKit
def compL (z gb b0 b1 b2 r0 r1 r2 : Nat) : TL := ⟨z + 1 + 1 + 1 + 1, b0, b1, z + 1, z + 1 + 1 + 1, z + 1 + 1 + 1 + 1 + 1, gb, z, b2, r0, r1, r2, z + 1 + 1⟩
theorem comp_start (B z gb b0 b1 b2 r0 r1 r2 : Nat) (A : Option Addr) (c : Nat) (root : Int) (vs : List NV) (ns : List Gr.Nd) (wr W : World) (hz : wr.heap.size = z)
    (hW : ((((((wr.alloc (.cells #[.slice none 0 0] 33)).alloc (.cells #[.slice none 0 0] 33)).alloc (.cells (bcells (List.replicate ns.length false)) 4)).alloc (.cells #[.slice (some ⟨z + 1 + 1, 0, none⟩) ns.length ns.length] 62)).alloc (.cells #[.int .i64 0] 3)).alloc (.cells #[(compL z gb b0 b1 b2 r0 r1 r2).fn] 88)) = W)
    (hI : Blk wr b0 33 #[.slice (some ⟨r0, 0, none⟩) ns.length ns.length]) (hL : Blk wr b1 33 #[.slice (some ⟨r1, 0, none⟩) ns.length ns.length]) (hC : Blk wr b2 33 #[.slice (some ⟨r2, 0, none⟩) ns.length ns.length])
    (hrI : Blk wr r0 3 (icells (List.replicate ns.length 0))) (hrL : Blk wr r1 3 (icells (List.replicate ns.length 0))) (hrC : Blk wr r2 3 (jcells (List.replicate ns.length (-1))))
    (hG : Blk wr gb 24 #[.slice A ns.length c, .int .i64 root]) (h01 : r0 ≠ r1) (h02 : r0 ≠ r2) (h12 : r1 ≠ r2) (hB : B ≤ z) (hB0 : B ≤ r0) (hB1 : B ≤ r1) (hB2 : B ≤ r2) (hat : GAt wr B A vs ns) :
    TAt (compL z gb b0 b1 b2 r0 r1 r2) B (z + 1 + 1 + 1 + 1 + 1 + 1) A c root vs ns W (Gr.tzero ns.length) (.slice none 0 0) (.slice none 0 0) ∧ Below wr.heap.size wr W ∧ W.heap.size = z + 1 + 1 + 1 + 1 + 1 + 1 := by
  have l : Below wr.heap.size wr W := by rw [← hW]; exact ((((((Below.refl _ _).alloc (Nat.le_refl _) _).alloc (by simp) _).alloc (by simp; omega) _).alloc (by simp; omega) _).alloc (by simp; omega) _).alloc (by simp; omega) _
  have hs : W.heap.size = z + 1 + 1 + 1 + 1 + 1 + 1 := by rw [← hW]; simp [hz]
  have k1 := hI.lt
  have k2 := hL.lt
  have k3 := hC.lt
  have k4 := hrI.lt
  have k5 := hrL.lt
  have k6 := hrC.lt
  have n0 : Blk W z 33 #[.slice none 0 0] := by rw [← hW, ← hz]; exact (((((Blk.new _ _ _).alloc _).alloc _).alloc _).alloc _).alloc _
  have n1 : Blk W (z + 1) 33 #[.slice none 0 0] := by
    rw [← hW]
    have := Blk.new (wr.alloc (.cells #[.slice none 0 0] 33)) 33 #[.slice none 0 0]
    rw [World.size_alloc, hz] at this
    exact (((this.alloc _).alloc _).alloc _).alloc _
  have n2 : Blk W (z + 1 + 1) 4 (bcells (List.replicate ns.length false)) := by
    rw [← hW]
    have := Blk.new ((wr.alloc (.cells #[.slice none 0 0] 33)).alloc (.cells #[.slice none 0 0] 33)) 4 (bcells (List.replicate ns.length false))
    simp only [World.size_alloc, hz] at this
    exact (((this.alloc _).alloc _).alloc _)
  have n3 : Blk W (z + 1 + 1 + 1) 62 #[.slice (some ⟨z + 1 + 1, 0, none⟩) ns.length ns.length] := by
    rw [← hW]
    have := Blk.new (((wr.alloc (.cells #[.slice none 0 0] 33)).alloc (.cells #[.slice none 0 0] 33)).alloc (.cells (bcells (List.replicate ns.length false)) 4)) 62 #[.slice (some ⟨z + 1 + 1, 0, none⟩) ns.length ns.length]
    simp only [World.size_alloc, hz] at this
    exact ((this.alloc _).alloc _)
  have n4 : Blk W (z + 1 + 1 + 1 + 1) 3 #[.int .i64 0] := by
    rw [← hW]
    have := Blk.new ((((wr.alloc (.cells #[.slice none 0 0] 33)).alloc (.cells #[.slice none 0 0] 33)).alloc (.cells (bcells (List.replicate ns.length false)) 4)).alloc (.cells #[.slice (some ⟨z + 1 + 1, 0, none⟩) ns.length ns.length] 62)) 3 #[.int .i64 0]
    simp only [World.size_alloc, hz] at this
    exact (this.alloc _)
  have n5 : Blk W (z + 1 + 1 + 1 + 1 + 1) 88 #[(compL z gb b0 b1 b2 r0 r1 r2).fn] := by
    rw [← hW]
    have := Blk.new (((((wr.alloc (.cells #[.slice none 0 0] 33)).alloc (.cells #[.slice none 0 0] 33)).alloc (.cells (bcells (List.replicate ns.length false)) 4)).alloc (.cells #[.slice (some ⟨z + 1 + 1, 0, none⟩) ns.length ns.length] 62)).alloc (.cells #[.int .i64 0] 3)) 88 #[(compL z gb b0 b1 b2 r0 r1 r2).fn]
    simp only [World.size_alloc, hz] at this
    exact this
  refine ⟨⟨⟨?_, ?_, ?_, h01, h02, h12, ?_, ?_, ?_, ?_, ?_, ?_, ?_, ?_, ?_, ?_, ?_, ?_, ?_, ?_, ?_⟩, by omega, hI.below l k1, hL.below l k2, hC.below l k3, n3, n5, hG.below l hG.lt, hat.below (l.mono (by omega)), n4, n1, n0, hrI.below l k4, hrL.below l k5, hrC.below l k6, n2, OwnRow.nil, OwnRow.nil, fun k e => by cases e⟩, l, hs⟩
  all_goals (simp only [compL]; omega)
end Go.Proofs.YtoigpackhninoaaGreatDoor
