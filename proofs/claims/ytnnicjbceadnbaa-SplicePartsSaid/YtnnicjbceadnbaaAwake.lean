/- Walks: awake. -/
import Derived.Test.YtnnicjbceadnbaaJoin
import Derived.Test.YtnnicjbceadnbaaInv
import Derived.Test.YtnnicjbceadnbaaRMove
namespace Go.Proofs.Ytnnicjbceadnbaa
open Go.RowKit
open Sp (Ed chk)
theorem EdsAt.blk {w : World} {B g : Nat} {E : TypeId} {cs : Array Value} {l : List Ed} (h : Blk w g E cs) (hcs : cs.toList = edsCells l) (hg : g < B) : EdsAt w B (some ⟨g, 0, none⟩) l := by
  refine ⟨edsCells_len l, fun _ => ⟨_, rfl, hg, fun j u hu => ?_⟩⟩
  have : (⟨g, 0, none⟩ : Addr).add j = ⟨g, j, none⟩ := by unfold Addr.add; split <;> simp_all
  rw [this, h.cell j, ← Array.getElem?_toList, hcs]
  exact hu
def sA : List UInt8 := [97, 98, 99, 100]
def lA : List Ed := [⟨1, 2, [120, 121]⟩, ⟨3, 3, [122]⟩]
def lB : List Ed := [⟨1, 3, [98]⟩, ⟨4, 5, []⟩]
def lC : List Ed := [⟨0, 2, []⟩]
def lD : List Ed := [⟨1, 1, [120]⟩]
theorem fA1 : chk sA.length 0 (-1) lA = 0 := by decide +kernel
theorem fA2 : Sp.asm sA (pieces sA lA) = [97, 120, 121, 99, 122, 100] := by decide +kernel
theorem fA3 : Sp.normal (Sp.size (pieces sA lA)) 0 [] (Sp.ivGo sA 0 0 (pieces sA lA)) = lB := by decide +kernel
theorem fA4 : Small sA lA := by unfold Small; decide +kernel
theorem fA5 : Sp.Asc sA.length 0 (pieces sA lA) := by
  have : pieces sA lA = [⟨0, 1, []⟩, ⟨-1, 2, [120, 121]⟩, ⟨2, 1, []⟩, ⟨-1, 1, [122]⟩, ⟨3, 1, []⟩] := by decide +kernel
  rw [this]
  simp [Sp.Asc, sA]
theorem fM : chk topI 0 (-1) lA = 0 ∧ Sp.inside 2 lA = false ∧ (2 : Int) + Sp.shift 2 lA = 3 := by decide +kernel
theorem fJ : chk sA.length 0 (-1) lC = 0 ∧ chk sA.length 0 (-1) lD = 0 ∧ chk sA.length 0 (-1) (joined lC lD) ≠ 0 := by decide +kernel
theorem applyA (w : World) (g : Nat) (hr : EdsAt w w.heap.size (some ⟨g, 0, none⟩) lA) : Calls Try.prog 12 #[.string ⟨#[97, 98, 99, 100]⟩, .slice (some ⟨g, 0, none⟩) 2 2] w fun e w' =>
    e = .returned (.tuple #[.string ⟨#[97, 120, 121, 99, 122, 100]⟩, .int .i64 0]) ∧ Below w.heap.size w w' := by
  have h := apply_yes sA lA _ 2 fA4 w hr fA1
  rw [fA2] at h
  exact h
theorem invertA (w : World) (g : Nat) (hr : EdsAt w w.heap.size (some ⟨g, 0, none⟩) lA) : Calls Try.prog 18 #[.string ⟨#[97, 98, 99, 100]⟩, .slice (some ⟨g, 0, none⟩) 2 2] w fun e w' =>
    ∃ v, e = .returned (.tuple #[v, .int .i64 0]) ∧ OwnEds w' w.heap.size 48 v lB ∧ Below w.heap.size w w' := by
  have h := invert_yes sA lA _ 2 fA4 w hr fA1 fA5
  rw [fA3] at h
  exact h
theorem moveA (w : World) (g : Nat) (hr : EdsAt w w.heap.size (some ⟨g, 0, none⟩) lA) : Calls Try.prog 21 #[.slice (some ⟨g, 0, none⟩) 2 2, .int .i64 2] w fun e w' =>
    e = .returned (.tuple #[.int .i64 3, .bool true]) ∧ Below w.heap.size w w' := by
  have h := move_any lA _ 2 2 (by decide) (by omega) (by decide) w hr
  refine h.mono fun e w' hh => ?_
  obtain ⟨n, ok, rfl, hb, hc⟩ := hh
  rcases hc with ⟨rfl, _, _, _, hn⟩ | ⟨_, _, hn⟩
  · rw [hn, fM.2.2]; exact ⟨rfl, hb⟩
  · rcases hn with hn | hn | hn
    · omega
    · exact absurd fM.1 hn
    · rw [fM.2.1] at hn; exact absurd hn (by decide)
theorem joinA (w : World) (g g' : Nat) (hr : EdsAt w w.heap.size (some ⟨g, 0, none⟩) lC) (hr' : EdsAt w w.heap.size (some ⟨g', 0, none⟩) lD) : Calls Try.prog 23 #[.string ⟨#[97, 98, 99, 100]⟩, .slice (some ⟨g, 0, none⟩) 1 1, .slice (some ⟨g', 0, none⟩) 1 1] w fun e w' =>
    ∃ v, e = .returned (.tuple #[v, .int .i64 18]) ∧ Below w.heap.size w w' := by
  have h := join_gen 19 sorts_few (by omega) sA lC lD _ _ 1 1 (by decide) (by decide) w hr hr'
  refine h.mono fun e w' hh => ?_
  obtain ⟨v, l, n, rfl, _, hb, hc⟩ := hh
  rcases hc with ⟨h1, _⟩ | ⟨_, h1, _⟩ | ⟨_, _, _, _, rfl⟩ | ⟨_, _, h1, _⟩
  · exact absurd fJ.1 h1
  · exact absurd fJ.2.1 h1
  · exact ⟨v, rfl, hb⟩
  · exact absurd h1 fJ.2.2
theorem equalA (w : World) (g g' : Nat) (A : Option Addr) (c : Nat) (hr : EdsAt w w.heap.size A lB) (hr' : EdsAt w w.heap.size (some ⟨g', 0, none⟩) lB) : Calls Try.prog 19 #[.slice A 2 c, .slice (some ⟨g', 0, none⟩) 2 2] w fun e w' =>
    e = .returned (.bool true) ∧ ∃ n, w' = w.drewN n := by
  have h := requal_any lB lB A (some ⟨g', 0, none⟩) c 2 (by decide) (by decide) w hr hr'
  have e : decide (lB = lB) = true := by decide
  rw [e] at h
  exact h
set_option maxHeartbeats 2000000 in
theorem awake_any (w : World) : Calls Try.prog 11 #[] w fun e w' => e = .returned (.bool true) ∧ Below w.heap.size w w' := by
  have hl0 : EdsAt (w.alloc (.cells #[.int .i64 1, .int .i64 2, .string ⟨#[120, 121]⟩, .int .i64 3, .int .i64 3, .string ⟨#[122]⟩] 48)) (w.heap.size + 1) (some ⟨w.heap.size, 0, none⟩) lA :=
    EdsAt.blk (l := lA) (B := w.heap.size + 1) (Blk.new w 48 #[.int .i64 1, .int .i64 2, .string ⟨#[120, 121]⟩, .int .i64 3, .int .i64 3, .string ⟨#[122]⟩]) rfl (by omega)
  have hb0 : Below w.heap.size w (w.alloc (.cells #[.int .i64 1, .int .i64 2, .string ⟨#[120, 121]⟩, .int .i64 3, .int .i64 3, .string ⟨#[122]⟩] 48)) := (Below.refl _ _).alloc (Nat.le_refl _) _
  have hz0 : (w.alloc (.cells #[.int .i64 1, .int .i64 2, .string ⟨#[120, 121]⟩, .int .i64 3, .int .i64 3, .string ⟨#[122]⟩] 48)).heap.size = w.heap.size + 1 := by simp
  have HZ0 := Lib.hid hz0
  clear hz0
  go_enter Try.func11, Try.ntmps11
  go_wp2_with fail
  generalize w.alloc (.cells #[.int .i64 1, .int .i64 2, .string ⟨#[120, 121]⟩, .int .i64 3, .int .i64 3, .string ⟨#[122]⟩] 48) = W0 at *
  refine (applyA W0 _ (hl0.more (by rw [HZ0.out]; omega))).mono ?_
  rintro e w1 ⟨rfl, hb1⟩
  have hz1 := hb1.size
  rw [HZ0.out] at hz1
  have hl1 := hl0.below (hb1.mono (by rw [HZ0.out]; omega))
  go_wp2_with fail
  refine (invertA w1 _ (hl1.more (by omega))).mono ?_
  rintro e w2 ⟨v2, rfl, own2, hb2⟩
  have hz2 := hb2.size
  have hl2 := hl1.below (hb2.mono (by omega))
  obtain ⟨A2, c2, rfl, hr2⟩ := own2.form
  go_wp2_with fail
  refine (moveA w2 _ (hl2.more (by omega))).mono ?_
  rintro e w3 ⟨rfl, hb3⟩
  have hz3 := hb3.size
  have hr3 := hr2.below hb3
  go_wp2_with fail
  have hC : EdsAt ((w3.alloc (.cells #[.int .i64 0, .int .i64 2, .string ⟨#[]⟩] 48)).alloc (.cells #[.int .i64 1, .int .i64 1, .string ⟨#[120]⟩] 48)) (w3.heap.size + 1) (some ⟨w3.heap.size, 0, none⟩) lC :=
    (EdsAt.blk (l := lC) (B := w3.heap.size + 1) (Blk.new w3 48 #[.int .i64 0, .int .i64 2, .string ⟨#[]⟩]) rfl (by omega)).alloc (by simp) _
  have hD : EdsAt ((w3.alloc (.cells #[.int .i64 0, .int .i64 2, .string ⟨#[]⟩] 48)).alloc (.cells #[.int .i64 1, .int .i64 1, .string ⟨#[120]⟩] 48)) (w3.heap.size + 1 + 1) (some ⟨w3.heap.size + 1, 0, none⟩) lD := by
    have := EdsAt.blk (l := lD) (B := (w3.alloc (.cells #[.int .i64 0, .int .i64 2, .string ⟨#[]⟩] 48)).heap.size + 1) (Blk.new (w3.alloc (.cells #[.int .i64 0, .int .i64 2, .string ⟨#[]⟩] 48)) 48 #[.int .i64 1, .int .i64 1, .string ⟨#[120]⟩]) rfl (by omega)
    simpa using this
  refine (joinA _ _ _ (hC.more (by simp)) (hD.more (by simp))).mono ?_
  rintro e w4 ⟨v4, rfl, hb4⟩
  have hz4 := hb4.size
  simp only [World.size_alloc] at hz4
  have hbw : Below w.heap.size w w4 := ((((hb0.trans (hb1.mono (by rw [HZ0.out]; omega))).trans (hb2.mono (by omega))).trans (hb3.mono (by omega))).alloc (by omega) _ |>.alloc (by simp; omega) _).trans (hb4.mono (by simp; omega))
  have hr4 : EdsAt w4 w2.heap.size A2 lB := ((hr3.alloc hz3 _).alloc (by simp; omega) _).below (hb4.mono (by simp; omega))
  clear hC hD hl0 hl1 hl2 hr2 hr3 hb0 hb1 hb2 hb3 hb4 own2
  go_wp2_with fail
  have hE : EdsAt (w4.alloc (.cells #[.int .i64 1, .int .i64 3, .string ⟨#[98]⟩, .int .i64 4, .int .i64 5, .string ⟨#[]⟩] 48)) (w4.heap.size + 1) (some ⟨w4.heap.size, 0, none⟩) lB :=
    EdsAt.blk (l := lB) (B := w4.heap.size + 1) (Blk.new w4 48 #[.int .i64 1, .int .i64 3, .string ⟨#[98]⟩, .int .i64 4, .int .i64 5, .string ⟨#[]⟩]) rfl (by omega)
  refine (equalA _ 0 _ A2 c2 ((hr4.alloc (by omega) _).more (by simp; omega)) (hE.more (by simp))).mono ?_
  rintro e w5 ⟨rfl, q, rfl⟩
  go_wp2_with fail
  go_ret
  exact ⟨rfl, (hbw.alloc hbw.size _).drewN _⟩
end Go.Proofs.Ytnnicjbceadnbaa
