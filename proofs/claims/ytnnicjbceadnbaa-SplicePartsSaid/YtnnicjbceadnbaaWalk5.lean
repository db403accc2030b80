/- Walks: normal and its closure. -/
import Derived.Test.YtnnicjbceadnbaaWords
namespace Go.Proofs.Ytnnicjbceadnbaa
open Go.RowKit
open Sp (Ed)

/-- what a call has kept: all blocks but those in S. -/
structure KeptBut (w w' : World) (S : Nat → Prop) : Prop where
  os : w'.os = w.os
  tape : w'.tape = w.tape
  output : w'.output = w.output
  size : w.heap.size ≤ w'.heap.size
  block : ∀ k, k < w.heap.size → ¬ S k → w'.heap[k]? = w.heap[k]?
theorem KeptBut.below {w w' : World} {S : Nat → Prop} {B : Nat} (h : KeptBut w w' S) (hB : B ≤ w.heap.size) (hS : ∀ k, S k → B ≤ k) : Below B w w' :=
  ⟨h.os, h.tape, h.output, h.size, fun k hk => h.block k (by omega) (fun hs => by have := hS k hs; omega)⟩
theorem KeptBut.cell {w w' : World} {S : Nat → Prop} (h : KeptBut w w' S) {g i : Nat} {v : Value} (hc : w.cell? ⟨g, i, none⟩ = some v) (hS : ¬ S g) : w'.cell? ⟨g, i, none⟩ = some v :=
  (World.cell?_of_block (w := w) (h.block g (World.block_lt_of_cell? w ⟨g, i, none⟩ hc) hS)).trans hc

theorem grownBy_setCell (w : World) (p : Addr) (u : Value) : w.grownBy (w.setCell p u) (some p.block) :=
  ⟨rfl, rfl, rfl, by simp [World.setCell], fun k _ hne => Below.heap_setCell w p u k (fun e => hne (by rw [e]))⟩
theorem OwnEds.setCell {w : World} {base : Nat} {E : TypeId} {v : Value} {l : List Ed} (h : OwnEds w base E v l) {p : Addr} (hp : v.ownBlock ≠ some p.block) (u : Value) : OwnEds (w.setCell p u) base E v l :=
  World.ownsRow.kept h (grownBy_setCell w p u) (.inr hp)
def CloseIs (w : World) (base ga gt go : Nat) (v : Value) (l : List Ed) (a n : Int) (s : List UInt8) (e : Ending) (w' : World) : Prop :=
  ∃ v', e = .returned (.tuple #[]) ∧ Blk w' ga 3 #[.int .i64 a] ∧ Blk w' gt 9 #[.string ⟨#[]⟩] ∧ Blk w' go 22 #[v'] ∧ OwnEds w' base 48 v' (l ++ Sp.shut a n s) ∧
    KeptBut w w' (fun k => k = ga ∨ k = gt ∨ k = go ∨ v.ownBlock = some k)

set_option maxHeartbeats 1000000 in
theorem close_any (w : World) (base ga gt go : Nat) (v : Value) (l : List Ed) (a n : Int) (s : List UInt8) (ha : Blk w ga 3 #[.int .i64 a]) (ht : Blk w gt 9 #[.string ⟨s.toArray⟩]) (hg : Blk w go 22 #[v])
    (hown : OwnEds w base 48 v l) (hl : l.length ≤ 536870912) (hbase : base ≤ w.heap.size) :
    Calls Try.prog 39 #[.int .i64 n, .pointer (some ⟨ga, 0, none⟩), .pointer (some ⟨gt, 0, none⟩), .pointer (some ⟨go, 0, none⟩)] w (CloseIs w base ga gt go v l a n s) := by
  have c1 : w.cell? ⟨ga, 0, none⟩ = some (.int .i64 a) := ha.cell 0
  have c2 : w.cell? ⟨gt, 0, none⟩ = some (.string ⟨s.toArray⟩) := ht.cell 0
  have c3 : w.cell? ⟨go, 0, none⟩ = some v := hg.cell 0
  have f2 : w.frozen? ⟨gt, 0, none⟩ = false := ht.frozen 0
  have f3 : w.frozen? ⟨go, 0, none⟩ = false := hg.frozen 0
  have HA := Lib.hid ha
  have HT := Lib.hid ht
  have HG := Lib.hid hg
  clear ha ht hg
  by_cases hc : a < n ∨ s ≠ []
  · have hs : Sp.shut a n s = [⟨a, n, s⟩] := by simp only [Sp.shut, if_pos hc]
    have HS := Lib.hid hs
    clear hs
    by_cases han : a < n
    · clear hc
      go_enter Try.func39, Try.ntmps39
      go_wp2_with (at_builtin; go_must (refine wpList_append_eds _ rfl (.tmp 12) (.tmp 17) 22 48 rfl edT base _ _ rfl (hown.alloc _) _ _ 1 [⟨a, n, s⟩] rfl (EdsAt.lit _ _ _ _ ?_) ?_ ?_ ?_))
      any_goals (first | rfl | omega | (simp only [List.length_singleton]; omega) | (rw [World.size_alloc]; omega))
      intro v1 w1 hown1 hg1 hat1
      obtain ⟨A1, cc1, rfl, _⟩ := hown1.form
      have hlen1 : (l ++ [(⟨a, n, s⟩ : Ed)]).length = l.length + 1 := by simp
      rw [hlen1] at hown1
      clear hlen1
      have na := own_blk_ne hown HA.out (by decide)
      have nt := own_blk_ne hown HT.out (by decide)
      have ng := own_blk_ne hown HG.out (by decide)
      have HA1 := Lib.hid ((HA.out.alloc _).grown hg1 (Ne.symm na))
      have HT1 := Lib.hid ((HT.out.alloc _).grown hg1 (Ne.symm nt))
      have HG1 := Lib.hid ((HG.out.alloc _).grown hg1 (Ne.symm ng))
      have c2' : w1.cell? ⟨gt, 0, none⟩ = some (.string ⟨s.toArray⟩) := HT1.out.cell 0
      have c3' : w1.cell? ⟨go, 0, none⟩ = some v := HG1.out.cell 0
      have f2' : w1.frozen? ⟨gt, 0, none⟩ = false := HT1.out.frozen 0
      have f3' : w1.frozen? ⟨go, 0, none⟩ = false := HG1.out.frozen 0
      have hne : Hid (gt ≠ go) := Lib.hid (HT.out.ne_ HG.out (by decide))
      have c2'' : ∀ u, (w1.setCell ⟨go, 0, none⟩ u).cell? ⟨gt, 0, none⟩ = some (.string ⟨s.toArray⟩) := fun u => (HT1.out.far (p := ⟨go, 0, none⟩) hne.out u).cell 0
      clear c1 c2 c3 f2 f3
      go_wp2_with fail
      go_end0
      have ng1 := own_blk_ne hown1 HG1.out (by decide)
      have nt1 := own_blk_ne hown1 HT1.out (by decide)
      have nga : ga ≠ go := HA1.out.ne_ HG1.out (by decide)
      have nta : ga ≠ gt := HA1.out.ne_ HT1.out (by decide)
      refine ⟨_, rfl, (HA1.out.far (p := ⟨go, 0, none⟩) nga _).far (p := ⟨gt, 0, none⟩) nta _, (HT1.out.far (p := ⟨go, 0, none⟩) hne.out _).set_ 0 _, (HG1.out.set_ 0 _).far (p := ⟨gt, 0, none⟩) hne.out.symm _,
        by rw [HS.out]; exact (hown1.setCell (p := ⟨go, 0, none⟩) ng1 _).setCell (p := ⟨gt, 0, none⟩) nt1 _, ?_⟩
      refine ⟨hg1.os, hg1.tape, hg1.output, by have := hg1.size; simp [World.setCell] at this ⊢; omega, fun k hk hS => ?_⟩
      rw [Below.heap_setCell _ _ _ _ (fun e => hS (.inr (.inl e))), Below.heap_setCell _ _ _ _ (fun e => hS (.inr (.inr (.inl e)))), hg1.block k (by simp; omega) (fun e => hS (.inr (.inr (.inr e.symm)))), Below.heap_alloc _ _ _ hk]
    · have hse : s.isEmpty = false := by
        cases s with
        | nil => exact absurd hc (by simp; omega)
        | cons b r => rfl
      have hse' : (!s.isEmpty) = true := by rw [hse]; rfl
      clear hc
      go_enter Try.func39, Try.ntmps39
      go_wp2_with (at_builtin; go_must (refine wpList_append_eds _ rfl (.tmp 12) (.tmp 17) 22 48 rfl edT base _ _ rfl (hown.alloc _) _ _ 1 [⟨a, n, s⟩] rfl (EdsAt.lit _ _ _ _ ?_) ?_ ?_ ?_))
      any_goals (first | rfl | omega | (simp only [List.length_singleton]; omega) | (rw [World.size_alloc]; omega))
      intro v1 w1 hown1 hg1 hat1
      obtain ⟨A1, cc1, rfl, _⟩ := hown1.form
      have hlen1 : (l ++ [(⟨a, n, s⟩ : Ed)]).length = l.length + 1 := by simp
      rw [hlen1] at hown1
      clear hlen1
      have na := own_blk_ne hown HA.out (by decide)
      have nt := own_blk_ne hown HT.out (by decide)
      have ng := own_blk_ne hown HG.out (by decide)
      have HA1 := Lib.hid ((HA.out.alloc _).grown hg1 (Ne.symm na))
      have HT1 := Lib.hid ((HT.out.alloc _).grown hg1 (Ne.symm nt))
      have HG1 := Lib.hid ((HG.out.alloc _).grown hg1 (Ne.symm ng))
      have c2' : w1.cell? ⟨gt, 0, none⟩ = some (.string ⟨s.toArray⟩) := HT1.out.cell 0
      have c3' : w1.cell? ⟨go, 0, none⟩ = some v := HG1.out.cell 0
      have f2' : w1.frozen? ⟨gt, 0, none⟩ = false := HT1.out.frozen 0
      have f3' : w1.frozen? ⟨go, 0, none⟩ = false := HG1.out.frozen 0
      have hne : Hid (gt ≠ go) := Lib.hid (HT.out.ne_ HG.out (by decide))
      have c2'' : ∀ u, (w1.setCell ⟨go, 0, none⟩ u).cell? ⟨gt, 0, none⟩ = some (.string ⟨s.toArray⟩) := fun u => (HT1.out.far (p := ⟨go, 0, none⟩) hne.out u).cell 0
      clear c1 c2 c3 f2 f3
      go_wp2_with fail
      go_end0
      have ng1 := own_blk_ne hown1 HG1.out (by decide)
      have nt1 := own_blk_ne hown1 HT1.out (by decide)
      have nga : ga ≠ go := HA1.out.ne_ HG1.out (by decide)
      have nta : ga ≠ gt := HA1.out.ne_ HT1.out (by decide)
      refine ⟨_, rfl, (HA1.out.far (p := ⟨go, 0, none⟩) nga _).far (p := ⟨gt, 0, none⟩) nta _, (HT1.out.far (p := ⟨go, 0, none⟩) hne.out _).set_ 0 _, (HG1.out.set_ 0 _).far (p := ⟨gt, 0, none⟩) hne.out.symm _,
        by rw [HS.out]; exact (hown1.setCell (p := ⟨go, 0, none⟩) ng1 _).setCell (p := ⟨gt, 0, none⟩) nt1 _, ?_⟩
      refine ⟨hg1.os, hg1.tape, hg1.output, by have := hg1.size; simp [World.setCell] at this ⊢; omega, fun k hk hS => ?_⟩
      rw [Below.heap_setCell _ _ _ _ (fun e => hS (.inr (.inl e))), Below.heap_setCell _ _ _ _ (fun e => hS (.inr (.inr (.inl e)))), hg1.block k (by simp; omega) (fun e => hS (.inr (.inr (.inr e.symm)))), Below.heap_alloc _ _ _ hk]
  · have hs : Sp.shut a n s = [] := by simp only [Sp.shut, if_neg hc]
    have HS := Lib.hid hs
    have hs0 : s = [] := by
      cases s with
      | nil => rfl
      | cons b r => exact absurd (Or.inr (by simp)) hc
    subst hs0
    have han : ¬ a < n := fun h => hc (.inl h)
    clear hs hc
    go_enter Try.func39, Try.ntmps39
    go_wp2_with fail
    go_end0
    have hne : gt ≠ go := HT.out.ne_ HG.out (by decide)
    have nta : ga ≠ gt := HA.out.ne_ HT.out (by decide)
    have nt := own_blk_ne hown HT.out (by decide)
    refine ⟨_, rfl, HA.out.far (p := ⟨gt, 0, none⟩) nta _, HT.out.set_ 0 _, HG.out.far (p := ⟨gt, 0, none⟩) hne.symm _, by rw [HS.out, List.append_nil]; exact hown.setCell (p := ⟨gt, 0, none⟩) nt _, ?_⟩
    exact ⟨rfl, rfl, rfl, by simp [World.setCell], fun k hk hS => Below.heap_setCell _ _ _ _ (fun e => hS (.inr (.inl e)))⟩
end Go.Proofs.Ytnnicjbceadnbaa
