/- Walks: shifted. -/
import Derived.Test.YtoigpackhninoaaGreatDoorGrScal
import Derived.Laws.CopyOwn
namespace Go.Proofs.YtoigpackhninoaaGreatDoor
open Go.RowKit
theorem infoIntS : (Tryz.prog.info? 3).map (·.size) = some 1 := by kernel_rfl
theorem ints_all (l : List Nat) : intL.all l = (icells l).toList := by
  induction l with
  | nil => rfl
  | cons x l ih =>
    have e1 : intL.all (x :: l) = .int .i64 (x : Int) :: intL.all l := rfl
    rw [e1, ih]
    simp [icells]
theorem copy_ints (W : World) (B g n c : Nat) (A : Option Addr) (l : List Nat) (ty : TypeId) (hl : l.length = n) (hb : Blk W g 3 (icells (List.replicate n 0))) (hr : RowAt intL W B A l) :
    ∃ W', (Builtin.copy_ #[33, 33] ty #[.slice (some ⟨g, 0, none⟩) n n, .slice A n c]).run Tryz.prog W = .ok (.int .i64 n) W' ∧ Kept1 g W W' ∧ Blk W' g 3 (icells l) := by
  by_cases h0 : n = 0
  · subst h0
    obtain rfl := List.eq_nil_of_length_eq_zero hl
    exact ⟨W, run_copy_none (P := Tryz.prog) W 33 33 ty 3 _ A 0 0 0 c Tryz.underlying33 infoIntS rfl, Kept1.refl _ _, hb⟩
  · obtain ⟨ad, rfl, hlt, hc⟩ := hr.2 (by omega)
    have hall : (intL.all l).length = n := by rw [Lay.all_len]; show l.length * 1 = n; omega
    have hrun := run_copy_row (P := Tryz.prog) W 33 33 ty 3 g 0 n n ad n c (icells (List.replicate n 0)) 3 (intL.all l) Tryz.underlying33 infoIntS hb (by rw [hall]; exact (Nat.min_self n).symm) hc (by rw [hall]; simp [icells]) (intL.all_one l)
    have e : ((icells (List.replicate n 0)).toList.take 0 ++ intL.all l ++ (icells (List.replicate n 0)).toList.drop (0 + (intL.all l).length)).toArray = icells l := by
      rw [hall]
      have : intL.all l = (icells l).toList := by
        exact ints_all l
      rw [this]
      simp [icells]
    rw [e, hall] at hrun
    exact ⟨_, hrun, ⟨rfl, rfl, rfl, size_setRow _ _ _, fun k hk => setRow_other _ _ _ _ hk⟩, setRow_heap _ _ _ _ _ _ hb⟩
theorem shift_set (l : List Nat) (f : Nat → Nat) (i : Nat) (h : i < l.length) : ((l.take i).map f ++ l.drop i).set i (f l[i]) = (l.take (i + 1)).map f ++ l.drop (i + 1) := by
  have e : ((l.take i).map f).length = i := by simp; omega
  rw [List.drop_eq_getElem_cons h, List.set_append_right _ _ (by rw [e]; exact Nat.le_refl _), e, Nat.sub_self, List.set_cons_zero, take_snocN _ _ h, List.map_append]
  simp
set_option maxRecDepth 100000 in
set_option maxHeartbeats 4000000 in
theorem shifted_any (A : Option Addr) (c by_ : Nat) (l : List Nat) (hl : l.length ≤ 1073741823) (hx : ∀ x ∈ l, x ≤ 1152921504606846976) (hby : by_ ≤ 1152921504606846976) (w : World) (B : Nat) (hB : B ≤ w.heap.size) (h : RowAt intL w B A l) :
    Calls Tryz.prog 83 #[.slice A l.length c, .int .i64 by_] w fun e w' => e = .returned (.slice (some ⟨w.heap.size, 0, none⟩) l.length l.length) ∧ Below w.heap.size w w' ∧ Blk w' w.heap.size 3 (icells (l.map (· + by_))) := by
  have hmk := fun W => make_ints l.length (by omega) W
  obtain ⟨w1, hw1⟩ : ∃ w1, w.alloc (.cells (icells (List.replicate l.length 0)) 3) = w1 := ⟨_, rfl⟩
  have l1 : Below w.heap.size w w1 := by rw [← hw1]; exact (Below.refl _ _).alloc (Nat.le_refl _) _
  have b1 : Blk w1 w.heap.size 3 (icells (List.replicate l.length 0)) := by rw [← hw1]; exact Blk.new _ _ _
  obtain ⟨w2, hcp, hk2, hb2⟩ := copy_ints w1 B w.heap.size l.length c A l 3 rfl b1 (h.below (l1.mono hB))
  have HK2 : Hid (Below w.heap.size w w2 ∧ Blk w2 w.heap.size 3 (icells l)) := Lib.hid ⟨l1.trans (hk2.below (Nat.le_refl _)), hb2⟩
  clear l1 b1 hk2 hb2 h
  go_enter Tryz.func83, Tryz.ntmps83
  go_upto_region 2 with fail
  (try rw [hw1])
  clear hw1
  go_upto_region 3 with fail
  obtain ⟨g, hg⟩ : ∃ g, w.heap.size = g := ⟨_, rfl⟩
  have HG := Lib.hid hg
  rw [hg] at HK2
  (try rw [hg])
  clear hcp hg
  go_upto_region 4 with fail
  go_loopw [15] (fun s15 wr => ∃ i : Nat, i ≤ l.length ∧ s15 = .int .i64 i ∧ Hid (Below g w wr ∧ Blk wr g 3 (icells ((l.take i).map (· + by_) ++ l.drop i)))) (fun s15 _ => l.length - (intOf s15).toNat)
  case atStart => exact ⟨0, by omega, rfl, Lib.hid ⟨HK2.out.1, by simpa using HK2.out.2⟩⟩
  case round =>
    obtain ⟨i, hi, rfl, HW⟩ := hrel
    by_cases hlt : i < l.length
    · have hltI : (i : Int) < (l.length : Int) := by omega
      obtain ⟨x, hxe⟩ : ∃ x, l[i] = x := ⟨_, rfl⟩
      have hxb : x ≤ 1152921504606846976 := by rw [← hxe]; exact hx _ (List.getElem_mem hlt)
      have hgd : ((l.take i).map (· + by_) ++ l.drop i).getD i 0 = x := by
        rw [List.getD_eq_getElem?_getD, List.getElem?_append_right (by simp; omega)]
        simp [Nat.min_eq_left hi, List.getElem?_eq_getElem hlt, hxe]
      have z0 : wr.cell? ⟨g, i, none⟩ = some (.int .i64 (x : Int)) := by
        rw [HW.out.2.cell, icells_get (by simp; omega), hgd]
      have zf : ∀ j, wr.frozen? ⟨g, j, none⟩ = false := HW.out.2.frozen
      have HNX : Hid (Below g w (wr.setCell ⟨g, i, none⟩ (.int .i64 ((x : Int) + (by_ : Int)))) ∧ Blk (wr.setCell ⟨g, i, none⟩ (.int .i64 ((x : Int) + (by_ : Int)))) g 3 (icells ((l.take (i + 1)).map (· + by_) ++ l.drop (i + 1)))) := Lib.hid ⟨HW.out.1.setCell (by simp) _, by
        have h1 := HW.out.2.set_ i (.int .i64 ((x + by_ : Nat) : Int))
        rw [icells_set] at h1
        rw [show (x : Int) + (by_ : Int) = ((x + by_ : Nat) : Int) from by omega]
        have e := shift_set l (· + by_) i hlt
        rw [hxe] at e
        rw [e] at h1
        exact h1⟩
      clear hgd hxe
      go_wp2_with fail
      go_roundw
      case rel => exact ⟨i + 1, by omega, by go_num, HNX⟩
      case measure => simp [intOf]; omega
    · have hltI : ¬ (i : Int) < (l.length : Int) := by omega
      have HE : Hid (Below g w wr ∧ Blk wr g 3 (icells (l.map (· + by_)))) := Lib.hid (by
        have := HW.out
        rw [show i = l.length from by omega, List.take_length, List.drop_length, List.append_nil] at this
        exact this)
      go_wp2_with fail
      go_ret
      rw [HG.out]
      exact ⟨rfl, HE.out⟩
end Go.Proofs.YtoigpackhninoaaGreatDoor
