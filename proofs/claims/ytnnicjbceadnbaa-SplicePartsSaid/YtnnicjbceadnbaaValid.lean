/- Walks: Valid. -/
import Derived.Test.YtnnicjbceadnbaaComp
import Derived.Deep.RegionHeld3
namespace Go.Proofs.Ytnnicjbceadnbaa
open Go.RowKit
open Sp (Ed Ce chk)
def Sp.valGo (n : Int) (out : List Ed) : List Ed → List Ed
  | [] => out
  | x :: r => Sp.valGo n (if chk n 0 (-1) (out ++ [x]) = 0 then out ++ [x] else out) r
theorem valGo_ok (n : Int) (out l : List Ed) (h : chk n 0 (-1) out = 0) : chk n 0 (-1) (Sp.valGo n out l) = 0 := by
  induction l generalizing out with
  | nil => exact h
  | cons x r ih =>
    rw [Sp.valGo]
    split
    · rename_i h2; exact ih _ h2
    · exact ih _ h
theorem valGo_len (n : Int) (out l : List Ed) : (Sp.valGo n out l).length ≤ out.length + l.length ∧ Sp.txt (Sp.valGo n out l) ≤ Sp.txt out + Sp.txt l := by
  induction l generalizing out with
  | nil => simp [Sp.valGo]
  | cons x r ih =>
    rw [Sp.valGo]
    split
    · have := ih (out ++ [x])
      rw [List.length_append, Sp.txt_append] at this
      simp only [Sp.txt, List.length_cons, List.length_nil] at *
      omega
    · have := ih out
      simp only [Sp.txt, List.length_cons] at *
      omega
def edL : Lay Ed := { enc := edCells, sz := 3, len := fun _ => rfl, one := fun x u hu => by simp [edCells] at hu; rcases hu with rfl | rfl | rfl <;> rfl, pos := by omega }
theorem edLT : SliceT Try.prog edL 22 48 32 := ⟨Try.underlying22, by
  obtain ⟨i, h, h1, h2, h3⟩ := info_parts (show (Try.prog.info? 48).map (fun i => (i.zero, i.size, i.bytes)) = some (some (.agg #[.int .i64 0, .int .i64 0, .string ByteArray.empty]), 3, 32) by kernel_rfl)
  exact ⟨i, _, h, h1, h2, h3, rfl⟩, by omega⟩
theorem ed_lit_at {W : World} {g : Nat} {x : Ed} (h : Blk W g 48 #[.int .i64 x.f, .int .i64 x.t, .string ⟨x.s.toArray⟩]) : RowAt edL W (g + 1) (some ⟨g, 0, none⟩) [x] := by
  refine ⟨rfl, fun _ => ⟨⟨g, 0, none⟩, rfl, Nat.lt_succ_self _, fun j u hj => ?_⟩⟩
  rw [show (⟨g, 0, none⟩ : Addr).add j = ⟨g, j, none⟩ from by simp [Addr.add]; exact fun h => h.symm, h.cell j]
  rw [← Array.getElem?_toList]
  exact hj
set_option maxHeartbeats 2000000 in
theorem valid_any (n : Int) (l : List Ed) (A : Option Addr) (c : Nat) (hl : l.length ≤ 1048576) (w : World) (hr : EdsAt w w.heap.size A l) :
    Calls Try.prog 25 #[.int .i64 n, .slice A l.length c] w fun e w' => ∃ v, e = .returned v ∧ OwnEds w' w.heap.size 48 v (Sp.valGo n [] l) ∧ Below w.heap.size w w' := by
  go_enter Try.func25, Try.ntmps25
  go_wp2_with fail
  go_loopw [5, 6] (fun v i wr => ∃ (k : Nat) (out : List Ed), k ≤ l.length ∧ i = .int .i64 k ∧ OwnRow edL wr w.heap.size 48 v out ∧ Hid (Sp.valGo n [] l = Sp.valGo n out (l.drop k)) ∧ out.length ≤ k ∧ Below w.heap.size w wr) (fun _ i _ => (l.length - intOf i).toNat)
  case atStart => exact ⟨0, [], by omega, rfl, OwnRow.nil, Lib.hid rfl, by simp, Below.refl _ _⟩
  case round =>
    obtain ⟨k, out, hk, rfl, hown, HE, hol, hb⟩ := hrel
    have hz := hb.size
    by_cases hlt : k < l.length
    · obtain ⟨ad, rfl, hab, c1, c2, c3⟩ := EdsAt.at_ (hr.below hb) hlt
      have hdrop : l.drop k = l[k] :: l.drop (k + 1) := List.drop_eq_getElem_cons hlt
      generalize l[k] = x at *
      have HD := Lib.hid hdrop
      clear hdrop
      obtain ⟨A1, d1, rfl, hr1⟩ := hown.form
      have hab3 : (ad.add (k * 3)).block < wr.heap.size := by rw [block_of_add]; omega
      go_wp2_with fail
      obtain ⟨WA, hWA⟩ : ∃ WA, WA = (wr.alloc (.cells #[] 48)).drew := ⟨_, rfl⟩
      obtain ⟨WB, hWB⟩ : ∃ WB, WB = ((wr.alloc (.cells #[] 48)).alloc (.cells #[.int .i64 x.f, .int .i64 x.t, .string ⟨x.s.toArray⟩] 48)).drew := ⟨_, rfl⟩
      obtain ⟨WC, hWC⟩ : ∃ WC, WC = ((wr.alloc (.cells #[.int .i64 x.f, .int .i64 x.t, .string ⟨x.s.toArray⟩] 48)).alloc (.cells #[] 48)).drew := ⟨_, rfl⟩
      have hbA0 : Below wr.heap.size wr WA := by rw [hWA]; exact ((Below.refl wr.heap.size wr).alloc (Nat.le_refl _) _).drew
      have hbB0 : Below wr.heap.size wr WB := by rw [hWB]; exact (((Below.refl wr.heap.size wr).alloc (Nat.le_refl _) _).alloc (by simp) _).drew
      have hbC0 : Below wr.heap.size wr WC := by rw [hWC]; exact (((Below.refl wr.heap.size wr).alloc (Nat.le_refl _) _).alloc (by simp) _).drew
      have hzA : wr.heap.size ≤ WA.heap.size := hbA0.size
      have hzB : wr.heap.size ≤ WB.heap.size := hbB0.size
      have hzC : wr.heap.size ≤ WC.heap.size := hbC0.size
      have hownA : OwnRow edL WA wr.heap.size 48 (.slice (some ⟨wr.heap.size, 0, none⟩) 0 0) ([] : List Ed) := by rw [hWA]; exact OwnEds.lit0 (w := wr) (Nat.le_refl _) 48 _ rfl
      have hownB : OwnRow edL WB wr.heap.size 48 (.slice (some ⟨wr.heap.size, 0, none⟩) 0 0) ([] : List Ed) := by rw [hWB]; exact OwnEds.alloc (OwnEds.lit0 (w := wr) (Nat.le_refl _) 48 _ rfl) _
      have hownC : OwnRow edL WC wr.heap.size 48 (.slice (some ⟨wr.heap.size + 1, 0, none⟩) 0 0) ([] : List Ed) := by rw [hWC]; exact OwnEds.lit0 (w := wr.alloc _) (by simp) 48 _ (by simp)
      have hrA : RowAt edL WA wr.heap.size A1 out := hr1.below hbA0
      have hrB : RowAt edL WB wr.heap.size A1 out := hr1.below hbB0
      have hrC : RowAt edL WC wr.heap.size A1 out := hr1.below hbC0
      have hkB : Blk WB (wr.heap.size + 1) 48 #[.int .i64 x.f, .int .i64 x.t, .string ⟨x.s.toArray⟩] := by rw [hWB]; have := Blk.new (wr.alloc (.cells #[] 48)) 48 #[.int .i64 x.f, .int .i64 x.t, .string ⟨x.s.toArray⟩]; rw [World.size_alloc] at this; exact this
      have hkC : Blk WC wr.heap.size 48 #[.int .i64 x.f, .int .i64 x.t, .string ⟨x.s.toArray⟩] := by rw [hWC]; exact (Blk.new wr 48 #[.int .i64 x.f, .int .i64 x.t, .string ⟨x.s.toArray⟩]).alloc _
      have hneB : (some (wr.heap.size + 1) : Option Nat) ≠ (Value.slice (some ⟨wr.heap.size, 0, none⟩) 0 0).ownBlock := by simp [Value.ownBlock]
      have hneC : (some wr.heap.size : Option Nat) ≠ (Value.slice (some ⟨wr.heap.size + 1, 0, none⟩) 0 0).ownBlock := by simp [Value.ownBlock]
      have hl0 : ([] : List Ed).length + out.length ≤ 1073741824 := by simp; omega
      have hl1 : (([] : List Ed) ++ out).length + [x].length ≤ 1073741824 := by simp; omega
      go_region_held3 (fun w' => w'.cell? (ad.add (k * 3)) = some (.int .i64 x.f) ∧ w'.cell? { block := (ad.add (k * 3)).block, off := (ad.add (k * 3)).off + 1 } = some (.int .i64 x.t) ∧ w'.cell? { block := (ad.add (k * 3)).block, off := (ad.add (k * 3)).off + 2 } = some (.string ⟨x.s.toArray⟩))
        (first | go_keep | exact ⟨c1, c2, c3⟩ | exact ⟨(hbF.cell (p := ad.add (k * 3)) hab3).trans c1, (hbF.cell (p := { block := (ad.add (k * 3)).block, off := (ad.add (k * 3)).off + 1 }) hab3).trans c2, (hbF.cell (p := { block := (ad.add (k * 3)).block, off := (ad.add (k * 3)).off + 2 }) hab3).trans c3⟩ | exact ⟨(hbA.cell (p := ad.add (k * 3)) hab3).trans c1, (hbA.cell (p := { block := (ad.add (k * 3)).block, off := (ad.add (k * 3)).off + 1 }) hab3).trans c2, (hbA.cell (p := { block := (ad.add (k * 3)).block, off := (ad.add (k * 3)).off + 2 }) hab3).trans c3⟩ | fail)
        ((first
          | (rw [← hWA]; refine step_append_row _ (by rfl) (.tmp 14) (.tmp 15) 22 48 32 (by rfl) edLT wr.heap.size _ [] (by rfl) hownA wr.heap.size A1 d1 out (by rfl) hrA hl0 hzA ?_; intro v1 w1 hown1 hg1 hat1; have hbA : Below wr.heap.size wr w1 := hbA0.trans (hownA.grown_below hg1 hzA))
          | (rw [← hWB]; refine step_append_row _ (by rfl) (.tmp 14) (.tmp 15) 22 48 32 (by rfl) edLT wr.heap.size _ [] (by rfl) hownB wr.heap.size A1 d1 out (by rfl) hrB hl0 hzB ?_; intro v1 w1 hown1 hg1 hat1; have hbA : Below wr.heap.size wr w1 := hbB0.trans (hownB.grown_below hg1 hzB); have hlit := ed_lit_at (hkB.grown hg1 hneB))
          | (rw [← hWC]; refine step_append_row _ (by rfl) (.tmp 14) (.tmp 15) 22 48 32 (by rfl) edLT wr.heap.size _ [] (by rfl) hownC wr.heap.size A1 d1 out (by rfl) hrC hl0 hzC ?_; intro v1 w1 hown1 hg1 hat1; have hbA : Below wr.heap.size wr w1 := hbC0.trans (hownC.grown_below hg1 hzC); have hlit := ed_lit_at (hkC.grown hg1 hneC))
          | (refine step_append_row _ (by rfl) (.tmp 16) (.tmp 21) 22 48 32 (by rfl) edLT wr.heap.size _ _ (by rfl) (hown1.alloc _) (w1.heap.size + 1) _ 1 [x] (by rfl) (RowAt.lit1 (L := edL) x _ rfl _ rfl) hl1 (by have := hbA.size; rw [World.size_alloc]; omega) ?_; intro v2 w2 hown2 hg2 hat2; have hbF : Below wr.heap.size wr w2 := (hbA.alloc hbA.size _).trans ((hown1.alloc _).grown_below hg2 (by have := hbA.size; rw [World.size_alloc]; omega)))
          | (refine step_append_row _ (by rfl) (.tmp 16) (.tmp 21) 22 48 32 (by rfl) edLT wr.heap.size _ _ (by rfl) hown1 _ _ 1 [x] (by rfl) hlit hl1 hbA.size ?_; intro v2 w2 hown2 hg2 hat2; have hbF : Below wr.heap.size wr w2 := hbA.trans (hown1.grown_below hg2 hbA.size))
          | (trace_state; fail)))
      all_goals
        have hown3 : OwnRow edL w2 wr.heap.size 48 v2 (out ++ [x]) := hown2
        have hol2 : (out ++ [x]).length ≤ k + 1 := by simp; omega
        have HML : Hid (Sp.valGo n out (x :: l.drop (k + 1)) = Sp.valGo n (if chk n 0 (-1) (out ++ [x]) = 0 then out ++ [x] else out) (l.drop (k + 1))) := Lib.hid rfl
        generalize out ++ [x] = more at *
        obtain ⟨A3, d3, rfl, hr3⟩ := hown3.form
        clear hown2 hg2 hat2 hown1 hg1 hat1
        have hz2 := hbF.size
        go_wp2_with fail
        refine (rcheck_any n A3 d3 more (by omega) _ hr3).mono ?_
        rintro e w4 ⟨rfl, hb4⟩
        have hz4 := hb4.size
        have hbb : Below w.heap.size w w4 := (hb.trans (hbF.mono (by omega))).trans (hb4.mono (by omega))
        by_cases hc : chk n 0 (-1) more = 0
        · have HN : Hid (Sp.valGo n [] l = Sp.valGo n more (l.drop (k + 1))) := Lib.hid (by rw [HE.out, HD.out, HML.out, if_pos hc])
          have HC := Lib.hid hc
          rw [hc]
          clear hc
          go_wp2_with fail
          go_roundw
          case rel => exact ⟨k + 1, more, by omega, by go_num, OwnRow.lower (OwnRow.later hown3 hb4) (by omega), HN, by omega, hbb⟩
          case measure => simp [intOf] <;> omega
        · have HN : Hid (Sp.valGo n [] l = Sp.valGo n out (l.drop (k + 1))) := Lib.hid (by rw [HE.out, HD.out, HML.out, if_neg hc])
          have hc2 : (chk n 0 (-1) more == 0) = false := by simpa using hc
          clear hc
          go_wp2_with fail
          go_roundw
          case rel => exact ⟨k + 1, out, by omega, by go_num, OwnRow.later hown ((hbF).trans (hb4.mono (by omega))), HN, by omega, hbb⟩
          case measure => simp [intOf] <;> omega
    · obtain rfl : k = l.length := by omega
      rw [List.drop_length] at HE
      go_wp2_with fail
      go_ret
      rw [HE.out]
      exact ⟨_, rfl, hown, hb⟩
end Go.Proofs.Ytnnicjbceadnbaa
