/- Walks: awake. -/
import Derived.Test.YtoigpackhninoaaGreatDoorGrWake
namespace Go.Proofs.YtoigpackhninoaaGreatDoor
open Go.RowKit
theorem loop_gat {w : World} {g gi : Nat} (h : Blk w g 35 #[.int .i64 9, .string ⟨#[]⟩, .bool false, .slice none 0 0, .slice (some ⟨gi, 0, none⟩) 1 1]) (hi : Blk w gi 3 #[.int .i64 0]) : ∃ vs, GAt w w.heap.size (some ⟨g, 0, none⟩) vs nsLoop := by
  have ho : OwnRow intL w 0 3 (.slice (some ⟨gi, 0, none⟩) 1 1) [0] := own_of_blk (l := [0]) hi (Nat.zero_le _) rfl (by decide)
  have hr := (Rows.nil 0 w).snoc ⟨9, [], false, SV.nil, ⟨some ⟨gi, 0, none⟩, 1, 1⟩⟩ ⟨9, [], false, [], [0]⟩ ⟨rfl, rfl, rfl⟩ OwnRow.nil ho (fun g h => by simp [SV.nil, SV.v, Value.ownBlock] at h) (fun j b g h => by simp [ints, SV.nil, SV.v, Value.ownBlock] at h)
  have ht : Tab 0 w (.slice (some ⟨g, 0, none⟩) 1 1) [⟨9, [], false, SV.nil, ⟨some ⟨gi, 0, none⟩, 1, 1⟩⟩] nsLoop := ⟨⟨nodeL.all_len _, .inr ⟨g, 1, _, rfl, Nat.zero_le _, h, Nat.le_refl _, by decide, rfl, rfl⟩⟩, hr⟩
  obtain ⟨A, c, hv, hg⟩ := ht.at_
  injection hv with e1 e2 e3
  subst e1
  exact ⟨_, hg⟩
theorem loop_dep {w : World} {A : Option Addr} {c : Nat} {vs : List NV} (h : GAt w w.heap.size A vs nsLoop) : DepOk w (.agg #[.slice A 1 c, .int .i64 0]) (0, false) := by
  intro W hW
  have := depth_any A c 0 vs nsLoop (refs_small _ (by decide)) (by decide) (by intro n hn; have := nh_small nsLoop (by decide) n hn; exact ⟨this.1, this.2.1⟩) (by decide)
    (by intro v hv; have h0 : v = 0 := by simp [nsLoop] at hv; omega
        subst h0; exact .refl _) W ((h.below hW).more hW.size)
  rw [loop_depth] at this
  exact this
set_option maxRecDepth 100000 in
set_option maxHeartbeats 8000000 in
theorem awake_any (w : World) (hUT : UT w) : Calls Tryz.prog 13 #[] w fun e w' => e = .returned (.bool true) ∧ Below w.heap.size w w' := by
  have HS1 : Hid (∀ W, UT W → Calls Tryz.prog 16 #[.int .i64 2, .string ⟨([49] : Gr.Str).toArray⟩] W fun e w' => Below W.heap.size W w' ∧ ∃ g, W.heap.size ≤ g ∧ e = .returned (.tuple #[.agg #[.slice (some ⟨g, 0, none⟩) 1 1, .int .i64 0], .int .i64 0]) ∧ Blk w' g 35 #[.int .i64 2, .string ⟨([49] : Gr.Str).toArray⟩, .bool false, .slice none 0 0, .slice none 0 0]) := Lib.hid (fun W hW => (Scalar_any UT UT.stays 2 [49] true (by decide) (by decide) (by rw [← int_one]; exact scal_int [49] (by decide)) W hW).mono (by
    rintro e w' ⟨hb, _, h⟩
    exact ⟨hb, h rfl⟩))
  have HS2 : Hid (∀ W, UT W → Calls Tryz.prog 16 #[.int .i64 5, .string ⟨([97] : Gr.Str).toArray⟩] W fun e w' => Below W.heap.size W w' ∧ ∃ g, W.heap.size ≤ g ∧ e = .returned (.tuple #[.agg #[.slice (some ⟨g, 0, none⟩) 1 1, .int .i64 0], .int .i64 0]) ∧ Blk w' g 35 #[.int .i64 5, .string ⟨([97] : Gr.Str).toArray⟩, .bool false, .slice none 0 0, .slice none 0 0]) := Lib.hid (fun W hW => (Scalar_any UT UT.stays 5 [97] true (by decide) (by decide) (by rw [← utf_a]; exact scal_text [97] (by decide)) W hW).mono (by
    rintro e w' ⟨hb, _, h⟩
    exact ⟨hb, h rfl⟩))
  have HS3 : Hid (∀ W, UT W → Calls Tryz.prog 16 #[.int .i64 2, .string ⟨([48, 49] : Gr.Str).toArray⟩] W fun e w' => Below W.heap.size W w' ∧ e = .returned (.tuple #[.agg #[.slice none 0 0, .int .i64 0], .int .i64 3])) := Lib.hid (fun W hW => (Scalar_any UT UT.stays 2 [48, 49] false (by decide) (by decide) (by rw [← int_bad]; exact scal_int [48, 49] (by decide)) W hW).mono (by
    rintro e w' ⟨hb, h, _⟩
    exact ⟨hb, h rfl⟩))
  have HUT := Lib.hid hUT
  clear hUT
  go_enter Tryz.func13, Tryz.ntmps13
  go_upto_region 1 with fail
  go_wp2_with fail
  refine (HS1.out w HUT.out).mono ?_
  rintro e w1 ⟨hb1, g1, hg1, rfl, hk1⟩
  go_upto_region 2 with fail
  obtain ⟨w2, hw2⟩ : ∃ w2, w1.alloc (.cells #[.slice (some ⟨g1, 0, none⟩) 1 1, .int .i64 0] 24) = w2 := ⟨_, rfl⟩
  obtain ⟨n1, hn1⟩ : ∃ n1, w1.heap.size = n1 := ⟨_, rfl⟩
  have HB2 : Hid (Below w.heap.size w w2) := Lib.hid (by rw [← hw2]; exact hb1.alloc hb1.size _)
  have HK1 : Hid (Blk w2 g1 35 #[.int .i64 2, .string ⟨([49] : Gr.Str).toArray⟩, .bool false, .slice none 0 0, .slice none 0 0]) := Lib.hid (by rw [← hw2]; exact hk1.alloc _)
  have HX1 : Hid (Blk w2 n1 24 #[.slice (some ⟨g1, 0, none⟩) 1 1, .int .i64 0]) := Lib.hid (by rw [← hw2, ← hn1]; exact Blk.new _ _ _)
  have HU2 := Lib.hid (UT.stays _ _ HUT.out HB2.out)
  clear hb1 hg1 hk1
  (try rw [hw2])
  (try rw [hn1])
  clear hw2 hn1
  go_wp2_with fail
  refine (HS2.out w2 HU2.out).mono ?_
  rintro e w3 ⟨hb3, g2, hg2, rfl, hk2⟩
  go_upto_region 3 with fail
  obtain ⟨w4, hw4⟩ : ∃ w4, w3.alloc (.cells #[.slice (some ⟨g2, 0, none⟩) 1 1, .int .i64 0] 24) = w4 := ⟨_, rfl⟩
  obtain ⟨n2, hn2⟩ : ∃ n2, w3.heap.size = n2 := ⟨_, rfl⟩
  have hb4 : Below w2.heap.size w2 w4 := by rw [← hw4]; exact hb3.alloc hb3.size _
  have HB4 := Lib.hid (HB2.out.trans (hb4.mono HB2.out.size))
  have HK14 := Lib.hid (HK1.out.below hb4 HK1.out.lt)
  have hx1 := HX1.out.below hb4 HX1.out.lt
  have HK24 : Hid (Blk w4 g2 35 #[.int .i64 5, .string ⟨([97] : Gr.Str).toArray⟩, .bool false, .slice none 0 0, .slice none 0 0]) := Lib.hid (by rw [← hw4]; exact hk2.alloc _)
  have hx2 : Blk w4 n2 24 #[.slice (some ⟨g2, 0, none⟩) 1 1, .int .i64 0] := by rw [← hw4, ← hn2]; exact Blk.new _ _ _
  have HU4 := Lib.hid (UT.stays _ _ HUT.out HB4.out)
  have a0 : w4.cell? ⟨n1, 0, none⟩ = some (.slice (some ⟨g1, 0, none⟩) 1 1) := hx1.cell 0
  have a1 : w4.cell? ⟨n1, 1, none⟩ = some (.int .i64 0) := hx1.cell 1
  have a2 : w4.cell? ⟨n2, 0, none⟩ = some (.slice (some ⟨g2, 0, none⟩) 1 1) := hx2.cell 0
  have a3 : w4.cell? ⟨n2, 1, none⟩ = some (.int .i64 0) := hx2.cell 1
  clear hb3 hg2 hk2 hb4 hx1 hx2
  (try rw [hw4])
  (try rw [hn2])
  clear hw4 hn2
  obtain ⟨w5, hw5⟩ : ∃ w5, w4.alloc (.cells #[.slice (some ⟨g1, 0, none⟩) 1 1, .int .i64 0, .slice (some ⟨g2, 0, none⟩) 1 1, .int .i64 0] 24) = w5 := ⟨_, rfl⟩
  obtain ⟨n3, hn3⟩ : ∃ n3, w4.heap.size = n3 := ⟨_, rfl⟩
  have hb5 : Below w4.heap.size w4 w5 := by rw [← hw5]; exact (Below.refl _ _).alloc (Nat.le_refl _) _
  have hrow : RowAt argL w5 w5.heap.size (some ⟨n3, 0, none⟩) [argOf g1 2 [49], argOf g2 5 [97]] := by
    have ho : OwnRow argL w5 0 24 (.slice (some ⟨n3, 0, none⟩) 2 2) [argOf g1 2 [49], argOf g2 5 [97]] := ⟨argL.all_len _, .inr ⟨n3, 2, _, rfl, Nat.zero_le _, by rw [← hw5, ← hn3]; exact Blk.new _ _ _, Nat.le_refl _, by decide, rfl, rfl⟩⟩
    obtain ⟨A, c, hv, hg⟩ := ho.form
    injection hv with e1 e2 e3
    subst e1
    exact hg
  have HB5 := Lib.hid (HB4.out.trans (hb5.mono HB4.out.size))
  have hl := list_two (some ⟨n3, 0, none⟩) 2 g1 g2 w5 (UT.stays _ _ HU4.out hb5) (HK14.out.below hb5 HK14.out.lt) (HK24.out.below hb5 HK24.out.lt) hrow
  have HL := Lib.hid hl
  clear hb5 hrow hl HX1 HK1 HK14 HK24 HS1 HS2
  go_wp2_with fail
  (try rw [hw5])
  (try rw [hn3])
  clear hw5 hn3 a0 a1 a2 a3
  refine HL.out.mono ?_
  rintro e w6 ⟨hb6, A3, c3, vs3, rfl, hg6⟩
  go_upto_region 4 with fail
  obtain ⟨w7, hw7⟩ : ∃ w7, w6.alloc (.cells #[.slice A3 3 c3, .int .i64 0] 24) = w7 := ⟨_, rfl⟩
  obtain ⟨n5, hn5⟩ : ∃ n5, w6.heap.size = n5 := ⟨_, rfl⟩
  have hb7 : Below w6.heap.size w6 w7 := by rw [← hw7]; exact (Below.refl _ _).alloc (Nat.le_refl _) _
  have hb67 := HB5.out.trans (hb6.mono HB5.out.size)
  have HB7 := Lib.hid (hb67.trans (hb7.mono hb67.size))
  have HG7 : Hid (GAt w7 w7.heap.size A3 vs3 nsL) := Lib.hid ((hg6.below hb7).more hb7.size)
  have HX5 : Hid (Blk w7 n5 24 #[.slice A3 3 c3, .int .i64 0]) := Lib.hid (by rw [← hw7, ← hn5]; exact Blk.new _ _ _)
  have HU7 := Lib.hid (UT.stays _ _ HUT.out HB7.out)
  clear hb6 hg6 hb7 hb67 HL HB2 HB4 HB5 HU2 HU4
  (try rw [hw7])
  (try rw [hn5])
  clear hw7 hn5
  go_wp2_with fail
  refine (HS3.out w7 HU7.out).mono ?_
  rintro e w8 ⟨hb8, rfl⟩
  go_upto_region 5 with fail
  obtain ⟨w9, hw9⟩ : ∃ w9, w8.alloc (.cells #[.slice none 0 0, .int .i64 0] 24) = w9 := ⟨_, rfl⟩
  obtain ⟨n7, hn7⟩ : ∃ n7, w8.heap.size = n7 := ⟨_, rfl⟩
  have hb9 : Below w7.heap.size w7 w9 := by rw [← hw9]; exact hb8.alloc hb8.size _
  have HB9 := Lib.hid (HB7.out.trans (hb9.mono HB7.out.size))
  have HG9 : Hid (GAt w9 w9.heap.size A3 vs3 nsL) := Lib.hid ((HG7.out.below hb9).more hb9.size)
  have HX59 := Lib.hid (HX5.out.below hb9 HX5.out.lt)
  clear hb8 hb9 HG7 HX5 HS3
  (try rw [hw9])
  (try rw [hn7])
  clear hw9 hn7
  go_upto_region 6 with fail
  obtain ⟨s, hs⟩ : ∃ s, w9.heap.size = s := ⟨_, rfl⟩
  (try rw [hs])
  obtain ⟨wa, hwa⟩ : ∃ wa, w9.alloc (.cells #[.int .i64 0] 3) = wa := ⟨_, rfl⟩
  have ba : Blk wa s 3 #[.int .i64 0] := by rw [← hwa, ← hs]; exact Blk.new _ _ _
  have la : Below s w9 wa := by rw [← hwa, ← hs]; exact (Below.refl _ _).alloc (Nat.le_refl _) _
  have sa : wa.heap.size = s + 1 := by rw [← hwa, ← hs]; simp
  obtain ⟨wb, hwb⟩ : ∃ wb, wa.alloc (.cells #[.int .i64 9, .string ⟨#[]⟩, .bool false, .slice none 0 0, .slice (some ⟨s, 0, none⟩) 1 1] 35) = wb := ⟨_, rfl⟩
  have bb : Blk wb (s + 1) 35 #[.int .i64 9, .string ⟨#[]⟩, .bool false, .slice none 0 0, .slice (some ⟨s, 0, none⟩) 1 1] := by rw [← hwb, ← sa]; exact Blk.new _ _ _
  have lb : Below (s + 1) wa wb := by rw [← hwb]; exact (Below.refl _ _).alloc (by omega) _
  have sb : wb.heap.size = s + 2 := by rw [← hwb]; simp [sa]
  obtain ⟨wc, hwc⟩ : ∃ wc, wb.alloc (.cells #[.slice (some ⟨s + 1, 0, none⟩) 1 1, .int .i64 0] 24) = wc := ⟨_, rfl⟩
  have bc : Blk wc (s + 2) 24 #[.slice (some ⟨s + 1, 0, none⟩) 1 1, .int .i64 0] := by rw [← hwc, ← sb]; exact Blk.new _ _ _
  have lc : Below (s + 2) wb wc := by rw [← hwc]; exact (Below.refl _ _).alloc (by omega) _
  have hbb : Blk wc (s + 1) 35 #[.int .i64 9, .string ⟨#[]⟩, .bool false, .slice none 0 0, .slice (some ⟨s, 0, none⟩) 1 1] := bb.below lc (by omega)
  have hba : Blk wc s 3 #[.int .i64 0] := (ba.below lb (by omega)).below lc (by omega)
  have hb9c : Below w9.heap.size w9 wc := by rw [hs]; exact la.trans ((lb.mono (by omega)).trans (lc.mono (by omega)))
  obtain ⟨vl, hgl⟩ := loop_gat hbb hba
  have HGL := Lib.hid hgl
  have HBC := Lib.hid (HB9.out.trans (hb9c.mono HB9.out.size))
  have HG3 : Hid (GAt wc wc.heap.size A3 vs3 nsL) := Lib.hid ((HG9.out.below hb9c).more hb9c.size)
  have hx5 := HX59.out.below hb9c HX59.out.lt
  have HX5 := Lib.hid hx5
  have HX9 := Lib.hid bc
  have HUC := Lib.hid (UT.stays _ _ HUT.out HBC.out)
  have q0 : wc.cell? ⟨s + 2, 0, none⟩ = some (.slice (some ⟨s + 1, 0, none⟩) 1 1) := bc.cell 0
  have q1 : wc.cell? ⟨s + 2, 1, none⟩ = some (.int .i64 0) := bc.cell 1
  have HD : Hid (Calls Tryz.prog 22 #[.agg #[.slice (some ⟨s + 1, 0, none⟩) 1 1, .int .i64 0]] wc fun e w' => e = .returned (.tuple #[.int .i64 0, .bool false]) ∧ Below wc.heap.size wc w') := Lib.hid (by
    have h1 := chk_small (some ⟨s + 1, 0, none⟩) 1 vl nsLoop wc HUC.out (nh_small _ (by decide)) (ku_small _ (by decide)) (refs_small _ (by decide)) (by decide) (by decide) hgl
    rw [loop_ok] at h1
    exact Depth_any (some ⟨s + 1, 0, none⟩) 1 1 0 0 (0, false) wc h1 (fun _ => loop_dep hgl))
  (try rw [hwa])
  (try rw [hwb])
  (try rw [hwc])
  clear hs hwa ba la sa hwb bb lb sb hwc bc lc hbb hba hb9c hgl hx5 HG9 HX59 HB9 HB7
  go_wp2_with fail
  refine HD.out.mono ?_
  rintro e wd ⟨rfl, hbd⟩
  have HBD := Lib.hid (HBC.out.trans (hbd.mono HBC.out.size))
  have HUD := Lib.hid (UT.stays _ _ HUT.out HBD.out)
  have hx5 := HX5.out.below hbd HX5.out.lt
  have hx9 := HX9.out.below hbd HX9.out.lt
  have r0 : wd.cell? ⟨n5, 0, none⟩ = some (.slice A3 3 c3) := hx5.cell 0
  have r1 : wd.cell? ⟨n5, 1, none⟩ = some (.int .i64 0) := hx5.cell 1
  have HX9d := Lib.hid hx9
  have HSZ : Hid (Calls Tryz.prog 21 #[.agg #[.slice A3 3 c3, .int .i64 0]] wd fun e w' => e = .returned (.int .i64 3) ∧ Below wd.heap.size wd w') := Lib.hid (by
    have h1 := chk_small A3 c3 vs3 nsL wd HUD.out (nh_small _ (by decide)) (ku_small _ (by decide)) (refs_small _ (by decide)) (by decide) (by decide) ((HG3.out.below hbd).more hbd.size)
    rw [list_ok] at h1
    exact size_any A3 3 c3 0 0 wd h1)
  have HGD : Hid (GAt wd wd.heap.size (some ⟨s + 1, 0, none⟩) vl nsLoop) := Lib.hid ((HGL.out.below hbd).more hbd.size)
  clear hbd hx5 hx9 HX5 HX9 HGL HG3 q0 q1 HD HBC HUC
  go_upto_region 7 with fail
  go_wp2_with fail
  refine HSZ.out.mono ?_
  rintro e we ⟨rfl, hbe⟩
  have HBE := Lib.hid (HBD.out.trans (hbe.mono HBD.out.size))
  have HUE := Lib.hid (UT.stays _ _ HUT.out HBE.out)
  have hx9 := HX9d.out.below hbe HX9d.out.lt
  have q0 : we.cell? ⟨s + 2, 0, none⟩ = some (.slice (some ⟨s + 1, 0, none⟩) 1 1) := hx9.cell 0
  have q1 : we.cell? ⟨s + 2, 1, none⟩ = some (.int .i64 0) := hx9.cell 1
  have HCL : Hid (ChkOk we (.agg #[.slice (some ⟨s + 1, 0, none⟩) 1 1, .int .i64 0]) 0) := Lib.hid (by
    have h1 := chk_small (some ⟨s + 1, 0, none⟩) 1 vl nsLoop we HUE.out (nh_small _ (by decide)) (ku_small _ (by decide)) (refs_small _ (by decide)) (by decide) (by decide) ((HGD.out.below hbe).more hbe.size)
    rw [loop_ok] at h1
    exact h1)
  clear hbe hx9 r0 r1 HX9d HGD HBD HUD HSZ
  go_wp2_with fail
  refine (HCL.out we (Below.refl _ _)).mono ?_
  rintro e wf ⟨rfl, hbf⟩
  have HBF := Lib.hid (HBE.out.trans (hbf.mono HBE.out.size))
  have hcn := chk_none wf (UT.stays _ _ HUT.out HBF.out) wf (Below.refl _ _)
  unfold gZero at hcn
  have HCN := Lib.hid hcn
  clear hbf hcn q0 q1 HBE HUE HCL
  go_wp2_with fail
  refine HCN.out.mono ?_
  rintro e wg ⟨rfl, hbg⟩
  have HBG := Lib.hid (HBF.out.trans (hbg.mono HBF.out.size))
  clear hbg HBF HCN
  go_wp2_with fail
  go_ret
  exact ⟨rfl, HBG.out⟩
end Go.Proofs.YtoigpackhninoaaGreatDoor
