/- Walks: the reference's Join. -/
import Derived.Test.YtnnicjbceadnbaaJoin2
import Derived.Deep.DeepCutAuto
namespace Go.Proofs.Ytnnicjbceadnbaa
open Go.RowKit
open Sp (Ed Ce chk)
set_option maxRecDepth 100000 in
set_option maxHeartbeats 2000000 in
theorem rjoin_any (a b : List Ed) (A B : Option Addr) (ca cb : Nat) (hab : a.length + b.length ≤ 1048576) (w : World) (ha : EdsAt w w.heap.size A a) (hb : EdsAt w w.heap.size B b) :
    Calls Try.prog 24 #[.slice A a.length ca, .slice B b.length cb] w fun e w' => ∃ v J, e = .returned v ∧ OwnEds w' w.heap.size 48 v J ∧ IsJoin a b J ∧ Below w.heap.size w w' := by
  go_enter Try.func24, Try.ntmps24
  go_wp2_with (at_builtin; go_must (refine wpList_append_eds _ rfl (.tmp 13) (.tmp 14) 22 48 rfl edT w.heap.size _ [] rfl (OwnEds.lit0 ?_ 48 _ ?_) w.heap.size A ca a rfl (Reads.alloc ha ?_ _) ?_ ?_ ?_))
  any_goals (first | rfl | omega | (simp only [List.length_nil]; omega) | (rw [World.size_alloc]; omega))
  intro v1 w1 hown1 hg1 hat1
  have hbl1 : Below w.heap.size w w1 := ((Below.refl _ _).alloc (Nat.le_refl _) _).trans ((OwnEds.lit0 (Nat.le_refl w.heap.size) 48 _ rfl).grown_below hg1 (by rw [World.size_alloc]; omega))
  have hz1 := hbl1.size
  clear hg1 hat1
  go_wp2_with (at_builtin; go_must (refine wpList_append_eds _ rfl (.tmp 15) (.tmp 16) 22 48 rfl edT w.heap.size _ a rfl hown1 w.heap.size B cb b rfl (hb.below hbl1) ?_ ?_ ?_))
  any_goals (first | rfl | omega)
  intro v2 w2 hown2 hg2 hat2
  have hbl2 : Below w.heap.size w w2 := hbl1.trans (hown1.grown_below hg2 (by omega))
  have hz2 := hbl2.size
  clear hg2 hat2 hown1
  obtain ⟨A2, c2, rfl, hr2⟩ := hown2.form
  have hr2 : EdsAt w2 w2.heap.size A2 (a ++ b) := hr2
  obtain ⟨all, hall⟩ : ∃ all, all = a ++ b := ⟨_, rfl⟩
  have hlen : (a ++ b).length = all.length := by rw [hall]
  have hlen2 : all.length ≤ 1048576 := by rw [hall, List.length_append]; exact hab
  rw [hlen]
  rw [← hall] at hr2
  have HALL := Lib.hid hall
  clear hown2 hall hlen
  go_wp2_with fail
  go_loopw [5, 7] (fun v i wr => ∃ (k : Nat) (out : List Ed), k ≤ all.length ∧ i = .int .i64 k ∧ OwnEds wr w2.heap.size 48 v out ∧ Hid (out.Perm (dedTo [] (all.take k)) ∧ Srt out) ∧ Below w2.heap.size w2 wr) (fun _ i _ => (all.length - intOf i).toNat)
  case atStart => exact ⟨0, [], by omega, rfl, OwnEds.nil _ _ _, Lib.hid ⟨List.Perm.refl _, List.Pairwise.nil⟩, Below.refl _ _⟩
  case round =>
    obtain ⟨k, out, hk, rfl, hown, HO, hb3⟩ := hrel
    have hz3 := hb3.size
    have hol : out.length ≤ 1048576 := by
      have h1 := dedTo_len [] (all.take k)
      rw [List.length_take, List.length_nil, Nat.zero_add] at h1
      rw [HO.out.1.length_eq]; omega
    by_cases hlt : k < all.length
    · obtain ⟨ad, rfl, hab2, c1, c2, c3⟩ := EdsAt.at_ (hr2.below hb3) hlt
      have hsn : dedTo [] (all.take (k + 1)) = if all[k] ∈ dedTo [] (all.take k) then dedTo [] (all.take k) else dedTo [] (all.take k) ++ [all[k]] := by rw [Sp.take_snoc all k hlt, dedTo_snoc]
      generalize all[k] = x at *
      have HS := Lib.hid hsn
      clear hsn
      obtain ⟨A3, c3', rfl, hr3⟩ := hown.form
      go_wp2_with fail
      obtain ⟨wo, hwo⟩ : ∃ wo : World, wo = wr := ⟨_, rfl⟩
      subst hwo
      go_loopw [8, 9] (fun g i wr' => ∃ j : Nat, j ≤ out.length ∧ i = .int .i64 j ∧ g = .bool (decide (x ∈ out.take j)) ∧ ∃ n, wr' = wo.drewN n) (fun _ i _ => (out.length - intOf i).toNat)
      case atStart => exact ⟨0, by omega, rfl, by simp, 0, rfl⟩
      case round =>
        obtain ⟨j, hj, rfl, rfl, q, rfl⟩ := hrel
        by_cases hjl : j < out.length
        · obtain ⟨ad3, rfl, hab3, d1, d2, d3⟩ := EdsAt.at_ hr3 hjl
          have h1 := Sp.take_snoc out j hjl
          have he := eqEd out[j] x
          generalize out[j] = y at *
          have H1 := Lib.hid h1
          clear h1
          by_cases hin : x ∈ out.take j
          · have hd : decide (x ∈ out.take j) = true := by simpa using hin
            have HV : Hid (decide (x ∈ out.take (j + 1)) = true) := Lib.hid (by rw [H1.out]; simp [hin])
            rw [hd]
            clear hin hd he
            go_wp2_with fail
            go_quiet (fail)
            go_wp2_with fail
            go_roundw
            case rel => exact ⟨j + 1, by omega, by go_num, by rw [HV.out], _, rfl⟩
            case measure => simp [intOf]; omega
          · have hd : decide (x ∈ out.take j) = false := by simpa using hin
            have HN := Lib.hid hin
            rw [hd]
            clear hin hd
            by_cases hxy : y = x
            · have hd2 : decide (y = x) = true := by simpa using hxy
              have HV : Hid (decide (x ∈ out.take (j + 1)) = true) := Lib.hid (by rw [H1.out]; simp [hxy])
              rw [hd2] at he
              clear hxy hd2
              go_wp2_with fail
              go_quiet (fail)
              go_wp2_with fail
              go_roundw
              case rel => exact ⟨j + 1, by omega, by go_num, by rw [HV.out], _, rfl⟩
              case measure => simp [intOf]; omega
            · have hd2 : decide (y = x) = false := by simpa using hxy
              have HV : Hid (decide (x ∈ out.take (j + 1)) = false) := Lib.hid (by rw [H1.out]; simp [HN.out, Ne.symm hxy])
              rw [hd2] at he
              clear hxy hd2
              go_wp2_with fail
              go_quiet (fail)
              go_wp2_with fail
              go_roundw
              case rel => exact ⟨j + 1, by omega, by go_num, by rw [HV.out], _, rfl⟩
              case measure => simp [intOf]; omega
        · obtain rfl : j = out.length := by omega
          rw [List.take_length]
          by_cases hin : x ∈ out
          · have hd : decide (x ∈ out) = true := by simpa using hin
            have HV : Hid (out.Perm (dedTo [] (all.take (k + 1))) ∧ Srt out) := Lib.hid ⟨by rw [HS.out, if_pos (HO.out.1.mem_iff.1 hin)]; exact HO.out.1, HO.out.2⟩
            rw [hd]
            clear hin hd
            go_wp2_with fail
            go_roundw
            case rel => exact ⟨k + 1, out, by omega, by go_num, hown.drewN _, HV, hb3.drewN _⟩
            case measure => simp [intOf]; omega
          · have hd : decide (x ∈ out) = false := by simpa using hin
            have HV : Hid (dedTo [] (all.take (k + 1)) = dedTo [] (all.take k) ++ [x]) := Lib.hid (by rw [HS.out, if_neg (fun h => hin (HO.out.1.mem_iff.2 h))])
            rw [hd]
            clear hin hd
            have hown4 : OwnEds (wo.drewN q) w2.heap.size 48 (.slice A3 out.length c3') out := hown.drewN q
            have hB4 : Below w2.heap.size w2 (wo.drewN q) := hb3.drewN q
            have hz4 : (wo.drewN q).heap.size = wo.heap.size := rfl
            go_wp2_with (at_builtin; go_must (refine wpList_append_eds _ rfl (.tmp 43) (.tmp 48) 22 48 rfl edT w2.heap.size _ out rfl (hown4.alloc _) _ _ 1 [⟨x.f, x.t, x.s⟩] rfl (EdsAt.lit _ _ _ _ ?_) ?_ ?_ ?_))
            any_goals (first | rfl | omega | (simp only [List.length_singleton]; omega) | (rw [World.size_alloc]; omega))
            intro v5 w5 hown5 hg5 hat5
            have hB5 := (hB4.alloc (by omega) _).trans ((hown4.alloc _).grown_below hg5 (by rw [World.size_alloc]; omega))
            have hz5 := hB5.size
            clear hg5 hat5 hown4 hB4 hown
            obtain ⟨g, cap, rest, hv, hS, hbg, hback⟩ := hown5.row (by simp)
            subst hv
            have HBACK := Lib.hid hback
            have HS5 : Hid (SRow w5 g (mov [] x out [] out.length) rest) := Lib.hid (by
              have : mov [] x out [] out.length = out ++ [⟨x.f, x.t, x.s⟩] := by simp [mov]
              rw [this]; exact hS)
            have HB5 := Lib.hid hB5
            have HMF : Hid (∀ t, t < out.length → _) := Lib.hid fun t ht => mov_facts [] x out [] t ht
            have HML : Hid (∀ t, t ≤ out.length → (mov [] x out [] t).length = out.length + 1) := Lib.hid fun t ht => by rw [mov_len [] x out [] t ht]; simp
            clear hback hS hB5 hown5 c1 c2 c3
            rw [show (out ++ [(⟨x.f, x.t, x.s⟩ : Ed)]).length = out.length + 1 from by simp]
            have HFIN : Hid (∀ (t : Nat) (wz : World), t ≤ out.length → SRow wz g (mov [] x out [] t) rest → KeptBut' w5 wz (· = g) → (t = 0 ∨ ∃ u, out[t - 1]? = some u ∧ leEd u x) → (t = out.length ∨ ∃ u, out[t]? = some u ∧ leEd x u) →
                OwnEds wz w2.heap.size 48 (.slice (some ⟨g, 0, none⟩) (out.length + 1) cap) (mov [] x out [] t) ∧ Hid ((mov [] x out [] t).Perm (dedTo [] (all.take (k + 1))) ∧ Srt (mov [] x out [] t)) ∧ Below w2.heap.size w2 wz) := Lib.hid fun t wz h1 h2 h3 h4 h5 => by
              have e : mov [] x out [] t = out.take t ++ x :: out.drop t := by simp [mov]
              refine ⟨?_, Lib.hid ⟨?_, ?_⟩, HB5.out.trans (h3.below (by omega) (fun j hj => by rw [hj]; omega))⟩
              · have := HBACK.out wz (mov [] x out [] t) (by rw [HML.out t h1]; simp) h2
                rw [show (out ++ [(⟨x.f, x.t, x.s⟩ : Ed)]).length = out.length + 1 from by simp] at this
                exact this
              · rw [e, HV.out]
                refine List.perm_middle.trans ?_
                rw [List.take_append_drop]
                exact (List.Perm.cons x HO.out.1).trans (List.perm_append_comm (l₁ := [x]))
              · rw [e]; exact ins_left HO.out.2 h1 h4 h5
            go_wp2_with fail
            obtain ⟨wp, hwp⟩ : ∃ wp : World, wp = w5 := ⟨_, rfl⟩
            go_loopw [10] (fun i wr => ∃ t : Nat, t ≤ out.length ∧ i = .int .i64 t ∧ SRow wr g (mov [] x out [] t) rest ∧ KeptBut' w5 wr (· = g) ∧ Hid (t = out.length ∨ ∃ u, out[t]? = some u ∧ leEd x u)) (fun i _ => (intOf i).toNat)
            case atStart => exact ⟨out.length, by omega, rfl, HS5.out, KeptBut'.refl _ _, Lib.hid (.inl rfl)⟩
            case round =>
              clear HS5
              obtain ⟨t, ht, rfl, hS, hK, HT⟩ := hrel
              by_cases ht0 : 0 < t
              · obtain ⟨t, rfl⟩ : ∃ t', t = t' + 1 := ⟨t - 1, by omega⟩
                obtain ⟨u, hu, _, _, g1, g2, _, hset⟩ := HMF.out t (by omega)
                have hl := HML.out (t + 1) ht
                rw [List.length_nil, Nat.zero_add] at g1 g2 hset
                have HU := Lib.hid hu
                have HSET := Lib.hid hset
                have HEQ : Hid (mov [] x out [] (t + 1) = mov [] x out [] (t + 1)) := Lib.hid rfl
                generalize hM : mov [] x out [] (t + 1) = M at hS g1 g2 hl HSET
                have HM := Lib.hid hM
                obtain ⟨c1, c2', c3⟩ := hS.cell t (by omega)
                obtain ⟨d1, d2, d3⟩ := hS.cell (t + 1) (by omega)
                have ex : M[t]'(by omega) = u := by rw [List.getElem?_eq_getElem (by omega)] at g1; injection g1
                have ey : M[t + 1]'(by omega) = x := by rw [List.getElem?_eq_getElem (by omega)] at g2; injection g2
                rw [ex] at c1 c2' c3
                rw [ey] at d1 d2 d3
                have HL := Lib.hid hl
                clear hset g1 g2 ex ey hl hu hM
                have ff : ∀ z, wr.frozen? ⟨g, z, none⟩ = false := fun z => hS.frozen z
                have hga : g < wr.heap.size := hS.lt
                rw [show ((t + 1 : Nat) : Int) = (t : Int) + 1 from by omega]
                have b0 : (0 : Int) ≤ (t : Int) + 1 := by omega
                have b0' : (0 : Int) < (t : Int) + 1 := by omega
                have b1 : (t : Int) + 1 < (out.length : Int) + 1 := by omega
                have b2 : (t : Int) < (out.length : Int) + 1 := by omega
                have s1 : IntKind.i64.wrap ((t : Int) + 1 - 1) = (t : Int) := by rw [IntWalk.i64_in _ (by omega)]; omega
                have s2 : IntKind.i64.wrap (t : Int) = (t : Int) := IntWalk.i64_in _ (by omega)
                have t1 : ((t : Int) + 1).toNat = t + 1 := by omega
                go_wp2_with fail
                go_cut [11, 12] (fun s11 s12 wy => ∃ (e1 e2 : Nat) (wx : World), wx = wy ∧ s11 = .pointer (some ⟨e1, 0, none⟩) ∧ s12 = .pointer (some ⟨e2, 0, none⟩) ∧
                  (wx.cell? ⟨e1, 0, none⟩ = some (.int .i64 u.f) ∧ wx.cell? ⟨e1, 1, none⟩ = some (.int .i64 u.t) ∧ wx.cell? ⟨e1, 2, none⟩ = some (.string ⟨u.s.toArray⟩)) ∧
                  (wx.cell? ⟨e2, 0, none⟩ = some (.int .i64 x.f) ∧ wx.cell? ⟨e2, 1, none⟩ = some (.int .i64 x.t) ∧ wx.cell? ⟨e2, 2, none⟩ = some (.string ⟨x.s.toArray⟩)) ∧ SRow wx g M rest ∧ KeptBut' w5 wx (· = g) ∧ g < e1 ∧ g < e2)
                case first =>
                  go_region
                  all_goals
                    go_wp2_with fail
                    go_meet
                    have hbq : ∀ (o1 o2 : Obj), Below wr.heap.size wr ((wr.alloc o1).alloc o2).drew := fun o1 o2 => (((Below.refl _ _).alloc (Nat.le_refl _) _).alloc (by simp) _).drewN 1
                    first
                    | exact ⟨wr.heap.size, wr.heap.size + 1, _, rfl, rfl, rfl, ⟨by simp [go_sem], by simp [go_sem], by simp [go_sem]⟩, ⟨by simp [go_sem], by simp [go_sem], by simp [go_sem]⟩, ((hbq _ _).block g hga).trans hS, hK.later (hbq _ _), by omega, by omega⟩
                    | exact ⟨wr.heap.size + 1, wr.heap.size, _, rfl, rfl, rfl, ⟨by simp [go_sem], by simp [go_sem], by simp [go_sem]⟩, ⟨by simp [go_sem], by simp [go_sem], by simp [go_sem]⟩, ((hbq _ _).block g hga).trans hS, hK.later (hbq _ _), by omega, by omega⟩
                case rest =>
                  obtain ⟨e1, e2, wx, rfl, rfl, rfl, ⟨p1, p2, p3⟩, ⟨q1, q2, q3⟩, hS, hK, hge1, hge2⟩ := hcut
                  have ff2 : ∀ z, wx.frozen? ⟨g, z, none⟩ = false := fun z => hS.frozen z
                  obtain ⟨c1, c2', c3⟩ := hS.cell t (by have := HL.out; omega)
                  obtain ⟨d1, d2, d3⟩ := hS.cell (t + 1) (by have := HL.out; omega)
                  have HSW : Hid (SRow ((((((wx.setCell ⟨g, t * 3, none⟩ (.int .i64 x.f)).setCell ⟨g, t * 3 + 1, none⟩ (.int .i64 x.t)).setCell ⟨g, t * 3 + 2, none⟩ (.string ⟨x.s.toArray⟩)).setCell ⟨g, (t + 1) * 3, none⟩ (.int .i64 u.f)).setCell ⟨g, (t + 1) * 3 + 1, none⟩ (.int .i64 u.t)).setCell ⟨g, (t + 1) * 3 + 2, none⟩ (.string ⟨u.s.toArray⟩)).drew g (mov [] x out [] t) rest) := Lib.hid (by
                    rw [← HSET.out, List.set_comm _ _ (by omega)]
                    exact hS.swap t (t + 1) (by rw [HL.out]; omega) (by rw [HL.out]; omega) u x)
                  have HBR : Hid (leEd u x → OwnEds wx w2.heap.size 48 (.slice (some ⟨g, 0, none⟩) (out.length + 1) cap) (mov [] x out [] (t + 1)) ∧ Hid ((mov [] x out [] (t + 1)).Perm (dedTo [] (all.take (k + 1))) ∧ Srt (mov [] x out [] (t + 1))) ∧ Below w2.heap.size w2 wx) := Lib.hid fun hle =>
                    HFIN.out (t + 1) wx ht (by rw [HM.out]; exact hS) hK (.inr ⟨u, by rw [Nat.add_sub_cancel]; exact HU.out, hle⟩) HT.out
                  have HKK := Lib.hid hK
                  clear hS hK ff
                  by_cases hc1 : u.f < x.f
                  · have hle : leEd u x := by unfold leEd; omega
                    have HFF := Lib.hid (HBR.out hle)
                    clear hle
                    go_wp2_with fail
                    go_roundw
                    case rel => exact ⟨k + 1, _, by omega, by go_num, HFF.out.1, HFF.out.2.1, HFF.out.2.2⟩
                    case measure => simp [intOf]; omega
                  · by_cases hc2 : u.f = x.f
                    · have hq : (u.f == x.f) = true := by simpa using hc2
                      have HC2 := Lib.hid hc2
                      clear hc2
                      by_cases hc3 : u.t ≤ x.t
                      · have hle : leEd u x := by have := HC2.out; unfold leEd; omega
                        have HFF := Lib.hid (HBR.out hle)
                        clear hle
                        go_wp2_with fail
                        go_roundw
                        case rel => exact ⟨k + 1, _, by omega, by go_num, HFF.out.1, HFF.out.2.1, HFF.out.2.2⟩
                        case measure => simp [intOf]; omega
                      · have hle : leEd x u := by have := HC2.out; unfold leEd; omega
                        have HLE := Lib.hid hle
                        clear hle
                        go_wp2_with fail
                        go_region
                        all_goals
                          go_wp2_with fail
                          go_roundw
                          case rel => exact ⟨t, by omega, by go_num, HSW.out, keep_set6 HKK.out _ _ _ _ _ _ _ _ _ _ _ _, Lib.hid (.inr ⟨u, HU.out, HLE.out⟩)⟩
                          case measure => simp [intOf] <;> omega
                    · have hq : (u.f == x.f) = false := by simpa using hc2
                      have hle : leEd x u := by unfold leEd; omega
                      have HLE := Lib.hid hle
                      clear hle hc2
                      go_wp2_with fail
                      go_region
                      all_goals
                        go_wp2_with fail
                        go_roundw
                        case rel => exact ⟨t, by omega, by go_num, HSW.out, keep_set6 HKK.out _ _ _ _ _ _ _ _ _ _ _ _, Lib.hid (.inr ⟨u, HU.out, HLE.out⟩)⟩
                        case measure => simp [intOf] <;> omega
              · obtain rfl : t = 0 := by omega
                have HFF := Lib.hid (HFIN.out 0 wr ht hS hK (.inl rfl) HT.out)
                clear hS hK
                go_wp2_with fail
                go_roundw
                case rel => exact ⟨k + 1, _, by omega, by go_num, HFF.out.1, HFF.out.2.1, HFF.out.2.2⟩
                case measure => simp [intOf]; omega
    · have HJ : Hid (IsJoin a b out) := Lib.hid (by
        have := HO.out
        rw [List.take_of_length_le (by omega), HALL.out] at this
        exact this)
      have HOW : Hid (OwnEds wr w.heap.size 48 u5 out) := Lib.hid (hown.lower' (by omega))
      clear hown HO
      go_wp2_with fail
      go_ret
      exact ⟨_, out, rfl, HOW.out, HJ.out, hbl2.trans (hb3.mono (by omega))⟩
end Go.Proofs.Ytnnicjbceadnbaa
