/- Walks: Join at any number of edits. -/
import Derived.Test.YtnnicjbceadnbaaSort8
import Derived.Test.YtnnicjbceadnbaaJoin
namespace Go.Proofs.Ytnnicjbceadnbaa
open Go.RowKit
open Sp (Ed Ce chk)
theorem OwnEds.lower' {w : World} {base base' : Nat} {E : TypeId} {v : Value} {l : List Ed} (h : OwnEds w base E v l) (hb : base' ≤ base) : OwnEds w base' E v l := by
  refine ⟨h.1, ?_⟩
  rcases h.2 with hn | ⟨g, cap, cur, hv, hbg, rest⟩
  · exact .inl hn
  · exact .inr ⟨g, cap, cur, hv, by omega, rest⟩
/-- the edits of two lists, sorted, each once. -/
def IsJoin (a b J : List Ed) : Prop := J.Perm (ded (a ++ b)) ∧ Srt J
def JoinIs2 (src : List UInt8) (a b : List Ed) (w : World) (e : Ending) (w' : World) : Prop :=
  ∃ v l n, e = .returned (.tuple #[v, .int .i64 n]) ∧ OwnEds w' w.heap.size 48 v l ∧ Below w.heap.size w w' ∧
    ((chk src.length 0 (-1) a ≠ 0 ∧ l = [] ∧ n = chk src.length 0 (-1) a) ∨ (chk src.length 0 (-1) a = 0 ∧ chk src.length 0 (-1) b ≠ 0 ∧ l = [] ∧ n = chk src.length 0 (-1) b) ∨
     (chk src.length 0 (-1) a = 0 ∧ chk src.length 0 (-1) b = 0 ∧ (∃ J, J.Perm (ded (a ++ b)) ∧ Srt J ∧ chk src.length 0 (-1) J ≠ 0) ∧ l = [] ∧ n = 18) ∨
     (chk src.length 0 (-1) a = 0 ∧ chk src.length 0 (-1) b = 0 ∧ IsJoin a b l ∧ chk src.length 0 (-1) l = 0 ∧ n = 0))
set_option maxHeartbeats 1000000 in
theorem join_all (N : Nat) (hN : N ≤ 268435456) (src : List UInt8) (a b : List Ed) (A B : Option Addr) (ca cb : Nat) (hs : src.length ≤ 1073741824) (hab : a.length + b.length ≤ N)
    (w : World) (ha : EdsAt w w.heap.size A a) (hb : EdsAt w w.heap.size B b) :
    Calls Try.prog 23 #[.string ⟨src.toArray⟩, .slice A a.length ca, .slice B b.length cb] w (JoinIs2 src a b w) := by
  have B1 : Hid (∀ W : World, Below (w.alloc (.cells #[.slice A a.length ca, .slice B b.length cb] 22)).heap.size (w.alloc (.cells #[.slice A a.length ca, .slice B b.length cb] 22)) W →
      W.cell? ⟨w.heap.size, 0, none⟩ = some (.slice A a.length ca) ∧ W.cell? ⟨w.heap.size, 1, none⟩ = some (.slice B b.length cb) ∧ Below w.heap.size w W) := Lib.hid fun W hW => by
    refine ⟨?_, ?_, ((Below.refl _ _).alloc (Nat.le_refl _) _).trans (hW.mono (by simp))⟩ <;> (rw [hW.cell (by simp)]; simp [go_sem])
  have hal : a.length ≤ 1073741824 := by omega
  have hbl : b.length ≤ 1073741824 := by omega
  go_enter Try.func23, Try.ntmps23
  go_wp2_with fail
  go_loopw [18] (fun i wr => (i = .int .i64 0 ∨ (i = .int .i64 1 ∧ Hid (chk src.length 0 (-1) a = 0)) ∨ (i = .int .i64 2 ∧ Hid (chk src.length 0 (-1) a = 0) ∧ Hid (chk src.length 0 (-1) b = 0))) ∧ Below (w.alloc (.cells #[.slice A a.length ca, .slice B b.length cb] 22)).heap.size (w.alloc (.cells #[.slice A a.length ca, .slice B b.length cb] 22)) wr) (fun i _ => (2 - intOf i).toNat)
  case atStart => exact ⟨Or.inl rfl, Below.refl _ _⟩
  case round =>
    obtain ⟨hi, hbw⟩ := hrel
    obtain ⟨q0, q1, hbl0⟩ := B1.out wr hbw
    have hz := hbw.size
    simp only [World.size_alloc] at hz
    rcases hi with rfl | ⟨rfl, H1⟩ | ⟨rfl, H1, H2⟩
    · by_cases h1 : chk src.length 0 (-1) a = 0
      · have H1 := Lib.hid h1
        clear h1
        go_wp2_with fail
        refine (check_list src A ca a (by omega) hal _ ((ha.below hbl0).more (by omega))).mono ?_
        rw [H1.out]
        rintro e w1 ⟨rfl, hb1⟩
        go_wp2_with fail
        go_roundw
        case rel => exact ⟨Or.inr (Or.inl ⟨rfl, H1⟩), hbw.trans (hb1.mono (by simp; omega))⟩
        case measure => simp [intOf]
      · have h1' : (chk src.length 0 (-1) a != 0) = true := by simpa using h1
        have H1 := Lib.hid h1
        clear h1
        go_wp2_with fail
        refine (check_list src A ca a (by omega) hal _ ((ha.below hbl0).more (by omega))).mono ?_
        rintro e w1 ⟨rfl, hb1⟩
        go_wp2_with fail
        go_ret2
        exact ⟨_, [], _, rfl, OwnEds.nil _ _ _, hbl0.trans (hb1.mono (by omega)), .inl ⟨H1.out, rfl, rfl⟩⟩
    · by_cases h2 : chk src.length 0 (-1) b = 0
      · have H2 := Lib.hid h2
        clear h2
        go_wp2_with fail
        refine (check_list src B cb b (by omega) hbl _ ((hb.below hbl0).more (by omega))).mono ?_
        rw [H2.out]
        rintro e w1 ⟨rfl, hb1⟩
        go_wp2_with fail
        go_roundw
        case rel => exact ⟨Or.inr (Or.inr ⟨rfl, H1, H2⟩), hbw.trans (hb1.mono (by simp; omega))⟩
        case measure => simp [intOf]
      · have h2' : (chk src.length 0 (-1) b != 0) = true := by simpa using h2
        have H2 := Lib.hid h2
        clear h2
        go_wp2_with fail
        refine (check_list src B cb b (by omega) hbl _ ((hb.below hbl0).more (by omega))).mono ?_
        rintro e w1 ⟨rfl, hb1⟩
        go_wp2_with fail
        go_ret2
        exact ⟨_, [], _, rfl, OwnEds.nil _ _ _, hbl0.trans (hb1.mono (by omega)), .inr (.inl ⟨H1.out, H2.out, rfl, rfl⟩)⟩
    · go_wp2_with (at_builtin; go_must (refine wpList_append_eds _ rfl (.tmp 29) (.tmp 30) 22 48 rfl edT w.heap.size _ [] rfl (OwnEds.lit0 ?_ 48 _ ?_) w.heap.size A ca a rfl (Reads.alloc (ha.below hbl0) ?_ _) ?_ ?_ ?_))
      any_goals (first | rfl | omega | (simp only [List.length_nil]; omega) | (rw [World.size_alloc]; omega))
      intro v1 w1 hown1 hg1 hat1
      have hbl1 : Below w.heap.size w w1 := (hbl0.alloc (by omega) _).trans ((OwnEds.lit0 (show w.heap.size ≤ wr.heap.size by omega) 48 _ rfl).grown_below hg1 (by rw [World.size_alloc]; omega))
      have hz1 := hbl1.size
      clear hg1 hat1 q0 q1
      go_wp2_with (at_builtin; go_must (refine wpList_append_eds _ rfl (.tmp 31) (.tmp 32) 22 48 rfl edT w.heap.size _ a rfl hown1 w.heap.size B cb b rfl (hb.below hbl1) ?_ ?_ ?_))
      any_goals (first | rfl | omega)
      intro v2 w2 hown2 hg2 hat2
      have hbl2 : Below w.heap.size w w2 := hbl1.trans (hown1.grown_below hg2 (by omega))
      have hz2 := hbl2.size
      clear hg2 hat2 hown1
      obtain ⟨A2, c2, rfl, hr2⟩ := hown2.form
      have hr2 : EdsAt w2 w2.heap.size A2 (a ++ b) := hr2
      obtain ⟨all, hall⟩ : ∃ all, all = a ++ b := ⟨_, rfl⟩
      have hlen : (a ++ b).length = all.length := by rw [hall]
      have hlen2 : all.length ≤ N := by rw [hall, List.length_append]; exact hab
      rw [hlen]
      rw [← hall] at hr2
      have HALL := Lib.hid hall
      have hall2 : all.length ≤ 1073741824 := by omega
      clear hown2 hall hlen
      go_wp2_with fail
      obtain ⟨wo, hwo⟩ : ∃ wo : World, wo = wr := ⟨_, rfl⟩
      subst hwo
      go_loopw [11, 35] (fun v i wr => ∃ k : Nat, k ≤ all.length ∧ i = .int .i64 k ∧ OwnEds wr w2.heap.size 48 v (dedTo [] (all.take k)) ∧ Below w2.heap.size w2 wr) (fun _ i _ => (all.length - intOf i).toNat)
      case atStart => exact ⟨0, by omega, rfl, OwnEds.nil _ _ _, Below.refl _ _⟩
      case round =>
        obtain ⟨k, hk, rfl, hown, hb3⟩ := hrel
        have hz3 := hb3.size
        have hdl := dedTo_len [] (all.take k)
        rw [List.length_take, List.length_nil, Nat.zero_add] at hdl
        by_cases hlt : k < all.length
        · obtain ⟨ad, rfl, hab2, c1, c2, c3⟩ := EdsAt.at_ (hr2.below hb3) hlt
          have hsn : dedTo [] (all.take (k + 1)) = if all[k] ∈ dedTo [] (all.take k) then dedTo [] (all.take k) else dedTo [] (all.take k) ++ [all[k]] := by rw [Sp.take_snoc all k hlt, dedTo_snoc]
          generalize all[k] = x at *
          have hdl2 : (dedTo [] (all.take k)).length ≤ 1073741823 := by omega
          clear hdl
          have HS := Lib.hid hsn
          clear hsn
          generalize dedTo [] (all.take k) = out at *
          obtain ⟨A3, c3', hv3, hr3⟩ := hown.form
          by_cases hin : x ∈ out
          · have HV : Hid (dedTo [] (all.take (k + 1)) = out) := Lib.hid (by rw [HS.out, if_pos hin])
            have hd : decide (x ∈ out) = true := by simpa using hin
            clear hin
            subst hv3
            go_wp2_with fail
            refine (contains_any out A3 c3' x (by omega) _ ((hr3.alloc (Nat.le_refl _) _).more (by simp))).mono ?_
            rw [hd]
            rintro e w4 ⟨rfl, hb4⟩
            have hown4 : OwnEds w4 w2.heap.size 48 _ out := (hown.alloc _).below hb4 (fun j hj => ((hown.alloc _).lt j hj).2)
            have hB4 : Below w2.heap.size w2 w4 := (hb3.alloc hz3 _).trans (hb4.mono (by simp; omega))
            go_wp2_with fail
            go_roundw
            case rel => exact ⟨k + 1, by omega, by go_num, by rw [HV.out]; exact hown4, hB4⟩
            case measure => simp [intOf]; omega
          · have HV : Hid (dedTo [] (all.take (k + 1)) = out ++ [x]) := Lib.hid (by rw [HS.out, if_neg hin])
            have hd : decide (x ∈ out) = false := by simpa using hin
            clear hin
            subst hv3
            go_wp2_with fail
            refine (contains_any out A3 c3' x (by omega) _ ((hr3.alloc (Nat.le_refl _) _).more (by simp))).mono ?_
            rw [hd]
            rintro e w4 ⟨rfl, hb4⟩
            obtain ⟨d0, d1, d2⟩ := box_ed hb4
            have hown4 : OwnEds w4 w2.heap.size 48 _ out := (hown.alloc _).below hb4 (fun j hj => ((hown.alloc _).lt j hj).2)
            have hB4 : Below w2.heap.size w2 w4 := (hb3.alloc hz3 _).trans (hb4.mono (by simp; omega))
            have hz4 := hB4.size
            go_wp2_with (at_builtin; go_must (refine wpList_append_eds _ rfl (.tmp 43) (.tmp 45) 22 48 rfl edT w2.heap.size _ out rfl (hown4.alloc _) _ _ 1 [⟨x.f, x.t, x.s⟩] rfl (EdsAt.lit _ _ _ _ ?_) ?_ ?_ ?_))
            any_goals (first | rfl | omega | (simp only [List.length_singleton]; omega) | (rw [World.size_alloc]; omega))
            intro v5 w5 hown5 hg5 hat5
            have hB5 := (hB4.alloc hz4 _).trans ((hown4.alloc _).grown_below hg5 (by rw [World.size_alloc]; omega))
            go_wp2_with fail
            go_roundw
            case rel => exact ⟨k + 1, by omega, by go_num, by rw [HV.out]; exact hown5, hB5⟩
            case measure => simp [intOf]; omega
        · have hfull : dedTo [] (all.take k) = ded (a ++ b) := by rw [List.take_of_length_le (by omega), HALL.out]; rfl
          rw [hfull] at hown hdl
          have hdn : (ded (a ++ b)).length ≤ N := by omega
          clear hfull hdl
          by_cases hne : ded (a ++ b) = []
          · rw [hne] at hown
            obtain ⟨A3, c3', hv3, hr3⟩ := hown.form
            have hv3' : u11 = .slice A3 0 c3' := hv3
            subst hv3'
            have HJ0 := Lib.hid hne
            clear hne hv3
            go_wp2_with fail
            refine (sort_none A3 c3' _).mono ?_
            rintro e w5 ⟨rfl, rfl⟩
            go_wp2_with fail
            refine (check_list src A3 c3' [] (by omega) (by simp) _ hr3).mono ?_
            rintro e w6 ⟨rfl, hb6⟩
            go_wp2_with fail
            go_ret2
            refine ⟨_, [], 0, rfl, (hown.below hb6 (fun j hj => (hown.lt j hj).2)).lower' (by omega), hbl2.trans ((hb3.trans (hb6.mono (by omega))).mono (by omega)), .inr (.inr (.inr ⟨H1.out, H2.out, ⟨by rw [HJ0.out], List.Pairwise.nil⟩, rfl, rfl⟩))⟩
          · obtain ⟨g, cap, rest, hv, hS, hbg, hback⟩ := hown.row hne
            clear hne
            subst hv
            have HBACK := Lib.hid hback
            have HS := Lib.hid hS
            clear hback hS
            go_wp2_with fail
            refine (sort_any g cap _ rest _ HS.out (by omega)).mono ?_
            rintro e w5 ⟨rfl, J, hS5, hp5, hs5, hK5⟩
            have HJL : Hid (J.length = (ded (a ++ b)).length) := Lib.hid hp5.length_eq
            have HJP := Lib.hid hp5
            have HJS := Lib.hid hs5
            clear hp5 hs5
            have hown5 : OwnEds w5 w2.heap.size 48 (.slice (some ⟨g, 0, none⟩) (ded (a ++ b)).length cap) J := HBACK.out w5 J HJL.out hS5
            have hB5 : Below w.heap.size w w5 := (hbl2.trans (hb3.mono (by omega))).trans (hK5.below (by omega) (fun j hj => by rw [hj]; omega))
            rw [← HJL.out] at hown5 ⊢
            have hJl : J.length ≤ N := by have := HJL.out; omega
            obtain ⟨A6, c6, hv6, hr6⟩ := hown5.form
            injection hv6 with e1 e2 e3
            subst e1 e3
            clear e2 hS5 hK5
            by_cases hfin : chk src.length 0 (-1) J = 0
            · have HF := Lib.hid hfin
              clear hfin
              go_wp2_with fail
              refine (check_list src _ cap J (by omega) (by omega) _ hr6).mono ?_
              rw [HF.out]
              rintro e w6 ⟨rfl, hb6⟩
              go_wp2_with fail
              go_ret2
              exact ⟨_, J, 0, rfl, (hown5.below hb6 (fun j hj => (hown5.lt j hj).2)).lower' (by omega), hB5.trans (hb6.mono hB5.size), .inr (.inr (.inr ⟨H1.out, H2.out, ⟨HJP.out, HJS.out⟩, HF.out, rfl⟩))⟩
            · have hf' : (chk src.length 0 (-1) J != 0) = true := by simpa using hfin
              have HF := Lib.hid hfin
              clear hfin
              go_wp2_with fail
              refine (check_list src _ cap J (by omega) (by omega) _ hr6).mono ?_
              rintro e w6 ⟨rfl, hb6⟩
              go_wp2_with fail
              go_ret2
              exact ⟨_, [], 18, rfl, OwnEds.nil _ _ _, hB5.trans (hb6.mono hB5.size), .inr (.inr (.inl ⟨H1.out, H2.out, ⟨J, HJP.out, HJS.out, HF.out⟩, rfl, rfl⟩))⟩
end Go.Proofs.Ytnnicjbceadnbaa
