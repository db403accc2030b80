/- Walks of the reference: Edits. -/
import Derived.Test.YtnnicjbceadnbaaRef1
namespace Go.Proofs.Ytnnicjbceadnbaa
open Go.RowKit
open Sp (Ed Ce chk)

/-- the state of the loop in Edits. -/
structure EdsState (wr w : World) (n : Int) (cs : List Ce) (k : Nat) (a : Int) (s : List UInt8) (v : Value) (l : List Ed) : Prop where
  own : OwnEds wr w.heap.size 48 v l
  below : Below w.heap.size w wr
  slen : s.length ≤ k
  llen : l.length ≤ k
  eq : (k ≤ cs.length ∧ Sp.eds n cs = l ++ Sp.edsGo n a s (cs.drop k)) ∨ (k = cs.length + 1 ∧ Sp.eds n cs = l)

set_option maxHeartbeats 2000000 in
theorem redits_any (n : Int) (cs : List Ce) (A : Option Addr) (c : Nat) (hl : cs.length ≤ 268435456) (hn0 : 0 ≤ n) (hn : n ≤ 1152921504606846976) (hcs : ∀ x ∈ cs, x.o ≤ 1152921504606846976) (w : World) (hr : RowAt ceL w w.heap.size A cs) :
    Calls Try.prog 27 #[.int .i64 n, .slice A cs.length c] w fun e w' => ∃ v, e = .returned v ∧ OwnEds w' w.heap.size 48 v (Sp.eds n cs) ∧ Below w.heap.size w w' := by
  have HCS := Lib.hid hcs
  clear hcs
  go_enter Try.func27, Try.ntmps27
  go_wp2_with fail
  go_loopw [5, 6, 7, 8] (fun v a s i wr => ∃ (k : Nat) (az : Int) (sz : List UInt8) (l : List Ed), k ≤ cs.length + 1 ∧ i = .int .i64 k ∧ a = .int .i64 az ∧ s = .string ⟨sz.toArray⟩ ∧ EdsState wr w n cs k az sz v l) (fun _ _ _ i _ => (cs.length + 1 - intOf i).toNat)
  case atStart => exact ⟨0, 0, [], [], by omega, rfl, rfl, rfl, OwnEds.nil _ _ _, Below.refl _ _, by simp, by simp, .inl ⟨by omega, rfl⟩⟩
  case round =>
    obtain ⟨k, a, s, l, hk, rfl, rfl, rfl, hS⟩ := hrel
    have hb := hS.below
    have hz := hb.size
    have hown := hS.own
    have hsl := hS.slen
    have hll := hS.llen
    by_cases hle : k ≤ cs.length
    · have HE : Hid (Sp.eds n cs = l ++ Sp.edsGo n a s (cs.drop k)) := by
        rcases hS.eq with ⟨_, h⟩ | ⟨h, _⟩
        · exact h
        · omega
      by_cases hlt : k < cs.length
      · obtain ⟨ad, rfl, hab, c0, c1⟩ := ceGet (hr.below hb) hlt
        have hdrop : cs.drop k = cs[k] :: cs.drop (k + 1) := List.drop_eq_getElem_cons hlt
        have hxo := HCS.out cs[k] (List.getElem_mem hlt)
        generalize cs[k] = x at *
        have HD := Lib.hid hdrop
        clear hdrop
        by_cases hneg : x.o < 0
        · have HV : Hid (Sp.edsGo n a s (x :: cs.drop (k + 1)) = Sp.edsGo n a (s ++ [x.b]) (cs.drop (k + 1))) := Lib.hid (by rw [Sp.edsGo, if_pos hneg])
          have hcv : (convert 57 9 (.slice (some ⟨wr.heap.size, 0, none⟩) 1 1)).run Try.prog (wr.alloc (.cells #[.int .u8 x.b.toNat] 5)) = .ok (.string ⟨#[x.b]⟩) (wr.alloc (.cells #[.int .u8 x.b.toNat] 5)) :=
            conv_bytes _ [x.b] _ 1 (RowAt.lit1 (L := byL) x.b #[.int .u8 x.b.toNat] rfl _ rfl)
          have hcat : (⟨s.toArray⟩ : ByteArray) ++ ⟨#[x.b]⟩ = ⟨(s ++ [x.b]).toArray⟩ := cat_list s [x.b]
          obtain ⟨s2, hs2⟩ : ∃ s2, s2 = s ++ [x.b] := ⟨_, rfl⟩
          rw [← hs2] at hcat HV
          have hs2l : s2.length ≤ k + 1 := by rw [hs2]; simp; omega
          clear hs2
          go_wp2_with fail
          go_roundw
          case rel => exact ⟨k + 1, a, s2, l, by omega, by go_num, rfl, rfl, hown.alloc _, hb.alloc hz _, hs2l, by omega, .inl ⟨by omega, by rw [HE.out, HD.out, HV.out]⟩⟩
          case measure => simp [intOf] <;> omega
        · have HV : Hid (Sp.edsGo n a s (x :: cs.drop (k + 1)) = Sp.shut a x.o s ++ Sp.edsGo n (x.o + 1) [] (cs.drop (k + 1))) := Lib.hid (by rw [Sp.edsGo, if_neg hneg])
          by_cases hc : a < x.o ∨ s ≠ []
          · have HSH : Hid (Sp.shut a x.o s = [⟨a, x.o, s⟩]) := Lib.hid (by simp only [Sp.shut, if_pos hc])
            by_cases han : a < x.o
            · clear hc
              go_wp2_with (at_builtin; go_must (refine wpList_append_eds _ rfl (.tmp 54) (.tmp 59) 22 48 rfl edT w.heap.size _ _ rfl (hown.alloc _) _ _ 1 [⟨a, x.o, s⟩] rfl (EdsAt.lit _ _ _ _ ?_) ?_ ?_ ?_))
              any_goals (first | rfl | omega | (simp only [List.length_singleton]; omega) | (rw [World.size_alloc]; omega))
              intro v1 w1 hown1 hg1 hat1
              have hB := (hb.alloc hz _).trans ((hown.alloc _).grown_below hg1 (by rw [World.size_alloc]; omega))
              go_wp2_with fail
              go_roundw
              case rel => exact ⟨k + 1, x.o + 1, [], l ++ [⟨a, x.o, s⟩], by omega, by go_num, rfl, rfl, hown1, hB, by simp, by simp; omega, .inl ⟨by omega, by rw [HE.out, HD.out, HV.out, HSH.out, List.append_assoc]⟩⟩
              case measure => simp [intOf] <;> omega
            · have hse : s.isEmpty = false := by
                cases s with
                | nil => exact absurd hc (by simp; omega)
                | cons b r => rfl
              have hse' : (!s.isEmpty) = true := by rw [hse]; rfl
              clear hc
              go_wp2_with (at_builtin; go_must (refine wpList_append_eds _ rfl (.tmp 54) (.tmp 59) 22 48 rfl edT w.heap.size _ _ rfl (hown.alloc _) _ _ 1 [⟨a, x.o, s⟩] rfl (EdsAt.lit _ _ _ _ ?_) ?_ ?_ ?_))
              any_goals (first | rfl | omega | (simp only [List.length_singleton]; omega) | (rw [World.size_alloc]; omega))
              intro v1 w1 hown1 hg1 hat1
              have hB := (hb.alloc hz _).trans ((hown.alloc _).grown_below hg1 (by rw [World.size_alloc]; omega))
              go_wp2_with fail
              go_roundw
              case rel => exact ⟨k + 1, x.o + 1, [], l ++ [⟨a, x.o, s⟩], by omega, by go_num, rfl, rfl, hown1, hB, by simp, by simp; omega, .inl ⟨by omega, by rw [HE.out, HD.out, HV.out, HSH.out, List.append_assoc]⟩⟩
              case measure => simp [intOf] <;> omega
          · have HSH : Hid (Sp.shut a x.o s = []) := Lib.hid (by simp only [Sp.shut, if_neg hc])
            have hs0 : s = [] := by
              cases s with
              | nil => rfl
              | cons b r => exact absurd (Or.inr (by simp)) hc
            subst hs0
            have han : ¬ a < x.o := fun h => hc (.inl h)
            clear hc
            go_wp2_with fail
            go_roundw
            case rel => exact ⟨k + 1, x.o + 1, [], l, by omega, by go_num, rfl, rfl, hown, hb, by simp, by omega, .inl ⟨by omega, by rw [HE.out, HD.out, HV.out, HSH.out]; rfl⟩⟩
            case measure => simp [intOf] <;> omega
      · obtain rfl : k = cs.length := by omega
        have HV : Hid (Sp.edsGo n a s (cs.drop cs.length) = Sp.shut a n s) := Lib.hid (by rw [List.drop_length]; rfl)
        by_cases hc : a < n ∨ s ≠ []
        · have HSH : Hid (Sp.shut a n s = [⟨a, n, s⟩]) := Lib.hid (by simp only [Sp.shut, if_pos hc])
          by_cases han : a < n
          · clear hc
            go_wp2_with (at_builtin; go_must (refine wpList_append_eds _ rfl (.tmp 54) (.tmp 59) 22 48 rfl edT w.heap.size _ _ rfl (hown.alloc _) _ _ 1 [⟨a, n, s⟩] rfl (EdsAt.lit _ _ _ _ ?_) ?_ ?_ ?_))
            any_goals (first | rfl | omega | (simp only [List.length_singleton]; omega) | (rw [World.size_alloc]; omega))
            intro v1 w1 hown1 hg1 hat1
            have hB := (hb.alloc hz _).trans ((hown.alloc _).grown_below hg1 (by rw [World.size_alloc]; omega))
            go_wp2_with fail
            go_roundw
            case rel => exact ⟨cs.length + 1, n + 1, [], l ++ [⟨a, n, s⟩], by omega, by go_num, rfl, rfl, hown1, hB, by simp, by simp; omega, .inr ⟨rfl, by rw [HE.out, HV.out, HSH.out]⟩⟩
            case measure => simp [intOf] <;> omega
          · have hse : s.isEmpty = false := by
              cases s with
              | nil => exact absurd hc (by simp; omega)
              | cons b r => rfl
            have hse' : (!s.isEmpty) = true := by rw [hse]; rfl
            clear hc
            go_wp2_with (at_builtin; go_must (refine wpList_append_eds _ rfl (.tmp 54) (.tmp 59) 22 48 rfl edT w.heap.size _ _ rfl (hown.alloc _) _ _ 1 [⟨a, n, s⟩] rfl (EdsAt.lit _ _ _ _ ?_) ?_ ?_ ?_))
            any_goals (first | rfl | omega | (simp only [List.length_singleton]; omega) | (rw [World.size_alloc]; omega))
            intro v1 w1 hown1 hg1 hat1
            have hB := (hb.alloc hz _).trans ((hown.alloc _).grown_below hg1 (by rw [World.size_alloc]; omega))
            go_wp2_with fail
            go_roundw
            case rel => exact ⟨cs.length + 1, n + 1, [], l ++ [⟨a, n, s⟩], by omega, by go_num, rfl, rfl, hown1, hB, by simp, by simp; omega, .inr ⟨rfl, by rw [HE.out, HV.out, HSH.out]⟩⟩
            case measure => simp [intOf] <;> omega
        · have HSH : Hid (Sp.shut a n s = []) := Lib.hid (by simp only [Sp.shut, if_neg hc])
          have hs0 : s = [] := by
            cases s with
            | nil => rfl
            | cons b r => exact absurd (Or.inr (by simp)) hc
          subst hs0
          have han : ¬ a < n := fun h => hc (.inl h)
          clear hc
          go_wp2_with fail
          go_roundw
          case rel => exact ⟨cs.length + 1, n + 1, [], l, by omega, by go_num, rfl, rfl, hown, hb, by simp, by omega, .inr ⟨rfl, by rw [HE.out, HV.out, HSH.out, List.append_nil]⟩⟩
          case measure => simp [intOf] <;> omega
    · have hfin : Sp.eds n cs = l := by
        rcases hS.eq with ⟨h, _⟩ | ⟨_, h⟩
        · omega
        · exact h
      go_wp2_with fail
      go_ret
      exact ⟨_, rfl, by rw [hfin]; exact hown, hb⟩
end Go.Proofs.Ytnnicjbceadnbaa
