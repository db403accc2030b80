/- Walks: Move of the reference. -/
import Derived.Test.YtnnicjbceadnbaaMove
import Derived.Test.YtnnicjbceadnbaaPlainB
namespace Go.Proofs.Ytnnicjbceadnbaa
open Go.RowKit
open Sp (Ed Ce chk)
/-- the head of the loop in the reference's Move. -/
structure RMoveAt (l : List Ed) (off : Int) (k : Nat) (by_ : Int) : Prop where
  eq : by_ = Sp.shift off (l.take k)
  no : Sp.inside off (l.take k) = false
  lo : -(1099511627776 : Int) * k ≤ by_
  hi : by_ ≤ (1099511627776 : Int) * k
theorem moved_case (l : List Ed) (off : Int) : off < 0 ∨ (0 ≤ off ∧ chk topI 0 (-1) l ≠ 0) ∨ (0 ≤ off ∧ chk topI 0 (-1) l = 0) := by
  by_cases h : off < 0
  · exact .inl h
  · by_cases h2 : chk topI 0 (-1) l = 0
    · exact .inr (.inr ⟨by omega, h2⟩)
    · exact .inr (.inl ⟨by omega, h2⟩)
set_option maxHeartbeats 2000000 in
theorem rmove_any (l : List Ed) (A : Option Addr) (c : Nat) (off : Int) (hl : l.length ≤ 1048576) (ho : off ≤ 1099511627776) (hx : ∀ x ∈ l, x.s.length ≤ 1073741824) (w : World) (hr : EdsAt w w.heap.size A l) :
    Calls Try.prog 22 #[.slice A l.length c, .int .i64 off] w fun e w' => e = .returned (.int .i64 (moved l off)) ∧ Below w.heap.size w w' := by
  rcases moved_case l off with h | ⟨h, h2⟩ | ⟨h, h2⟩
  · have HV := Lib.hid (moved_no1 (l := l) h)
    go_enter Try.func22, Try.ntmps22
    go_wp2_with fail
    go_ret
    exact ⟨ret_int HV.out.symm, Below.refl _ _⟩
  · have HV := Lib.hid (moved_no2 (off := off) h2)
    have h2' : (chk topI 0 (-1) l != 0) = true := by simpa using h2
    clear h2
    go_enter Try.func22, Try.ntmps22
    go_wp2_with fail
    refine (rcheck_any topI A c l (by omega) _ hr).mono ?_
    rintro e w1 ⟨rfl, hb1⟩
    go_wp2_with fail
    go_ret
    exact ⟨ret_int HV.out.symm, hb1⟩
  · have H2 := Lib.hid h2
    have HX := Lib.hid hx
    clear hx h2
    go_enter Try.func22, Try.ntmps22
    go_wp2_with fail
    refine (rcheck_any topI A c l (by omega) _ hr).mono ?_
    rw [H2.out]
    rintro e w1 ⟨rfl, hb1⟩
    have hasc := Sp.chk_ok _ _ _ _ H2.out
    have HASC := Lib.hid hasc
    clear hasc
    go_wp2_with fail
    go_loopw [5, 6] (fun b i wr => ∃ (k : Nat) (bz : Int), k ≤ l.length ∧ i = .int .i64 k ∧ b = .int .i64 bz ∧ Hid (RMoveAt l off k bz) ∧ ∃ n, wr = w1.drewN n) (fun _ i _ => (l.length - intOf i).toNat)
    case atStart => exact ⟨0, 0, by omega, rfl, rfl, Lib.hid ⟨rfl, by simp [Sp.inside], by simp, by simp⟩, 0, rfl⟩
    case round =>
      obtain ⟨k, bz, hk, rfl, rfl, HM, q, rfl⟩ := hrel
      have hlo := HM.out.lo
      have hhi := HM.out.hi
      by_cases hlt : k < l.length
      · obtain ⟨ad, rfl, hab, c1, c2, c3⟩ := EdsAt.at_ (hr.below hb1) hlt
        have htk := Sp.take_snoc l k hlt
        have hxs := HX.out l[k] (List.getElem_mem hlt)
        obtain ⟨v1, v2, v3⟩ := HASC.out l[k] (List.getElem_mem hlt)
        have hinall : Sp.within off l[k] = true → Sp.inside off l = true := fun h => List.any_eq_true.2 ⟨_, List.getElem_mem hlt, h⟩
        have HIN := Lib.hid hinall
        clear hinall
        generalize l[k] = x at *
        have HT := Lib.hid htk
        clear htk
        have hk2 : (k : Int) ≤ 1048576 := by omega
        have hlo2 : -1152921504606846976 ≤ bz := by omega
        have hhi2 : bz ≤ 1152921504606846976 := by omega
        have hv3 : x.t ≤ 9223372036854775807 := v3
        have hstep : -(1099511627776 : Int) ≤ Sp.stepOf off x ∧ Sp.stepOf off x ≤ 1099511627776 := by unfold Sp.stepOf; split <;> omega
        have HNEXT : Hid (∀ b2 : Int, Sp.within off x = false → b2 = bz + Sp.stepOf off x → Hid (RMoveAt l off (k + 1) b2)) := Lib.hid fun b2 h1 h2 => by
          subst h2
          refine Lib.hid ⟨by rw [HT.out, Sp.shift_snoc, ← HM.out.eq], by rw [HT.out, Sp.inside_snoc, HM.out.no, h1]; rfl, ?_, ?_⟩ <;> (simp only [Int.natCast_add]; omega)
        have hT0 : Hid (¬ x.t ≤ off → Sp.stepOf off x = 0) := Lib.hid fun h => by simp [Sp.stepOf, h]
        have hT1 : Hid (x.t ≤ off → Sp.stepOf off x = x.s.length - (x.t - x.f)) := Lib.hid fun h => by simp [Sp.stepOf, h]
        clear hstep hlo hhi v3
        by_cases q3 : x.t ≤ off
        · have hw : Hid (Sp.within off x = false) := Lib.hid (by simp [Sp.within]; omega)
          have q4 : x.f ≤ off := by omega
          have q5 : ¬ off < x.t := by omega
          have s1 : IntKind.i64.wrap (x.t - x.f) = x.t - x.f := IntWalk.i64_in _ (by omega)
          have s2 : IntKind.i64.wrap ((x.s.length : Int) - (x.t - x.f)) = (x.s.length : Int) - (x.t - x.f) := IntWalk.i64_in _ (by omega)
          have s3 : IntKind.i64.wrap (bz + ((x.s.length : Int) - (x.t - x.f))) = bz + ((x.s.length : Int) - (x.t - x.f)) := IntWalk.i64_in _ (by omega)
          have i0 : (0 : Int) ≤ (k : Int) := by omega
          have i1 : (k : Int) < l.length := by omega
          go_wp2_with fail
          go_quiet (fail)
          clear s1 s2 s3
          go_wp2_with fail
          go_roundw
          case rel => exact ⟨k + 1, _, by omega, by go_num, rfl, HNEXT.out _ hw.out (by rw [hT1.out q3]), _, rfl⟩
          case measure => simp [intOf]; omega
        · by_cases q4 : x.f ≤ off
          · have q5 : off < x.t := by omega
            have HV : Hid (moved l off = -1) := Lib.hid (moved_no3 (HIN.out (by simp [Sp.within]; omega)))
            go_wp2_with fail
            go_ret
            exact ⟨ret_int HV.out.symm, hb1.drewN _⟩
          · have hw : Hid (Sp.within off x = false) := Lib.hid (by simp [Sp.within]; omega)
            go_wp2_with fail
            go_roundw
            case rel => exact ⟨k + 1, bz, by omega, by go_num, rfl, HNEXT.out _ hw.out (by rw [hT0.out q3]; omega), _, rfl⟩
            case measure => simp [intOf]; omega
      · have hk3 : (k : Int) ≤ 1048576 := by omega
        have HV : Hid (moved l off = off + bz) := Lib.hid (by
          have h1 := HM.out.eq
          have h3 := HM.out.no
          rw [List.take_of_length_le (by omega)] at h1 h3
          rw [moved_yes h H2.out h3, h1])
        have hlo2 : -1152921504606846976 ≤ bz := by omega
        have hhi2 : bz ≤ 1152921504606846976 := by omega
        go_wp2_with fail
        go_ret
        exact ⟨ret_int HV.out.symm, hb1.drewN _⟩
end Go.Proofs.Ytnnicjbceadnbaa
