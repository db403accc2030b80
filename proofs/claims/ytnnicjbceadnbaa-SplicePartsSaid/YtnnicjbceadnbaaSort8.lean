/- Walks: the stable sort of slices, at any length. -/
import Derived.Test.YtnnicjbceadnbaaSort7
import Derived.Test.YtnnicjbceadnbaaPlainL
namespace Go.Proofs.Ytnnicjbceadnbaa
open Go.RowKit
open Sp (Ed Ce chk)
theorem symm_any (k : Nat) : SymAt k := by
  induction k with
  | zero => intro g cap N a m b P X Y S rest w _ _ h h1; omega
  | succ k ih =>
    intro g cap N a m b P X Y S rest w hN hNl hk hX hY ha hm hb sX sY hr
    by_cases h1 : X.length = 1
    · match X, h1 with
      | [x], _ => exact symm_left g cap N a m b P Y S x rest w (by simpa using hN) hNl ha (by simpa using hm) (by simpa using hb) sY (by simpa using hr)
    · by_cases h2 : Y.length = 1
      · match Y, h2 with
        | [y], _ => exact symm_right g cap N a m b P X S y rest w (by simpa using hN) hNl (by omega) ha (by simpa using hm) (by simpa using hb) sX (by simpa using hr)
      · refine symm_main g cap N a m b P X Y S rest w hN hNl (by omega) (by omega) ?_ ha hm hb sX sY hr
        intro g cap N a m b P X' Y' S rest w hN hNl hk'
        exact ih g cap N a m b P X' Y' S rest w hN hNl (by omega)
set_option maxHeartbeats 2000000 in
theorem stable_any (g cap n : Nat) (l : List Ed) (rest : List Value) (w : World) (hr : SRow w g l rest) (hn : n = l.length) (hl : n ≤ 268435456) :
    Calls Try.prog 41 #[.slice (some ⟨g, 0, none⟩) n cap, .int .i64 n, .func (Fn.func 35) #[] #[]] w fun e w' => e = .returned (.tuple #[]) ∧ ∃ l', SRow w' g l' rest ∧ l'.Perm l ∧ Srt l' ∧ KeptBut' w w' (· = g) := by
  have HN := Lib.hid hn
  clear hn
  go_enter Try.func41, Try.ntmps41
  go_wp2_with fail
  go_loopw [7, 8] (fun a b wr => ∃ (j : Nat) (l' : List Ed), a = .int .i64 ((20 * j : Nat) : Int) ∧ b = .int .i64 ((20 * j + 20 : Nat) : Int) ∧ 20 * j ≤ n ∧ SRow wr g l' rest ∧ Hid (RunsTo l l' 20 j) ∧ KeptBut' w wr (· = g)) (fun a _ _ => n - (intOf a).toNat)
  case atStart => exact ⟨0, l, rfl, rfl, by omega, hr, Lib.hid (RunsTo.zero l 20), KeptBut'.refl _ _⟩
  case round =>
    obtain ⟨j, l', rfl, rfl, hj, hS, HR, hK⟩ := hrel
    have HLN : Hid (l'.length = n) := Lib.hid (by rw [HR.out.perm.length_eq, HN.out])
    obtain ⟨a, ha⟩ : ∃ a, a = 20 * j := ⟨_, rfl⟩
    rw [← ha]
    have HA := Lib.hid ha
    have ha1 : a ≤ 20 * j := by omega
    have ha2 : 20 * j ≤ a := by omega
    clear ha
    by_cases hlt : a + 20 ≤ n
    · obtain ⟨P, X, S, e1, e2, e3, hnx⟩ := HR.out.next (by rw [HLN.out]; omega)
      obtain ⟨Z, z1, z2, z3⟩ := isort_mid P X S
      have HZ : Hid (Sp.isort ltEd a (a + 20) l' = P ++ Z ++ S) := Lib.hid (by rw [← z1, e1, e2, e3, HA.out])
      have HNX := Lib.hid (hnx Z z2 z3)
      have HS := Lib.hid hS
      have HK := Lib.hid hK
      clear e1 e2 e3 hnx z1 z2 z3 hS hK
      go_wp2_with fail
      have hins := insertion_any g cap a (a + 20) l' rest wr HS.out (by rw [HLN.out]; exact hlt) (by rw [HLN.out]; omega) (by omega)
      rw [HLN.out, show ((a + 20 : Nat) : Int) = (a : Int) + 20 from by omega] at hins
      refine hins.mono ?_
      clear hins
      rintro e w1 ⟨rfl, hS1, hK1⟩
      rw [HZ.out] at hS1
      have HS1 := Lib.hid hS1
      clear hS1
      go_wp2_with fail
      go_roundw
      case rel => exact ⟨j + 1, _, by have := HA.out; go_num, by have := HA.out; go_num, by omega, HS1.out, HNX, HK.out.trans hK1⟩
      case measure => simp [intOf] <;> omega
    · obtain ⟨P, X, e1, e2, e3, hnx⟩ := HR.out.last (by rw [HLN.out]; omega) (by rw [HLN.out]; omega)
      obtain ⟨Z, z1, z2, z3⟩ := isort_mid P X []
      have HZ : Hid (Sp.isort ltEd a n l' = P ++ Z) := Lib.hid (by
        rw [List.append_nil, List.append_nil, e3, HLN.out, e2, ← e1, ← HA.out] at z1; exact z1)
      have HNX := Lib.hid (hnx Z z2 z3)
      have HS := Lib.hid hS
      have HK := Lib.hid hK
      clear e1 e2 e3 hnx z1 z2 z3 hS hK
      go_wp2_with fail
      have hins := insertion_any g cap a n l' rest wr HS.out (by rw [HLN.out]; omega) (by rw [HLN.out]; omega) (by omega)
      rw [HLN.out] at hins
      refine hins.mono ?_
      clear hins
      rintro e w1 ⟨rfl, hS1, hK1⟩
      rw [HZ.out] at hS1
      have HS1 := Lib.hid hS1
      have HK1 := Lib.hid (HK.out.trans hK1)
      clear hS1 hK1
      go_wp2_with fail
      go_loopw [6] (fun c wr => ∃ (c' : Nat) (l' : List Ed), c = .int .i64 c' ∧ 1 ≤ c' ∧ (c' ≤ 20 ∨ c' ≤ 2 * n) ∧ SRow wr g l' rest ∧ Hid (Merg l l' c' 0) ∧ KeptBut' w wr (· = g)) (fun c _ => n - (intOf c).toNat)
      case atStart => exact ⟨20, _, rfl, by omega, by omega, HS1.out, HNX, HK1.out⟩
      case round =>
        clear HNX HS1 HK1 HS HK HZ HR
        obtain ⟨c, l2, rfl, hc1, hc2, hS, HM, hK⟩ := hrel
        have HLN2 : Hid (l2.length = n) := Lib.hid (by rw [HM.out.perm.length_eq, HN.out])
        have HS := Lib.hid hS
        have HK := Lib.hid hK
        clear hS hK
        by_cases hcn : c < n
        · have hc4 : c ≤ 536870912 := by omega
          go_wp2_with fail
          obtain ⟨wo, hwo⟩ : ∃ wo : World, wo = wr := ⟨_, rfl⟩
          subst hwo
          go_loopw [7, 8] (fun a b wr => ∃ (j A : Nat) (l' : List Ed), a = .int .i64 A ∧ b = .int .i64 ((A + 2 * c : Nat) : Int) ∧ Hid (A = 2 * c * j) ∧ A ≤ n ∧ SRow wr g l' rest ∧ Hid (Merg l l' c j) ∧ KeptBut' w wr (· = g)) (fun a _ _ => n - (intOf a).toNat)
          case atStart => exact ⟨0, 0, l2, rfl, by go_num, Lib.hid (by simp), by omega, HS.out, HM, HK.out⟩
          case round =>
            clear HS HM HK HLN2
            obtain ⟨j, A, l3, rfl, rfl, HA, hA, hS, HM, hK⟩ := hrel
            have HLN3 : Hid (l3.length = n) := Lib.hid (by rw [HM.out.perm.length_eq, HN.out])
            have HS := Lib.hid hS
            have HK := Lib.hid hK
            clear hS hK
            by_cases hlt : A + 2 * c ≤ n
            · obtain ⟨P, X, Y, S, e1, e2, e3, e4, sX, sY, hnx⟩ := HM.out.next (by rw [HLN3.out, ← HA.out]; omega)
              have hsym := symm_any (X.length + Y.length) g cap n A (A + c) (A + 2 * c) P X Y S rest wr (by rw [← HLN3.out, e1]; simp only [List.length_append]) (by omega) (Nat.le_refl _) (by omega) (by omega) (by rw [e2, HA.out]) (by rw [e2, e3, HA.out]) (by rw [e2, e3, e4, HA.out]; omega) sX sY (by rw [← e1]; exact HS.out)
              have HNX := Lib.hid hnx
              have HSY : Hid (Calls Try.prog 44 #[.slice (some ⟨g, 0, none⟩) n cap, .int .i64 A, .int .i64 ((A : Int) + c), .int .i64 ((A : Int) + 2 * c), .func (Fn.func 35) #[] #[]] wr fun e w' => e = .returned (.tuple #[]) ∧ Sorted wr w' g P X Y S rest) := Lib.hid (by
                have h := hsym
                rw [show ((A + c : Nat) : Int) = (A : Int) + c from by omega, show ((A + 2 * c : Nat) : Int) = (A : Int) + 2 * c from by omega] at h
                exact h)
              clear e1 e2 e3 e4 sX sY hnx hsym
              go_wp2_with fail
              refine HSY.out.mono ?_
              rintro e w2 ⟨rfl, Z, z1, z2, z3, z4⟩
              have HZ1 := Lib.hid z1
              have HM2 := Lib.hid (HNX.out Z z2 z3)
              clear z1 z2 z3
              go_wp2_with fail
              go_roundw
              case rel => exact ⟨j + 1, A + 2 * c, _, by go_num, by go_num, Lib.hid (by rw [HA.out, Nat.mul_add, Nat.mul_one]), hlt, HZ1.out, HM2, HK.out.trans z4⟩
              case measure => simp [intOf]; omega
            · by_cases hlt2 : A + c < n
              · obtain ⟨P, X, Y, e1, e2, e3, e4, sX, sY, hnx⟩ := HM.out.last (by rw [HLN3.out, ← HA.out]; omega) (by rw [HLN3.out, ← HA.out]; omega)
                have hsym := symm_any (X.length + Y.length) g cap n A (A + c) n P X Y [] rest wr (by rw [← HLN3.out, ← e4]; simp) (by omega) (Nat.le_refl _) (by omega) (by have := HA.out; have := HLN3.out; omega) (by rw [e2, HA.out]) (by rw [e2, e3, HA.out]) (by rw [← HLN3.out, ← e4]) sX sY (by rw [List.append_nil, ← e1]; exact HS.out)
                have HNX := Lib.hid hnx
                have HSY : Hid (Calls Try.prog 44 #[.slice (some ⟨g, 0, none⟩) n cap, .int .i64 A, .int .i64 ((A : Int) + c), .int .i64 n, .func (Fn.func 35) #[] #[]] wr fun e w' => e = .returned (.tuple #[]) ∧ Sorted wr w' g P X Y [] rest) := Lib.hid (by
                  have h := hsym
                  rw [show ((A + c : Nat) : Int) = (A : Int) + c from by omega] at h
                  exact h)
                clear e1 e2 e3 e4 sX sY hnx hsym
                go_wp2_with fail
                refine HSY.out.mono ?_
                rintro e w2 ⟨rfl, Z, z1, z2, z3, z4⟩
                rw [List.append_nil] at z1
                have HZ1 := Lib.hid z1
                have HM2 := Lib.hid (HNX.out Z z2 z3)
                clear z1 z2 z3
                go_wp2_with fail
                go_roundw
                case rel => exact ⟨2 * c, _, by go_num, by omega, by omega, HZ1.out, HM2, HK.out.trans z4⟩
                case measure => simp [intOf]; omega
              · have HM2 := Lib.hid (HM.out.over (by rw [HLN3.out, ← HA.out]; omega))
                go_wp2_with fail
                go_roundw
                case rel => exact ⟨2 * c, _, by go_num, by omega, by omega, HS.out, HM2, HK.out⟩
                case measure => simp [intOf]; omega
        · obtain ⟨d1, d2⟩ := HM.out.done (by rw [HLN2.out]; omega)
          have HD1 := Lib.hid d1
          have HD2 := Lib.hid d2
          clear d1 d2
          go_wp2_with fail
          go_end0
          exact ⟨rfl, l2, HS.out, HD1.out, HD2.out, HK.out⟩
set_option maxHeartbeats 1000000 in
theorem sort_any (g cap : Nat) (l : List Ed) (rest : List Value) (w : World) (hr : SRow w g l rest) (hl : l.length ≤ 268435456) :
    Calls Try.prog 34 #[.slice (some ⟨g, 0, none⟩) l.length cap, .func (Fn.func 35) #[] #[]] w fun e w' => e = .returned (.tuple #[]) ∧ ∃ l', SRow w' g l' rest ∧ l'.Perm l ∧ Srt l' ∧ KeptBut' w w' (· = g) := by
  have HR := Lib.hid hr
  clear hr
  go_enter Try.func34, Try.ntmps34
  go_wp2_with fail
  refine (stable_any g cap l.length l rest _ HR.out rfl hl).mono ?_
  rintro e w1 ⟨rfl, l', hS, hp, hs, hK⟩
  have HS := Lib.hid hS
  have HK := Lib.hid hK
  have HP := Lib.hid hp
  have HSS := Lib.hid hs
  clear hS hK hp hs
  go_wp2_with fail
  go_end0
  exact ⟨rfl, l', HS.out, HP.out, HSS.out, HK.out⟩
end Go.Proofs.Ytnnicjbceadnbaa
