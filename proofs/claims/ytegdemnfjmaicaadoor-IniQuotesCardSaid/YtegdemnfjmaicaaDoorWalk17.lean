/- Walks: control. -/
import Derived.Test.YtegdemnfjmaicaaDoorWalk10
namespace Go.Proofs.YtegdemnfjmaicaaDoor
open Go.RowKit
namespace Ini
theorem ctl_go (c : UInt8) (r : Str) (i : Nat) (h : 32 ≤ c.toNat ∨ c = 9 ∨ c = 10 ∨ (c = 13 ∧ r.head? = some 10)) : ctl (c :: r) i = ctl r (i + 1) := by
  unfold ctl
  rw [if_neg]
  · cases r <;> rfl
  · rcases h with h | h | h | ⟨h, h2⟩
    · have : ¬ c < 32 := by rw [UInt8.lt_iff_toNat_lt]; simpa using h
      simp [this]
    · simp [h]
    · simp [h]
    · simp [h, h2]
theorem ctl_stop (c : UInt8) (r : Str) (i : Nat) (h : c.toNat < 32) (h9 : c ≠ 9) (h10 : c ≠ 10) (h13 : c = 13 → r.head? ≠ some 10) : ctl (c :: r) i = some i := by
  unfold ctl
  rw [if_pos]
  have : c < 32 := by rw [UInt8.lt_iff_toNat_lt]; simpa using h
  by_cases hc : c = 13
  · simp [hc, h13 hc]
  · simp [this, h9, h10, hc]
end Ini
/-- an offset, or -1. -/
def offVal (o : Option Nat) : Value := match o with
  | some i => .int .i64 (i : Nat)
  | none => .int .i64 (-1)
theorem toNat_ne {c d : UInt8} (h : c ≠ d) : ¬ ((c.toNat : Int) = (d.toNat : Int)) := fun e => h (UInt8.toNat_inj.1 (by omega))
set_option maxRecDepth 100000 in
set_option maxHeartbeats 2000000 in
theorem control_any (s : Ini.Str) (hs : s.length ≤ 1073741823) (w : World) (v : Value) (hv : offVal (Ini.ctl s 0) = v) :
    Calls Tryd.prog 19 #[.string ⟨s.toArray⟩] w fun e w' => e = .returned v ∧ w = w' := by
  have HV := Lib.hid hv
  clear hv
  go_enter Tryd.func19, Tryd.ntmps19
  go_wp2_with fail
  go_loop [8] (fun x => ∃ i : Nat, i ≤ s.length ∧ x = .int .i64 i ∧ Hid (Ini.ctl s 0 = Ini.ctl (s.drop i) i)) (fun i => s.length - (intOf i).toNat)
  case atStart => exact ⟨0, by omega, rfl, Lib.hid rfl⟩
  case round =>
    obtain ⟨i, hi, rfl, HC⟩ := hrel
    by_cases hil : i < s.length
    · obtain ⟨c, hc⟩ : ∃ c, s[i] = c := ⟨_, rfl⟩
      obtain ⟨r, hr⟩ : ∃ r, s.drop (i + 1) = r := ⟨_, rfl⟩
      have hd : s.drop i = c :: r := by rw [List.drop_eq_getElem_cons hil, hc, hr]
      have q0 := byte_is s i hil c c c.toNat rfl hc rfl
      have hg : Hid ((32 ≤ c.toNat ∨ c = 9 ∨ c = 10 ∨ (c = 13 ∧ r.head? = some 10)) → Ini.ctl s 0 = Ini.ctl (s.drop (i + 1)) (i + 1)) := Lib.hid (fun h => by rw [HC.out, hd, Ini.ctl_go c r i h, hr])
      have hst : Hid (c.toNat < 32 → c ≠ 9 → c ≠ 10 → (c = 13 → r.head? ≠ some 10) → offVal (some i) = v) := Lib.hid (fun h1 h2 h3 h4 => by rw [← HV.out, HC.out, hd, Ini.ctl_stop c r i h1 h2 h3 h4])
      clear hd
      by_cases h32 : 32 ≤ c.toNat
      · have HX := Lib.hid (hg.out (.inl h32))
        have k1 : ¬ ((c.toNat : Int) < 32) := by omega
        have k2 : ¬ ((c.toNat : Int) = 10) := by omega
        have k3 : ¬ ((c.toNat : Int) = 13) := by omega
        have k2b : ((c.toNat : Int) == 10) = false := by simpa using k2
        have k3b : ((c.toNat : Int) == 13) = false := by simpa using k3
        clear hg hst h32
        go_wp2_with fail
        go_round
        case rel => exact ⟨i + 1, by omega, by go_num, HX⟩
        case measure => simp [intOf]; omega
      · have k1 : (c.toNat : Int) < 32 := by omega
        by_cases h10 : c = 10
        · have HX := Lib.hid (hg.out (.inr (.inr (.inl h10))))
          have k2 : (c.toNat : Int) = 10 := by rw [h10]; rfl
          clear hg hst h32 h10
          go_wp2_with fail
          go_round
          case rel => exact ⟨i + 1, by omega, by go_num, HX⟩
          case measure => simp [intOf]; omega
        · have k2 : ¬ ((c.toNat : Int) = 10) := toNat_ne h10
          have k2b : ((c.toNat : Int) == 10) = false := by simpa using k2
          by_cases h13 : c = 13
          · have k3 : (c.toNat : Int) = 13 := by rw [h13]; rfl
            by_cases hi1 : i + 1 < s.length
            · obtain ⟨d, hdd⟩ : ∃ d, s[i + 1] = d := ⟨_, rfl⟩
              have hrh : r.head? = some d := by rw [← hr, List.drop_eq_getElem_cons hi1, hdd]; rfl
              have q1 := byte_is s (i + 1) hi1 d d d.toNat rfl hdd rfl
              have hi1I : (i : Int) + 1 < (s.length : Int) := by omega
              by_cases hd10 : d = 10
              · have HX := Lib.hid (hg.out (.inr (.inr (.inr ⟨h13, by rw [hrh, hd10]⟩))))
                have k4 : (d.toNat : Int) = 10 := by rw [hd10]; rfl
                clear hg hst h32 h10 h13 hrh hd10 hc hdd hr
                go_wp2_with fail
                go_round
                case rel => exact ⟨i + 1, by omega, by go_num, HX⟩
                case measure => simp [intOf]; omega
              · have HX := Lib.hid (hst.out (by omega) (by rw [h13]; decide) h10 (fun _ e => hd10 (by rw [hrh] at e; injection e)))
                have k4 : ¬ ((d.toNat : Int) = 10) := toNat_ne hd10
                have k4b : ((d.toNat : Int) == 10) = false := by simpa using k4
                clear hg hst h32 h10 h13 hrh hd10 hc hdd hr
                go_wp2_with fail
                go_ret
                exact ⟨by rw [← HX.out]; rfl, rfl⟩
            · have hi1I : ¬ ((i : Int) + 1 < (s.length : Int)) := by omega
              have hrn : r = [] := by rw [← hr]; exact List.drop_eq_nil_of_le (by omega)
              have HX := Lib.hid (hst.out (by omega) (by rw [h13]; decide) h10 (fun _ e => by rw [hrn] at e; cases e))
              clear hg hst h32 h10 h13 hrn hc hr
              go_wp2_with fail
              go_ret
              exact ⟨by rw [← HX.out]; rfl, rfl⟩
          · have k3 : ¬ ((c.toNat : Int) = 13) := toNat_ne h13
            have k3b : ((c.toNat : Int) == 13) = false := by simpa using k3
            by_cases h9 : c = 9
            · have HX := Lib.hid (hg.out (.inr (.inl h9)))
              have k4 : (c.toNat : Int) = 9 := by rw [h9]; rfl
              clear hg hst h32 h10 h13 h9 hc hr k2 k2b k3 k3b k1
              go_wp2_with fail
              go_round
              case rel => exact ⟨i + 1, by omega, by go_num, HX⟩
              case measure => simp [intOf]; omega
            · have HX := Lib.hid (hst.out (by omega) h9 h10 (fun e => (h13 e).elim))
              have k4 : ¬ ((c.toNat : Int) = 9) := toNat_ne h9
              have k4b : ((c.toNat : Int) == 9) = false := by simpa using k4
              clear hg hst h32 h10 h13 h9 hc hr
              go_wp2_with fail
              go_ret
              exact ⟨by rw [← HX.out]; rfl, rfl⟩
    · have HX : Hid (offVal none = v) := Lib.hid (by rw [← HV.out, HC.out, List.drop_eq_nil_of_le (by omega)]; rfl)
      go_wp2_with fail
      go_ret
      exact ⟨by rw [← HX.out]; rfl, rfl⟩
end Go.Proofs.YtegdemnfjmaicaaDoor
