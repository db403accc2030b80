/- Walks: the reference's digit and Scalar. -/
import Derived.Test.YtegdemnfjmaicaaDoorWalk2
import Derived.Outline
namespace Go.Proofs.YtegdemnfjmaicaaDoor
open Go.RowKit
/-- a digit's value, or -1. -/
def digitOf (n : Nat) : Int := if 48 ≤ n ∧ n ≤ 57 then (n : Int) - 48 else if 97 ≤ n ∧ n ≤ 102 then (n : Int) - 87 else if 65 ≤ n ∧ n ≤ 70 then (n : Int) - 55 else -1
theorem digit_hex (c : UInt8) : digitOf c.toNat = if Ini.isHex c = true then (Ini.hexOf c : Int) else -1 := by
  have tab : ∀ n : Fin 256, digitOf (UInt8.ofNat n.1).toNat = if Ini.isHex (UInt8.ofNat n.1) = true then (Ini.hexOf (UInt8.ofNat n.1) : Int) else -1 := by decide +kernel
  have := tab ⟨c.toNat, c.toNat_lt⟩
  rw [UInt8.ofNat_toNat] at this
  exact this
set_option maxHeartbeats 1000000 in
theorem digit_any (n : Nat) (hn : n < 256) (w : World) (v : Int) (hv : digitOf n = v) :
    Calls Tryd.prog 55 #[.int .u8 n] w fun e w' => e = .returned (.int .i64 v) ∧ w = w' := by
  have HV := Lib.hid hv
  clear hv
  have hc : (48 ≤ n ∧ n ≤ 57) ∨ (57 < n ∧ 97 ≤ n ∧ n ≤ 102) ∨ (57 < n ∧ n < 97 ∧ 65 ≤ n ∧ n ≤ 70) ∨ (n < 48) ∨ (57 < n ∧ n < 65) ∨ (70 < n ∧ n < 97) ∨ 102 < n := by omega
  rcases hc with ⟨h1, h2⟩ | ⟨h0, h1, h2⟩ | ⟨h0, h1, h2, h3⟩ | h | ⟨h1, h2⟩ | ⟨h1, h2⟩ | h
  all_goals
    have HE : Hid (digitOf n = v) := HV
    go_enter Tryd.func55, Tryd.ntmps55
    go_wp2_with fail
    go_ret
    exact ⟨ret_int (by have := HE.out; unfold digitOf at this; omega), rfl⟩
end Go.Proofs.YtegdemnfjmaicaaDoor
