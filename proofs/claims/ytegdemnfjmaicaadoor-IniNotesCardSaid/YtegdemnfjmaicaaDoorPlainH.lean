/- Hexadecimal digits, byte by byte: plain. -/
import Derived.Test.YtegdemnfjmaicaaDoorPlain
import Derived.Lib.Bytealg
namespace Go.Proofs.YtegdemnfjmaicaaDoor
def hexDigits : List UInt8 := [48, 49, 50, 51, 52, 53, 54, 55, 56, 57, 97, 98, 99, 100, 101, 102]
theorem hex_yes (c : UInt8) (h : Ini.isHex c = true) : Lib.indexByte hexDigits (c ||| 32) = (Ini.hexOf c : Int) ∧ 48 ≤ c.toNat ∧ (c.toNat ≤ 57 ∨ 65 ≤ c.toNat) ∧ Ini.hexOf c < 16 := by
  have tab : ∀ n : Fin 256, Ini.isHex (UInt8.ofNat n.1) = true → Lib.indexByte hexDigits (UInt8.ofNat n.1 ||| 32) = (Ini.hexOf (UInt8.ofNat n.1) : Int) ∧ 48 ≤ n.1 ∧ (n.1 ≤ 57 ∨ 65 ≤ n.1) ∧ Ini.hexOf (UInt8.ofNat n.1) < 16 := by decide +kernel
  have := tab ⟨c.toNat, c.toNat_lt⟩
  rw [UInt8.ofNat_toNat] at this
  exact this h
theorem hex_no (c : UInt8) (h : Ini.isHex c = false) : Lib.indexByte hexDigits (c ||| 32) < 0 ∨ c.toNat < 48 ∨ (57 < c.toNat ∧ c.toNat < 65) := by
  have tab : ∀ n : Fin 256, Ini.isHex (UInt8.ofNat n.1) = false → Lib.indexByte hexDigits (UInt8.ofNat n.1 ||| 32) < 0 ∨ n.1 < 48 ∨ (57 < n.1 ∧ n.1 < 65) := by decide +kernel
  have := tab ⟨c.toNat, c.toNat_lt⟩
  rw [UInt8.ofNat_toNat] at this
  exact this h
end Go.Proofs.YtegdemnfjmaicaaDoor
