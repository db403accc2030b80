/- Hexadecimal digits, byte by byte: plain. The digits of an escape by number: plain. -/
import Derived.Test.YtegdemnfjmaicaaDoorPlainZ
import Derived.Lib.Bytealg
import Derived.Test.YtegdemnfjmaicaaDoorWalk2
namespace Go.Proofs.YtegdemnfjmaicaaDoor
def hexDigits : List UInt8 := [48, 49, 50, 51, 52, 53, 54, 55, 56, 57, 97, 98, 99, 100, 101, 102]
theorem hex_yes (c : UInt8) (h : Ini.isHex c = true) : Lib.indexByte hexDigits (c ||| 32) = (Ini.hexOf c : Int) ∧ 48 ≤ c.toNat ∧ (c.toNat ≤ 57 ∨ 65 ≤ c.toNat) ∧ Ini.hexOf c < 16 := by
  have tab : ∀ n : Fin 256, Ini.isHex (UInt8.ofNat n.1) = true → Lib.indexByte hexDigits (UInt8.ofNat n.1 ||| 32) = (Ini.hexOf (UInt8.ofNat n.1) : Int) ∧ 48 ≤ n.1 ∧ (n.1 ≤ 57 ∨ 65 ≤ n.1) ∧ Ini.hexOf (UInt8.ofNat n.1) < 16 := by decide +kernel
  have := tab ⟨c.toNat, c.toNat_lt⟩
  rw [UInt8.ofNat_toNat] at this
  exact this h
theorem hex_no (c : UInt8) (h : Ini.isHex c = false) : Lib.indexByte hexDigits (c ||| 32) < 0 ∨ c.toNat < 48 ∨ (57 < c.toNat ∧ c.toNat < 65) := by
  have tab : ∀ n : Fin 256, Ini.isHex (UInt8.ofNat n.1) = false → Lib.indexByte hexDigits (UInt8.ofNat n.1 ||| 32) < 0 ∨ n.1 < 48 ∨ (57 < n.1 ∧ n.1 < 65) := by decide +kernel
  have := tab ⟨c.toNat, c.toNat_lt⟩
  rw [UInt8.ofNat_toNat] at this
  exact this h
end Go.Proofs.YtegdemnfjmaicaaDoor
namespace Go.Proofs.YtegdemnfjmaicaaDoor
open Go.RowKit
/-- the digits at an offset: at most six. -/
def hexSeg (s : Ini.Str) (a tz : Nat) : Ini.Str := ((seg s a tz).take 6).takeWhile Ini.isHex
theorem takeWhile_get (p : UInt8 → Bool) (l : Ini.Str) (j : Nat) (h : j < (l.takeWhile p).length) : ∃ h2 : j < l.length, (l.takeWhile p)[j] = l[j] ∧ p l[j] = true := by
  induction l generalizing j with
  | nil => simp at h
  | cons c l ih =>
    rw [List.takeWhile_cons] at h
    by_cases hc : p c = true
    · rw [if_pos hc] at h
      cases j with
      | zero => exact ⟨by simp, by simp [hc], by simpa using hc⟩
      | succ j =>
        obtain ⟨h2, h3, h4⟩ := ih j (by simpa using h)
        exact ⟨by simp; omega, by simpa [List.takeWhile_cons, hc] using h3, by simpa using h4⟩
    · rw [if_neg hc] at h
      simp at h
theorem takeWhile_stop (p : UInt8 → Bool) (l : Ini.Str) (h : (l.takeWhile p).length < l.length) : p l[(l.takeWhile p).length] = false := by
  induction l with
  | nil => simp at h
  | cons c l ih =>
    by_cases hc : p c = true
    · have := ih (by simpa [List.takeWhile_cons, hc] using h)
      simpa [List.takeWhile_cons, hc] using this
    · simp [hc]
theorem seg_get (s : Ini.Str) (a tz j : Nat) (ht : tz ≤ s.length) (h : j < (seg s a tz).length) : (seg s a tz)[j] = s[a + j]'(by rw [seg_len s a tz ht] at h; omega) := by
  simp [seg, List.getElem_drop, List.getElem_take]
theorem hexSeg_at (s : Ini.Str) (a tz j : Nat) (ht : tz ≤ s.length) (ds : Ini.Str) (hds : hexSeg s a tz = ds) (h : j < ds.length) :
    ∃ (h1 : a + j < tz) (_h2 : j < 6), ds[j] = s[a + j]'(by omega) ∧ Ini.isHex (s[a + j]'(by omega)) = true := by
  subst hds
  obtain ⟨h2, h3, h4⟩ := takeWhile_get Ini.isHex _ j h
  have hl : j < 6 ∧ j < (seg s a tz).length := by rw [List.length_take] at h2; omega
  have hsl := seg_len s a tz ht
  have e := seg_get s a tz j ht hl.2
  rw [List.getElem_take, e] at h3 h4
  exact ⟨by omega, hl.1, h3, h4⟩
theorem hexSeg_stop (s : Ini.Str) (a tz : Nat) (ht : tz ≤ s.length) (ds : Ini.Str) (hds : hexSeg s a tz = ds) :
    6 ≤ ds.length ∨ tz ≤ a + ds.length ∨ ∃ h : a + ds.length < tz, Ini.isHex (s[a + ds.length]'(by omega)) = false := by
  have hsl := seg_len s a tz ht
  by_cases h6 : 6 ≤ ds.length
  · exact .inl h6
  · by_cases h7 : tz ≤ a + ds.length
    · exact .inr (.inl h7)
    · refine .inr (.inr ⟨by omega, ?_⟩)
      have hlt : (hexSeg s a tz).length < ((seg s a tz).take 6).length := by rw [hds, List.length_take]; omega
      have := takeWhile_stop Ini.isHex _ hlt
      have e : ((List.take 6 (seg s a tz)).takeWhile Ini.isHex).length = ds.length := by rw [← hds]; rfl
      have e2 : (List.take 6 (seg s a tz))[((List.take 6 (seg s a tz)).takeWhile Ini.isHex).length]'hlt = s[a + ds.length]'(by omega) := by
        simp only [List.getElem_take, seg_get s a tz _ ht, e]
      rw [e2] at this
      exact this
theorem hexSeg_len (s : Ini.Str) (a tz : Nat) (ds : Ini.Str) (hds : hexSeg s a tz = ds) : ds.length ≤ 6 := by
  subst hds
  have := (List.takeWhile_sublist (l := (seg s a tz).take 6) Ini.isHex).length_le
  rw [List.length_take] at this
  unfold hexSeg
  omega
theorem hexVal_snoc (l : Ini.Str) (c : UInt8) : Ini.hexVal (l ++ [c]) = 16 * Ini.hexVal l + Ini.hexOf c := by simp [Ini.hexVal]
theorem hexVal_lt (l : Ini.Str) (h : ∀ c ∈ l, Ini.isHex c = true) : Ini.hexVal l < 16 ^ l.length := by
  generalize hn : l.length = n
  induction n generalizing l with
  | zero =>
    have : l = [] := List.eq_nil_of_length_eq_zero hn
    subst this
    simp [Ini.hexVal]
  | succ n ih =>
    have hne : l ≠ [] := by intro e; subst e; simp at hn
    have e := List.dropLast_concat_getLast hne
    rw [← e, hexVal_snoc]
    have h1 := ih l.dropLast (fun c hc => h c ((List.dropLast_sublist l).subset hc)) (by simp; omega)
    have h2 := (hex_yes _ (h _ (List.getLast_mem hne))).2.2.2
    rw [Nat.pow_succ]
    omega
theorem hexVal_small (s : Ini.Str) (a tz j : Nat) (ht : tz ≤ s.length) (ds : Ini.Str) (hds : hexSeg s a tz = ds) : Ini.hexVal (ds.take j) < 16777216 := by
  have h1 : ∀ c ∈ ds.take j, Ini.isHex c = true := by
    intro c hc
    obtain ⟨k, hk, rfl⟩ := List.mem_iff_getElem.1 (List.mem_of_mem_take hc)
    obtain ⟨_, _, h3, h4⟩ := hexSeg_at s a tz k ht ds hds hk
    rw [h3]; exact h4
  have h2 := hexVal_lt _ h1
  have h3 : (ds.take j).length ≤ 6 := by
    have := hexSeg_len s a tz ds hds
    rw [List.length_take]; omega
  have h4 : 16 ^ (ds.take j).length ≤ 16 ^ 6 := Nat.pow_le_pow_right (by omega) h3
  omega
/-- what stands behind the opening brace. -/
theorem esc_u (x : UInt8) (h : Ini.Str) : Ini.esc (x :: 117 :: 123 :: h) = (match (h.take 6).takeWhile Ini.isHex, h.drop ((h.take 6).takeWhile Ini.isHex).length with
          | [], _ => .err 0 4
          | _ :: _, [] => .err 0 4
          | _ :: _, z :: _ => if z ≠ 125 then .err 0 4 else if Ini.isScalar (Ini.hexVal ((h.take 6).takeWhile Ini.isHex)) then .ok (Ini.enc (Ini.hexVal ((h.take 6).takeWhile Ini.isHex)), ((h.take 6).takeWhile Ini.isHex).length + 4) else .err 0 11) := rfl
theorem esc_u0 (x : UInt8) (h : Ini.Str) (hds : (h.take 6).takeWhile Ini.isHex = []) : Ini.esc (x :: 117 :: 123 :: h) = .err 0 4 := by rw [esc_u, hds]
theorem esc_u1 (x : UInt8) (h ds : Ini.Str) (hds : (h.take 6).takeWhile Ini.isHex = ds) (hd : h.drop ds.length = []) : Ini.esc (x :: 117 :: 123 :: h) = .err 0 4 := by
  rw [esc_u, hds, hd]
  cases ds <;> rfl
theorem esc_u2 (x : UInt8) (h ds : Ini.Str) (hds : (h.take 6).takeWhile Ini.isHex = ds) (hne : ds ≠ []) (z : UInt8) (t : Ini.Str) (hd : h.drop ds.length = z :: t) :
    Ini.esc (x :: 117 :: 123 :: h) = if z ≠ 125 then .err 0 4 else if Ini.isScalar (Ini.hexVal ds) then .ok (Ini.enc (Ini.hexVal ds), ds.length + 4) else .err 0 11 := by
  rw [esc_u, hds, hd]
  cases ds with
  | nil => exact absurd rfl hne
  | cons c l => rfl
end Go.Proofs.YtegdemnfjmaicaaDoor
