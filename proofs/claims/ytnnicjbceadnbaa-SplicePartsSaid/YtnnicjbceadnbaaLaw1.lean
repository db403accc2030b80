/- Walks of the laws' own helpers: small. -/
import Derived.Test.YtnnicjbceadnbaaRef1
namespace Go.Proofs.Ytnnicjbceadnbaa
open Go.RowKit
open Sp (Ed Ce chk)
/-- a slice value. -/
structure Sv where
  a : Option Addr
  n : Nat
  c : Nat
def svL : Lay Sv := { enc := fun s => [.slice s.a s.n s.c], sz := 1, len := fun _ => rfl, one := fun x u hu => by simp at hu; subst hu; rfl, pos := by omega }
/-- what 'small' asks of one list. -/
def shortB (l : List Ed) : Bool := decide (l.length ≤ 30) && l.all (fun x => decide (x.s.length ≤ 100))
/-- a list of slices, each of which reads as a list of edits. -/
def AllAt (w : World) (B : Nat) : List Sv → List (List Ed) → Prop
  | [], [] => True
  | s :: r, l :: m => s.n = l.length ∧ EdsAt w B s.a l ∧ AllAt w B r m
  | _, _ => False
theorem AllAt.get {w : World} {B : Nat} {ss : List Sv} {ls : List (List Ed)} (h : AllAt w B ss ls) : ss.length = ls.length ∧ ∀ k (h1 : k < ss.length) (h2 : k < ls.length), ss[k].n = ls[k].length ∧ EdsAt w B ss[k].a ls[k] := by
  induction ss generalizing ls with
  | nil => cases ls with
    | nil => exact ⟨rfl, fun k h1 => by simp at h1⟩
    | cons l m => exact h.elim
  | cons s r ih => cases ls with
    | nil => exact h.elim
    | cons l m =>
      obtain ⟨a, b, c⟩ := h
      obtain ⟨d, e⟩ := ih c
      refine ⟨by simp [d], fun k h1 h2 => ?_⟩
      cases k with
      | zero => exact ⟨a, b⟩
      | succ k => exact e k (by simpa using h1) (by simpa using h2)
def smallB (src : List UInt8) (ls : List (List Ed)) : Bool := ls.all shortB && decide (src.length ≤ 300)
set_option maxHeartbeats 1000000 in
theorem small_any (src : List UInt8) (ls : List (List Ed)) (ss : List Sv) (A : Option Addr) (c : Nat) (hsrc : src.length ≤ 9223372036854775807) (hls : ls.length ≤ 1073741824) (hll : ∀ l ∈ ls, l.length ≤ 9223372036854775807) (hlx : ∀ l ∈ ls, ∀ x ∈ l, x.s.length ≤ 9223372036854775807)
    (w : World) (hr : RowAt svL w w.heap.size A ss) (hall : AllAt w w.heap.size ss ls) :
    Calls Try.prog 10 #[.string ⟨src.toArray⟩, .slice A ss.length c] w fun e w' => e = .returned (.bool (smallB src ls)) ∧ w = w' := by
  obtain ⟨hlen, hget⟩ := hall.get
  have HG := Lib.hid hget
  have HLL := Lib.hid hll
  have HLX := Lib.hid hlx
  have HLEN := Lib.hid hlen
  have hssl : ss.length ≤ 1073741824 := by omega
  clear hget hll hlx hlen hall
  go_enter Try.func10, Try.ntmps10
  go_wp2_with fail
  go_loop [5] (fun i => ∃ k : Nat, k ≤ ss.length ∧ i = .int .i64 k ∧ Hid (∀ l ∈ ls.take k, shortB l = true)) (fun i => (ss.length - intOf i).toNat)
  case atStart => exact ⟨0, by omega, rfl, Lib.hid (by simp)⟩
  case round =>
    obtain ⟨k, hk, rfl, HS⟩ := hrel
    by_cases hlt : k < ss.length
    · have hlt2 : k < ls.length := by have := HLEN.out; omega
      obtain ⟨ad, rfl, hab, c0, _⟩ := hr.get hlt
      obtain ⟨hn, hrow⟩ := HG.out k hlt hlt2
      have h1 := Sp.take_snoc ls k hlt2
      have hl2 := HLL.out ls[k] (List.getElem_mem hlt2)
      have hx2 := HLX.out ls[k] (List.getElem_mem hlt2)
      have hmem := List.getElem_mem hlt2
      have c1 : w.cell? (ad.add k) = some (.slice ss[k].a ss[k].n ss[k].c) := by have := c0 _ rfl; simpa [svL] using this
      clear c0
      generalize ls[k] = l at *
      rw [hn] at c1
      generalize ss[k].a = A1 at *
      generalize ss[k].c = cc1 at *
      have H1 := Lib.hid h1
      have HX2 := Lib.hid hx2
      have HM := Lib.hid hmem
      clear h1 hn hx2 hmem
      by_cases h30 : 30 < l.length
      · have HF : Hid (smallB src ls = false) := Lib.hid (by
          have : shortB l = false := by simp [shortB]; omega
          simp only [smallB, Bool.and_eq_false_iff, List.all_eq_false]
          exact .inl ⟨l, HM.out, by simp [this]⟩)
        go_wp2_with fail
        go_ret
        exact ⟨ret_bool HF.out.symm, rfl⟩
      · go_wp2_with fail
        go_loop [6] (fun i => ∃ j : Nat, j ≤ l.length ∧ i = .int .i64 j ∧ Hid (∀ x ∈ l.take j, x.s.length ≤ 100)) (fun i => (l.length - intOf i).toNat)
        case atStart => exact ⟨0, by omega, rfl, Lib.hid (by simp)⟩
        case round =>
          obtain ⟨j, hj, rfl, HJ⟩ := hrel
          by_cases hjl : j < l.length
          · obtain ⟨ad2, rfl, hab2, d1, d2, d3⟩ := EdsAt.at_ hrow hjl
            have h2 := Sp.take_snoc l j hjl
            have hxl := HX2.out l[j] (List.getElem_mem hjl)
            have hmx := List.getElem_mem hjl
            generalize l[j] = x at *
            have H2 := Lib.hid h2
            have HMX := Lib.hid hmx
            clear h2 hmx
            by_cases h100 : 100 < x.s.length
            · have HF : Hid (smallB src ls = false) := Lib.hid (by
                have : shortB l = false := by
                  simp only [shortB, Bool.and_eq_false_iff, List.all_eq_false]
                  exact .inr ⟨x, HMX.out, by simp; omega⟩
                simp only [smallB, Bool.and_eq_false_iff, List.all_eq_false]
                exact .inl ⟨l, HM.out, by simp [this]⟩)
              go_wp2_with fail
              go_ret
              exact ⟨ret_bool HF.out.symm, rfl⟩
            · go_wp2_with fail
              go_round
              case rel => exact ⟨j + 1, by omega, by go_num, Lib.hid (by
                rw [H2.out]; intro y hy
                rcases List.mem_append.1 hy with hy | hy
                · exact HJ.out y hy
                · rw [List.mem_singleton] at hy; subst hy; omega)⟩
              case measure => simp [intOf]; omega
          · go_wp2_with fail
            go_round
            case rel => exact ⟨k + 1, by omega, by go_num, Lib.hid (by
                rw [H1.out]; intro y hy
                rcases List.mem_append.1 hy with hy | hy
                · exact HS.out y hy
                · rw [List.mem_singleton] at hy; subst hy
                  have := HJ.out
                  rw [List.take_of_length_le (by omega)] at this
                  simp only [shortB, Bool.and_eq_true, List.all_eq_true]
                  exact ⟨by simp; omega, fun x hx => by simpa using this x hx⟩)⟩
            case measure => simp [intOf]; omega
    · have HF : Hid (smallB src ls = decide (src.length ≤ 300)) := Lib.hid (by
        have h := HS.out
        rw [List.take_of_length_le (by have := HLEN.out; omega)] at h
        simp only [smallB]
        have : ls.all shortB = true := List.all_eq_true.2 h
        rw [this, Bool.true_and])
      by_cases hs3 : src.length ≤ 300
      · go_wp2_with fail
        go_ret
        exact ⟨ret_bool (by rw [HF.out]; first | (rw [decide_eq_decide]; omega) | (simp [hs3]; done) | (symm; simp; omega)), rfl⟩
      · go_wp2_with fail
        go_ret
        exact ⟨ret_bool (by rw [HF.out]; first | (rw [decide_eq_decide]; omega) | (simp [hs3]; done) | (symm; simp; omega)), rfl⟩
end Go.Proofs.Ytnnicjbceadnbaa
