/- The walk of SpliceApplies. -/
import Derived.Test.YtnnicjbceadnbaaAwake
import Derived.Test.YtnnicjbceadnbaaPlainE
import Derived.Test.YtnnicjbceadnbaaRef3
namespace Go.Proofs.Ytnnicjbceadnbaa
open Go.RowKit
open Sp (Ed chk)
/-- what opening the arguments gives of a list of edits. -/
def Fits (l : List Ed) : Prop := l.length ≤ 9223372036854775807 ∧ ∀ x ∈ l, x.s.length ≤ 9223372036854775807 ∧ x.t ≤ 9223372036854775807
theorem short_small {src : List UInt8} {l : List Ed} (hs : src.length ≤ 300) (h : shortB l = true) : Small src l ∧ l.length ≤ 30 ∧ Sp.txt l ≤ 3000 := by
  simp only [shortB, Bool.and_eq_true, decide_eq_true_eq, List.all_eq_true] at h
  obtain ⟨h1, h2⟩ := h
  have ht : ∀ l : List Ed, (∀ x ∈ l, x.s.length ≤ 100) → Sp.txt l ≤ l.length * 100 := by
    intro l
    induction l with
    | nil => intro _; simp [Sp.txt]
    | cons y r ih => intro hh; have := ih (fun x hx => hh x (by simp [hx])); have := hh y (by simp); simp only [Sp.txt, List.length_cons]; omega
  have h3 := ht l h2
  refine ⟨?_, h1, by omega⟩
  unfold Small
  have : (l.length + 1) * (src.length + 32) ≤ 31 * 332 := Nat.mul_le_mul (by omega) (by omega)
  omega
set_option maxHeartbeats 2000000 in
theorem law_applies (src : List UInt8) (l : List Ed) (A : Option Addr) (c : Nat) (hsrc : src.length ≤ 9223372036854775807) (hf : Fits l) (w : World) (hr : EdsAt w w.heap.size A l) :
    Calls Try.prog 3 #[.string ⟨src.toArray⟩, .slice A l.length c] w fun e w' => e = .returned (.bool true) ∧ Below w.heap.size w w' := by
  have HF := Lib.hid hf
  have hl0 := hf.1
  clear hf
  have hrs : RowAt svL (w.alloc (.cells #[.slice A l.length c] 22)) (w.heap.size + 1) (some ⟨w.heap.size, 0, none⟩) [(⟨A, l.length, c⟩ : Sv)] := RowAt.lit1 _ _ rfl _ rfl
  have hal : AllAt (w.alloc (.cells #[.slice A l.length c] 22)) (w.heap.size + 1) [(⟨A, l.length, c⟩ : Sv)] [l] := ⟨rfl, (hr.alloc (Nat.le_refl _) _).more (by omega), trivial⟩
  have hsm := small_any src [l] [(⟨A, l.length, c⟩ : Sv)] (some ⟨w.heap.size, 0, none⟩) 1 hsrc (by simp) (by simpa using HF.out.1) (by simpa using fun x hx => (HF.out.2 x hx).1) (w.alloc (.cells #[.slice A l.length c] 22)) (by simpa using hrs) (by simpa using hal)
  have HSM : Hid (Calls Try.prog 10 #[.string ⟨src.toArray⟩, .slice (some ⟨w.heap.size, 0, none⟩) 1 1] (w.alloc (.cells #[.slice A l.length c] 22)) fun e w' => e = .returned (.bool (smallB src [l])) ∧ (w.alloc (.cells #[.slice A l.length c] 22)) = w') := hsm
  clear hsm hrs hal
  cases hb : smallB src [l] with
  | false =>
    rw [hb] at HSM
    clear hb
    go_enter Try.func3, Try.ntmps3
    go_wp2_with fail
    refine HSM.out.mono ?_
    rintro e w1 ⟨rfl, rfl⟩
    go_wp2_with fail
    refine (awake_any _).mono ?_
    rintro e w2 ⟨rfl, hb2⟩
    go_wp2_with fail
    go_ret
    exact ⟨rfl, ((Below.refl _ _).alloc (Nat.le_refl _) _).trans (hb2.mono (by simp))⟩
  | true =>
    rw [hb] at HSM
    simp only [smallB, List.all_cons, List.all_nil, Bool.and_true, Bool.and_eq_true, decide_eq_true_eq] at hb
    obtain ⟨hsh, h300⟩ := hb
    obtain ⟨hsmall, h30, htx⟩ := short_small h300 hsh
    have HSML := Lib.hid hsmall
    have hr1 : EdsAt (w.alloc (.cells #[.slice A l.length c] 22)) w.heap.size A l := hr.alloc (Nat.le_refl _) _
    have hb1 : Below w.heap.size w (w.alloc (.cells #[.slice A l.length c] 22)) := (Below.refl _ _).alloc (Nat.le_refl _) _
    have hz1 : w.heap.size + 1 = (w.alloc (.cells #[.slice A l.length c] 22)).heap.size := by simp
    have HZ1 := Lib.hid hz1
    clear hsh hsmall hz1
    by_cases hv : chk src.length 0 (-1) l = 0
    · have HV := Lib.hid hv
      have HLAW := Lib.hid (Sp.apply_law src l hv)
      clear hv
      go_enter Try.func3, Try.ntmps3
      go_wp2_with fail
      refine HSM.out.mono ?_
      rintro e w1 ⟨rfl, rfl⟩
      generalize w.alloc (.cells #[.slice A l.length c] 22) = w1 at *
      have hz1 := HZ1.out
      go_wp2_with fail
      refine (apply_yes src l A c HSML.out _ (hr1.more (by omega)) HV.out).mono ?_
      rintro e w2 ⟨rfl, hb2⟩
      have hz2 := hb2.size
      have hr2 := hr1.below (hb2.mono (by omega))
      go_wp2_with fail
      refine (rcheck_any src.length A c l (by omega) _ (hr2.more (by omega))).mono ?_
      rw [HV.out]
      rintro e w3 ⟨rfl, hb3⟩
      have hz3 := hb3.size
      have hr3 := hr2.below (hb3.mono (by omega))
      go_wp2_with fail
      refine (check_list src A c l (by omega) (by omega) _ (hr3.more (by omega))).mono ?_
      rw [HV.out]
      rintro e w4 ⟨rfl, hb4⟩
      have hz4 := hb4.size
      have hr4 := hr3.below (hb4.mono (by omega))
      go_wp2_with fail
      refine (rcells_any src (by omega) _).mono ?_
      rintro e w5 ⟨v5, rfl, own5, hb5⟩
      have hz5 := hb5.size
      have hr5 := hr4.below (hb5.mono (by omega))
      obtain ⟨A5, c5, rfl, hc5, hcc⟩ := own5.form'
      have hcl := Sp.cells_len src
      have HCL := Lib.hid hcl
      clear hcl own5
      go_wp2_with fail
      refine (rsplice_any (Sp.cells src) l A5 A c5 c (by rw [HCL.out]; exact HV.out) hcc ?_ (by omega) _ hc5 (hr5.more (by omega))).mono ?_
      · rw [HCL.out]
        have : l.length * src.length ≤ 30 * 300 := Nat.mul_le_mul h30 h300
        omega
      rintro e w6 ⟨v6, rfl, own6, hb6⟩
      have hz6 := hb6.size
      obtain ⟨A6, c6, rfl, hr6⟩ := own6.form
      have hlen6 : (Sp.spl (Sp.cells src) l).length ≤ 1073741824 := by
        have h1 := Sp.splTo_len (Sp.cells src) 0 l
        rw [HCL.out] at h1
        have : l.length * src.length ≤ 30 * 300 := Nat.mul_le_mul h30 h300
        have h2 : ((Sp.cells src).drop (Sp.atTo 0 l).toNat).length ≤ src.length := by rw [List.length_drop, HCL.out]; omega
        unfold Sp.spl
        rw [List.length_append]
        omega
      go_wp2_with fail
      refine (rtext_any _ A6 c6 hlen6 _ hr6).mono ?_
      rw [HLAW.out]
      rintro e w7 ⟨rfl, hb7⟩
      have hz7 := hb7.size
      go_wp2_with fail
      refine (awake_any _).mono ?_
      rintro e w8 ⟨rfl, hb8⟩
      go_wp2_with fail
      go_ret
      refine ⟨rfl, ((((((hb1.trans (hb2.mono (by omega))).trans (hb3.mono (by omega))).trans (hb4.mono (by omega))).trans (hb5.mono (by omega))).trans (hb6.mono (by omega))).trans (hb7.mono (by omega))).trans (hb8.mono (by omega))⟩
    · have hv' : (chk src.length 0 (-1) l != 0) = true := by simpa using hv
      have hv2 : (chk src.length 0 (-1) l == 0) = false := by simpa using hv
      have HV := Lib.hid hv
      clear hv
      go_enter Try.func3, Try.ntmps3
      go_wp2_with fail
      refine HSM.out.mono ?_
      rintro e w1 ⟨rfl, rfl⟩
      generalize w.alloc (.cells #[.slice A l.length c] 22) = w1 at *
      have hz1 := HZ1.out
      go_wp2_with fail
      refine (apply_no src l A c HSML.out _ (hr1.more (by omega)) HV.out).mono ?_
      rintro e w2 ⟨rfl, hb2⟩
      have hz2 := hb2.size
      have hr2 := hr1.below (hb2.mono (by omega))
      go_wp2_with fail
      refine (rcheck_any src.length A c l (by omega) _ (hr2.more (by omega))).mono ?_
      rintro e w3 ⟨rfl, hb3⟩
      have hz3 := hb3.size
      have hr3 := hr2.below (hb3.mono (by omega))
      go_wp2_with fail
      refine (check_list src A c l (by omega) (by omega) _ (hr3.more (by omega))).mono ?_
      rintro e w4 ⟨rfl, hb4⟩
      have hz4 := hb4.size
      go_wp2_with fail
      refine (awake_any _).mono ?_
      rintro e w8 ⟨rfl, hb8⟩
      go_wp2_with fail
      go_ret
      exact ⟨rfl, (((hb1.trans (hb2.mono (by omega))).trans (hb3.mono (by omega))).trans (hb4.mono (by omega))).trans (hb8.mono (by omega))⟩
end Go.Proofs.Ytnnicjbceadnbaa
