/- The walk of SpliceMoves. -/
import Derived.Test.YtnnicjbceadnbaaLawA
import Derived.Test.YtnnicjbceadnbaaPlainG
import Derived.StillTailTactics
namespace Go.Proofs.Ytnnicjbceadnbaa
open Go.RowKit
open Sp (Ed chk)
theorem str_size' (l : List UInt8) : (⟨l.toArray⟩ : ByteArray).size = l.length := by simp [ByteArray.size]
theorem moved_val (l : List Ed) (off : Int) (n : Int) (ok : Bool)
    (h : (ok = true ∧ 0 ≤ off ∧ chk topI 0 (-1) l = 0 ∧ Sp.inside off l = false ∧ n = off + Sp.shift off l) ∨ (ok = false ∧ n = 0 ∧ (off < 0 ∨ chk topI 0 (-1) l ≠ 0 ∨ Sp.inside off l = true))) :
    (ok = true ∧ 0 ≤ off ∧ Sp.inside off l = false ∧ n = off + Sp.shift off l ∧ moved l off = n ∧ 0 ≤ n) ∨ (ok = false ∧ n = 0 ∧ moved l off = -1) := by
  rcases h with ⟨h1, h2, h3, h4, h5⟩ | ⟨h1, h2, h3⟩
  · have := Sp.move_pos l off h3 h2 h4
    exact .inl ⟨h1, h2, h4, h5, by rw [moved_yes h2 h3 h4, h5], by omega⟩
  · exact .inr ⟨h1, h2, by unfold moved; rw [if_pos h3]⟩
set_option maxHeartbeats 2000000 in
theorem law_moves (src : List UInt8) (l : List Ed) (A : Option Addr) (c : Nat) (off : Int) (hsrc : src.length ≤ 9223372036854775807) (hf : Fits l) (w : World) (hr : EdsAt w w.heap.size A l) :
    Calls Try.prog 5 #[.string ⟨src.toArray⟩, .slice A l.length c, .int .i64 off] w fun e w' => e = .returned (.bool true) ∧ Below w.heap.size w w' := by
  have HF := Lib.hid hf
  clear hf
  have hrs : RowAt svL (w.alloc (.cells #[.slice A l.length c] 22)) (w.heap.size + 1) (some ⟨w.heap.size, 0, none⟩) [(⟨A, l.length, c⟩ : Sv)] := RowAt.lit1 _ _ rfl _ rfl
  have hal : AllAt (w.alloc (.cells #[.slice A l.length c] 22)) (w.heap.size + 1) [(⟨A, l.length, c⟩ : Sv)] [l] := ⟨rfl, (hr.alloc (Nat.le_refl _) _).more (by omega), trivial⟩
  have hsm := small_any src [l] [(⟨A, l.length, c⟩ : Sv)] (some ⟨w.heap.size, 0, none⟩) 1 hsrc (by simp) (by simpa using HF.out.1) (by simpa using fun x hx => (HF.out.2 x hx).1) (w.alloc (.cells #[.slice A l.length c] 22)) (by simpa using hrs) (by simpa using hal)
  have HSM : Hid (Calls Try.prog 10 #[.string ⟨src.toArray⟩, .slice (some ⟨w.heap.size, 0, none⟩) 1 1] (w.alloc (.cells #[.slice A l.length c] 22)) fun e w' => e = .returned (.bool (smallB src [l])) ∧ (w.alloc (.cells #[.slice A l.length c] 22)) = w') := hsm
  clear hsm hrs hal
  by_cases hbig : 1099511627776 < off ∨ smallB src [l] = false
  · cases hb : smallB src [l] with
    | false =>
      rw [hb] at HSM
      clear hb hbig
      go_enter Try.func5, Try.ntmps5
      go_wp2_with fail
      refine HSM.out.mono ?_
      rintro e w1 ⟨rfl, rfl⟩
      go_wp2_with fail
      refine (awake_any _).mono ?_
      rintro e w2 ⟨rfl, hb2⟩
      go_wp2_with fail
      go_ret
      exact ⟨rfl, ((Below.refl _ _).alloc (Nat.le_refl _) _).trans (hb2.mono (by simp))⟩
    | true =>
      rw [hb] at HSM
      have hbig : 1099511627776 < off := by rcases hbig with h | h; exact h; rw [hb] at h; cases h
      clear hb
      go_enter Try.func5, Try.ntmps5
      go_wp2_with fail
      refine HSM.out.mono ?_
      rintro e w1 ⟨rfl, rfl⟩
      go_wp2_with fail
      refine (awake_any _).mono ?_
      rintro e w2 ⟨rfl, hb2⟩
      go_wp2_with fail
      go_ret
      exact ⟨rfl, ((Below.refl _ _).alloc (Nat.le_refl _) _).trans (hb2.mono (by simp))⟩
  · have hoff : off ≤ 1099511627776 := by omega
    have hb : smallB src [l] = true := by
      cases h : smallB src [l] with
      | true => rfl
      | false => exact absurd (.inr h) hbig
    clear hbig
    rw [hb] at HSM
    simp only [smallB, List.all_cons, List.all_nil, Bool.and_true, Bool.and_eq_true, decide_eq_true_eq] at hb
    obtain ⟨hsh, h300⟩ := hb
    obtain ⟨hsmall, h30, htx⟩ := short_small h300 hsh
    have hxs : ∀ x ∈ l, x.t ≤ 9223372036854775807 ∧ x.s.length ≤ 1073741824 := by
      simp only [shortB, Bool.and_eq_true, decide_eq_true_eq, List.all_eq_true] at hsh
      intro x hx
      exact ⟨(HF.out.2 x hx).2, by have := hsh.2 x hx; omega⟩
    have HXS := Lib.hid hxs
    clear hxs
    have HSML := Lib.hid hsmall
    have hr1 : EdsAt (w.alloc (.cells #[.slice A l.length c] 22)) w.heap.size A l := hr.alloc (Nat.le_refl _) _
    have hb1 : Below w.heap.size w (w.alloc (.cells #[.slice A l.length c] 22)) := (Below.refl _ _).alloc (Nat.le_refl _) _
    have hz1 : w.heap.size + 1 = (w.alloc (.cells #[.slice A l.length c] 22)).heap.size := by simp
    have HZ1 := Lib.hid hz1
    clear hsh hsmall hz1
    go_enter Try.func5, Try.ntmps5
    go_wp2_with fail
    refine HSM.out.mono ?_
    rintro e w1 ⟨rfl, rfl⟩
    generalize w.alloc (.cells #[.slice A l.length c] 22) = w1 at *
    have hz1 := HZ1.out
    go_wp2_with fail
    refine (move_any l A c off (by omega) hoff HXS.out _ (hr1.more (by omega))).mono ?_
    rintro e w2 ⟨n, ok, rfl, hb2, hm⟩
    have hm := moved_val l off n ok hm
    have hz2 := hb2.size
    have hr2 := hr1.below (hb2.mono (by omega))
    go_wp2_with fail
    refine (rmove_any l A c off (by omega) hoff (fun x hx => (HXS.out x hx).2) _ (hr2.more (by omega))).mono ?_
    rintro e w3 ⟨rfl, hb3⟩
    have hz3 := hb3.size
    have hr3 := hr2.below (hb3.mono (by omega))
    have hbb3 := (hb1.trans (hb2.mono (by omega))).trans (hb3.mono (by omega))
    rcases hm with ⟨rfl, hm1, hm2, hm3, hm4, hm5⟩ | ⟨rfl, rfl, hm4⟩
    · rw [hm4]
      have HM2 := Lib.hid hm2
      have HM3 := Lib.hid hm3
      clear hm2 hm3 hm4
      by_cases hv : chk src.length 0 (-1) l = 0
      · have HV := Lib.hid hv
        go_wp2_with fail
        refine (apply_yes src l A c HSML.out _ (hr3.more (by omega)) HV.out).mono ?_
        rintro e w4 ⟨rfl, hb4⟩
        have hz4 := hb4.size
        have HB := Lib.hid (Sp.move_byte src l off HV.out hm1 HM2.out)
        have HE : Hid ((src.length : Int) + Sp.shift src.length l = (Sp.asm src (pieces src l)).length) := Sp.move_end src l HV.out
        by_cases hlt : (src.length : Int) < off
        · go_wp2_with fail
          refine (awake_any _).mono ?_
          rintro e w8 ⟨rfl, hb8⟩
          go_wp2_with fail
          go_ret
          exact ⟨rfl, (hbb3.trans (hb4.mono (by omega))).trans (hb8.mono (by omega))⟩
        · by_cases heq : off = src.length
          · have hl2 : n = (Sp.asm src (pieces src l)).length := by
              have h1 := HE.out
              rw [← heq, ← HM3.out] at h1
              exact h1
            subst heq
            go_wp2_with fail
            refine (awake_any _).mono ?_
            rintro e w8 ⟨rfl, hb8⟩
            go_wp2_with fail
            go_ret
            exact ⟨rfl, (hbb3.trans (hb4.mono (by omega))).trans (hb8.mono (by omega))⟩
          · have hlt2 : off < src.length := by omega
            obtain ⟨hn, hb⟩ := HB.out hlt2
            change (off + Sp.shift off l).toNat < (Sp.asm src (pieces src l)).length at hn
            change (Sp.asm src (pieces src l))[(off + Sp.shift off l).toNat] = _ at hb
            generalize off + Sp.shift off l = m at hn hb HM3
            obtain rfl : n = m := HM3.out
            clear HM3 HB HE heq
            generalize Sp.asm src (pieces src l) = T at *
            have hlt3 : (n : Int) < T.length := by omega
            generalize hb' : T[n.toNat] = tb at hb
            have hto : off.toNat < src.length := by omega
            generalize hb'' : src[off.toNat] = sb at hb
            subst hb
            have hEQ : (((⟨T.toArray⟩ : ByteArray)[n.toNat]'(by rw [str_size']; exact hn)).toNat : Int) = (((⟨src.toArray⟩ : ByteArray)[off.toNat]'(by rw [str_size']; exact hto)).toNat : Int) := by
              have h1 : (⟨T.toArray⟩ : ByteArray)[n.toNat]'(by rw [str_size']; exact hn) = T[n.toNat] := rfl
              have h2 : (⟨src.toArray⟩ : ByteArray)[off.toNat]'(by rw [str_size']; exact hto) = src[off.toNat] := rfl
              rw [h1, h2, hb', hb'']
            go_wp2_with fail
            go_still_tail 14, (by kernel_rfl)
            change wpList _ _ _ _ _ w4.drew
            go_wp2_with fail
            refine (awake_any _).mono ?_
            rintro e w8 ⟨rfl, hb8⟩
            go_wp2_with fail
            go_ret
            exact ⟨rfl, (hbb3.trans (hb4.drew.mono (by omega))).trans (hb8.mono (by simp; omega))⟩
      · have hv' : (chk src.length 0 (-1) l != 0) = true := by simpa using hv
        have HV := Lib.hid hv
        clear hv
        go_wp2_with fail
        refine (apply_no src l A c HSML.out _ (hr3.more (by omega)) HV.out).mono ?_
        rintro e w4 ⟨rfl, hb4⟩
        have hz4 := hb4.size
        go_wp2_with fail
        refine (awake_any _).mono ?_
        rintro e w8 ⟨rfl, hb8⟩
        go_wp2_with fail
        go_ret
        exact ⟨rfl, (hbb3.trans (hb4.mono (by omega))).trans (hb8.mono (by omega))⟩
    · rw [hm4]
      clear hm4
      by_cases hv : chk src.length 0 (-1) l = 0
      · have HV := Lib.hid hv
        clear hv
        go_wp2_with fail
        refine (apply_yes src l A c HSML.out _ (hr3.more (by omega)) HV.out).mono ?_
        rintro e w4 ⟨rfl, hb4⟩
        have hz4 := hb4.size
        go_wp2_with fail
        refine (awake_any _).mono ?_
        rintro e w8 ⟨rfl, hb8⟩
        go_wp2_with fail
        go_ret
        exact ⟨rfl, (hbb3.trans (hb4.mono (by omega))).trans (hb8.mono (by omega))⟩
      · have hv' : (chk src.length 0 (-1) l != 0) = true := by simpa using hv
        have HV := Lib.hid hv
        clear hv
        go_wp2_with fail
        refine (apply_no src l A c HSML.out _ (hr3.more (by omega)) HV.out).mono ?_
        rintro e w4 ⟨rfl, hb4⟩
        have hz4 := hb4.size
        go_wp2_with fail
        refine (awake_any _).mono ?_
        rintro e w8 ⟨rfl, hb8⟩
        go_wp2_with fail
        go_ret
        exact ⟨rfl, (hbb3.trans (hb4.mono (by omega))).trans (hb8.mono (by omega))⟩
end Go.Proofs.Ytnnicjbceadnbaa
