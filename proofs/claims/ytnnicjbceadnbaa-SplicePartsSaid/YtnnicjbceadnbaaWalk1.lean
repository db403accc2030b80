/- Walks: Check. -/
import Derived.Test.YtnnicjbceadnbaaWords
namespace Go.Proofs.Ytnnicjbceadnbaa
open Go.RowKit
open Sp (Ed chk)
theorem chk_cases (n : Int) (x : Ed) (e ii : Int) : x.f < 0 ∨ (0 ≤ x.f ∧ x.t < x.f) ∨ (0 ≤ x.f ∧ x.f ≤ x.t ∧ n < x.t) ∨ (0 ≤ x.f ∧ x.f ≤ x.t ∧ x.t ≤ n ∧ x.f < e) ∨
    (0 ≤ x.f ∧ x.f ≤ x.t ∧ x.t ≤ n ∧ e ≤ x.f ∧ x.f = x.t ∧ x.f = ii) ∨ (0 ≤ x.f ∧ x.f ≤ x.t ∧ x.t ≤ n ∧ e ≤ x.f ∧ x.f = x.t ∧ ¬ x.f = ii) ∨ (0 ≤ x.f ∧ x.f ≤ x.t ∧ x.t ≤ n ∧ e ≤ x.f ∧ ¬ x.f = x.t) := by omega
set_option maxHeartbeats 1000000 in
theorem check_any (src : ByteArray) (A : Option Addr) (c : Nat) (l : List Ed) (_hs : src.size ≤ maxLen) (hl : l.length ≤ maxLen) (w : World) (hr : EdsAt w w.heap.size A l) :
    Calls Try.prog 14 #[.string src, .slice A l.length c] w fun e w' => e = .returned (.int .i64 (chk src.size 0 (-1) l)) ∧ Below w.heap.size w w' := by
  unfold maxLen at hl
  go_enter Try.func14, Try.ntmps14
  go_wp2_with fail
  go_loopw [5, 6, 11] (fun en ins i wr => ∃ (k : Nat) (e ii : Int), k ≤ l.length ∧ i = .int .i64 k ∧ en = .int .i64 e ∧ ins = .int .i64 ii ∧ chk src.size 0 (-1) l = chk src.size e ii (l.drop k) ∧ Below w.heap.size w wr) (fun _ _ i _ => (l.length - intOf i).toNat)
  case atStart => exact ⟨0, 0, -1, by omega, rfl, rfl, rfl, rfl, Below.refl _ _⟩
  case round =>
    obtain ⟨k, e, ii, hk, rfl, rfl, rfl, hchk, hb⟩ := hrel
    have hz := hb.size
    have HC := Lib.hid hchk
    clear hchk
    by_cases hlt : k < l.length
    · obtain ⟨ad, rfl, hab, h1, h2, h3⟩ := EdsAt.at_ (hr.below hb) hlt
      have hdrop : l.drop k = l[k] :: l.drop (k + 1) := List.drop_eq_getElem_cons hlt
      generalize l[k] = x at *
      have HD := Lib.hid hdrop
      clear hdrop
      rcases chk_cases src.size x e ii with hc | ⟨a, hc⟩ | ⟨a, b, hc⟩ | ⟨a, b, d, hc⟩ | ⟨a, b, d, g, hc, hc'⟩ | ⟨a, b, d, g, hc, hc'⟩ | ⟨a, b, d, g, hc⟩
      · have hv : chk src.size e ii (x :: l.drop (k + 1)) = 2 := by simp [chk, hc]
        have HV := Lib.hid hv
        clear hv
        go_wp2_with fail
        go_ret
        exact ⟨ret_int (by rw [HC.out, HD.out, HV.out]), hb.alloc hz _⟩
      · have hv : chk src.size e ii (x :: l.drop (k + 1)) = 2 := by rw [chk, if_pos (by omega)]
        have HV := Lib.hid hv
        clear hv
        go_wp2_with fail
        go_ret
        exact ⟨ret_int (by rw [HC.out, HD.out, HV.out]), hb.alloc hz _⟩
      · have hv : chk src.size e ii (x :: l.drop (k + 1)) = 2 := by rw [chk, if_pos (by omega)]
        have HV := Lib.hid hv
        clear hv
        go_wp2_with fail
        go_ret
        exact ⟨ret_int (by rw [HC.out, HD.out, HV.out]), hb.alloc hz _⟩
      · have hv : chk src.size e ii (x :: l.drop (k + 1)) = 17 := by rw [chk, if_neg (by omega), if_pos (by omega)]
        have HV := Lib.hid hv
        clear hv
        go_wp2_with fail
        go_ret
        exact ⟨ret_int (by rw [HC.out, HD.out, HV.out]), hb.alloc hz _⟩
      · have hv : chk src.size e ii (x :: l.drop (k + 1)) = 17 := by rw [chk, if_neg (by omega), if_pos (by omega)]
        have b1 : (x.f == x.t) = true := by simpa using hc
        have b2 : (x.f == ii) = true := by simpa using hc'
        clear hc hc'
        have HV := Lib.hid hv
        clear hv
        go_wp2_with fail
        go_ret
        exact ⟨ret_int (by rw [HC.out, HD.out, HV.out]), hb.alloc hz _⟩
      · have hv : chk src.size e ii (x :: l.drop (k + 1)) = chk src.size x.t x.f (l.drop (k + 1)) := by rw [chk, if_neg (by omega), if_neg (by omega), if_pos (by omega)]
        have b1 : (x.f == x.t) = true := by simpa using hc
        have b2 : (x.f == ii) = false := by simpa using hc'
        clear hc hc'
        have HV := Lib.hid hv
        clear hv
        go_wp2_with fail
        go_roundw
        case rel => exact ⟨k + 1, x.t, x.f, by omega, by go_num, rfl, rfl, by rw [HC.out, HD.out, HV.out], hb.alloc hz _⟩
        case measure => simp [intOf]; omega
      · have hv : chk src.size e ii (x :: l.drop (k + 1)) = chk src.size x.t (-1) (l.drop (k + 1)) := by rw [chk, if_neg (by omega), if_neg (by omega), if_neg (by omega)]
        have b1 : (x.f == x.t) = false := by simpa using hc
        clear hc
        have HV := Lib.hid hv
        clear hv
        go_wp2_with fail
        go_roundw
        case rel => exact ⟨k + 1, x.t, -1, by omega, by go_num, rfl, rfl, by rw [HC.out, HD.out, HV.out], hb.alloc hz _⟩
        case measure => simp [intOf]; omega
    · go_wp2_with fail
      go_ret
      exact ⟨ret_int (by rw [HC.out, List.drop_eq_nil_of_le (by omega)]; rfl), hb⟩
end Go.Proofs.Ytnnicjbceadnbaa
