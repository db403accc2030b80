/- Walks: swapRange, rotate. -/
import Derived.Test.YtnnicjbceadnbaaPlainK
import Derived.Outline
namespace Go.Proofs.Ytnnicjbceadnbaa
open Go.RowKit
open Sp (Ed Ce chk)
set_option maxHeartbeats 1000000 in
theorem swaprange_any (g cap N a b n : Nat) (P A B C S : List Ed) (rest : List Value) (w : World) (hAC : A.length = C.length) (hN : N = P.length + A.length + B.length + C.length + S.length) (hNl : N ≤ 1073741824)
    (ha : a = P.length) (hb : b = P.length + A.length + B.length) (hn : n = A.length) (hr : SRow w g (P ++ A ++ B ++ C ++ S) rest) :
    Calls Try.prog 46 #[.slice (some ⟨g, 0, none⟩) N cap, .int .i64 a, .int .i64 b, .int .i64 n, .func (Fn.func 35) #[] #[]] w fun e w' => e = .returned (.tuple #[]) ∧ SRow w' g (P ++ C ++ B ++ A ++ S) rest ∧ KeptBut' w w' (· = g) := by
  have HFULL : Hid (swk P A B C S n = P ++ C ++ B ++ A ++ S) := Lib.hid (by rw [hn]; exact swk_full P A B C S hAC)
  have H0 : Hid (SRow w g (swk P A B C S 0) rest) := Lib.hid (by rw [swk_zero]; exact hr)
  have HL : Hid (∀ k, k ≤ n → (swk P A B C S k).length = N) := Lib.hid fun k hk => by rw [swk_len P A B C S k hAC (by omega)]; omega
  have HG : Hid (∀ k, k < n → ∃ x y, (swk P A B C S k)[a + k]? = some x ∧ (swk P A B C S k)[b + k]? = some y ∧ ((swk P A B C S k).set (a + k) y).set (b + k) x = swk P A B C S (k + 1)) := Lib.hid fun k hk => by
    have hkA : k < A.length := by omega
    have hkC : k < C.length := by omega
    obtain ⟨g1, g2⟩ := swk_get P A B C S k hAC hkA
    refine ⟨A[k], C[k], by rw [ha, g1]; exact List.getElem?_eq_getElem hkA, by rw [hb, g2]; exact List.getElem?_eq_getElem hkC, ?_⟩
    rw [ha, hb]
    exact swk_succ P A B C S k _ _ hAC (List.getElem?_eq_getElem hkA) (List.getElem?_eq_getElem hkC)
  have hbn : b + n ≤ N := by omega
  have han : a + n ≤ b := by omega
  clear ha hb hn hN hAC hr
  generalize swk P A B C S = F at *
  go_enter Try.func46, Try.ntmps46
  go_wp2_with fail
  go_loopw [10] (fun i wr => ∃ k : Nat, k ≤ n ∧ i = .int .i64 k ∧ SRow wr g (F k) rest ∧ KeptBut' w wr (· = g)) (fun i _ => (n - intOf i).toNat)
  case atStart => exact ⟨0, by omega, by go_num, H0.out, KeptBut'.refl _ _⟩
  case round =>
    obtain ⟨k, hk, rfl, hS, hK⟩ := hrel
    by_cases hlt : k < n
    · obtain ⟨x, y, g1, g2, hset⟩ := HG.out k hlt
      have hl := HL.out k hk
      have HSET := Lib.hid hset
      clear hset
      generalize F k = L at *
      obtain ⟨i, hi⟩ : ∃ i, i = a + k := ⟨_, rfl⟩
      obtain ⟨j, hj⟩ : ∃ j, j = b + k := ⟨_, rfl⟩
      rw [← hi] at g1 HSET
      rw [← hj] at g2 HSET
      have hil : i < L.length := by omega
      have hjl : j < L.length := by omega
      obtain ⟨c1, c2, c3⟩ := hS.cell i hil
      obtain ⟨d1, d2, d3⟩ := hS.cell j hjl
      have hx : L[i] = x := by rw [List.getElem?_eq_getElem hil] at g1; injection g1
      have hy : L[j] = y := by rw [List.getElem?_eq_getElem hjl] at g2; injection g2
      rw [hx] at c1 c2 c3
      rw [hy] at d1 d2 d3
      have ff : ∀ z, wr.frozen? ⟨g, z, none⟩ = false := fun z => hS.frozen z
      have hga : g < wr.heap.size := hS.lt
      have s1 : IntKind.i64.wrap ((a : Int) + (k : Int)) = (i : Int) := by rw [IntWalk.i64_in _ (by omega)]; omega
      have s2 : IntKind.i64.wrap ((b : Int) + (k : Int)) = (j : Int) := by rw [IntWalk.i64_in _ (by omega)]; omega
      have b1 : (i : Int) < N := by omega
      have b2 : (j : Int) < N := by omega
      have HI := Lib.hid hi
      have HJ := Lib.hid hj
      have HLL := Lib.hid hl
      have hij : i ≠ j := by omega
      have HIL := Lib.hid hil
      have HJL := Lib.hid hjl
      clear hi hj hl g1 g2 hx hy hil hjl
      go_wp2_with fail
      go_region
      go_wp2_with fail
      go_roundw
      case rel =>
        refine ⟨k + 1, by omega, by go_num, ?_, ?_⟩
        · rw [← HSET.out]
          exact hS.swap i j HIL.out HJL.out x y
        · exact keep_set6 hK _ _ _ _ _ _ _ _ _ _ _ _
      case measure => simp [intOf] <;> omega
    · obtain rfl : k = n := by omega
      go_wp2_with fail
      go_end0
      exact ⟨rfl, by rw [← HFULL.out]; exact hS, hK⟩
theorem srow_len {w : World} {g : Nat} {l m : List Ed} {rest : List Value} (h : SRow w g l rest) (e : l = m) : SRow w g m rest := e ▸ h
set_option maxHeartbeats 1000000 in
theorem rotate_any (g cap N a m b : Nat) (P A B S : List Ed) (rest : List Value) (w : World) (hN : N = P.length + A.length + B.length + S.length) (hNl : N ≤ 1073741824)
    (ha : a = P.length) (hm : m = P.length + A.length) (hb : b = P.length + A.length + B.length) (hA : 0 < A.length) (hB : 0 < B.length) (hr : SRow w g (P ++ A ++ B ++ S) rest) :
    Calls Try.prog 45 #[.slice (some ⟨g, 0, none⟩) N cap, .int .i64 a, .int .i64 m, .int .i64 b, .func (Fn.func 35) #[] #[]] w fun e w' => e = .returned (.tuple #[]) ∧ SRow w' g (P ++ B ++ A ++ S) rest ∧ KeptBut' w w' (· = g) := by
  have h1 : (m : Int) - (a : Int) = (A.length : Nat) := by omega
  have h2 : (b : Int) - (m : Int) = (B.length : Nat) := by omega
  have hmN : m ≤ N := by omega
  have hbN : b ≤ N := by omega
  have ham : a ≤ m := by omega
  have hmb : m ≤ b := by omega
  obtain ⟨T, hT⟩ : ∃ T, T = P ++ B ++ A ++ S := ⟨_, rfl⟩
  rw [← hT]
  have H0 : Hid (∃ P' A' B' S', A'.length = A.length ∧ B'.length = B.length ∧ m = P'.length + A'.length ∧ N = P'.length + A'.length + B'.length + S'.length ∧ P' ++ B' ++ A' ++ S' = T ∧ SRow w g (P' ++ A' ++ B' ++ S') rest) := Lib.hid ⟨P, A, B, S, rfl, rfl, hm, hN, hT.symm, hr⟩
  clear hT hr ha hm hb
  generalize A.length = la at *
  generalize B.length = lb at *
  clear hN
  have HA : Hid (IntKind.i64.wrap ((m : Int) - (a : Int)) = (la : Int)) := Lib.hid (by rw [IntWalk.i64_in _ (by omega)]; exact h1)
  have HB : Hid (IntKind.i64.wrap ((b : Int) - (m : Int)) = (lb : Int)) := Lib.hid (by rw [IntWalk.i64_in _ (by omega)]; exact h2)
  have hlaN : la ≤ m := by omega
  have hlbN : lb ≤ b := by omega
  go_enter Try.func45, Try.ntmps45
  go_wp2_with fail
  go_loopw [10, 11] (fun i j wr => ∃ (x y : Nat) (P' A' B' S' : List Ed), i = .int .i64 x ∧ j = .int .i64 y ∧ 0 < x ∧ 0 < y ∧ A'.length = x ∧ B'.length = y ∧ m = P'.length + A'.length ∧ N = P'.length + A'.length + B'.length + S'.length ∧ P' ++ B' ++ A' ++ S' = T ∧ SRow wr g (P' ++ A' ++ B' ++ S') rest ∧ KeptBut' w wr (· = g)) (fun i j _ => (intOf i).toNat + (intOf j).toNat)
  case atStart =>
    obtain ⟨P', A', B', S', e1, e2, e3, e4, e5, e6⟩ := H0.out
    exact ⟨la, lb, P', A', B', S', by rw [← h1], by rw [← h2], hA, hB, e1, e2, e3, e4, e5, e6, KeptBut'.refl _ _⟩
  case round =>
    clear H0
    obtain ⟨x, y, P', A', B', S', rfl, rfl, hx, hy, e1, e2, e3, e4, e5, hS, hK⟩ := hrel
    have hxm : x ≤ m := by omega
    have hyN : m + y ≤ N := by omega
    have E3 := Lib.hid e3
    have E4 := Lib.hid e4
    have E5 := Lib.hid e5
    have E1 := Lib.hid e1
    have E2 := Lib.hid e2
    clear e1 e2 e3 e4 e5
    rcases Nat.lt_trichotomy x y with hxy | hxy | hxy
    · have hne : ((x : Int) != (y : Int)) = true := by simp; omega
      go_wp2_with fail
      have hsw := swaprange_any g cap N (m - x) (m + y - x) x P' A' (B'.take (y - x)) (B'.drop (y - x)) S' rest wr (by rw [List.length_drop, E1.out, E2.out]; omega) (by rw [List.length_drop, List.length_take, E4.out, E1.out, E2.out]; omega) hNl (by rw [E3.out, E1.out]; omega) (by rw [E3.out, E1.out, List.length_take, E2.out]; omega) E1.out.symm (by have := hS; rw [← List.take_append_drop (y - x) B'] at this; simpa using this)
      rw [show (((m - x : Nat)) : Int) = (m : Int) - (x : Int) from by omega, show (((m + y - x : Nat)) : Int) = (m : Int) + (y : Int) - (x : Int) from by omega] at hsw
      refine hsw.mono ?_
      rintro e w1 ⟨rfl, hS1, hK1⟩
      clear hsw
      go_wp2_with fail
      go_roundw
      case rel =>
        refine ⟨x, y - x, P', B'.drop (y - x), B'.take (y - x), A' ++ S', rfl, by go_num, hx, by omega, by rw [List.length_drop, E2.out]; omega, by rw [List.length_take, E2.out]; omega, by rw [E3.out, E1.out, List.length_drop, E2.out]; omega, by rw [E4.out, List.length_drop, List.length_take, List.length_append, E2.out]; omega, ?_, ?_, hK.trans hK1⟩
        · have := E5.out; rw [← List.take_append_drop (y - x) B'] at this; simpa using this
        · simpa using hS1
      case measure => simp [intOf]; omega
    · subst hxy
      go_wp2_with fail
      have hsw := swaprange_any g cap N (m - x) m x P' A' [] B' S' rest wr (by rw [E1.out, E2.out]) (by rw [E4.out]; simp) hNl (by rw [E3.out, E1.out]; omega) (by rw [E3.out, E1.out]; simp) E1.out.symm (by simpa using hS)
      rw [show (((m - x : Nat)) : Int) = (m : Int) - (x : Int) from by omega] at hsw
      refine hsw.mono ?_
      rintro e w1 ⟨rfl, hS1, hK1⟩
      clear hsw
      go_wp2_with fail
      go_end0
      exact ⟨rfl, by rw [← E5.out]; simpa using hS1, hK.trans hK1⟩
    · have hne : ((x : Int) != (y : Int)) = true := by simp; omega
      go_wp2_with fail
      have hsw := swaprange_any g cap N (m - x) m y P' (A'.take y) (A'.drop y) B' S' rest wr (by rw [List.length_take, E1.out, E2.out]; omega) (by rw [List.length_drop, List.length_take, E4.out, E1.out, E2.out]; omega) hNl (by rw [E3.out, E1.out]; omega) (by rw [E3.out, List.length_take, List.length_drop, E1.out]; omega) (by rw [List.length_take, E1.out]; omega) (by have := hS; rw [← List.take_append_drop y A'] at this; simpa using this)
      rw [show (((m - x : Nat)) : Int) = (m : Int) - (x : Int) from by omega] at hsw
      refine hsw.mono ?_
      rintro e w1 ⟨rfl, hS1, hK1⟩
      clear hsw
      go_wp2_with fail
      go_roundw
      case rel =>
        refine ⟨x - y, y, P' ++ B', A'.drop y, A'.take y, S', by go_num, rfl, by omega, hy, by rw [List.length_drop, E1.out], by rw [List.length_take, E1.out]; omega, by rw [E3.out, List.length_append, List.length_drop, E1.out, E2.out]; omega, by rw [E4.out, List.length_append, List.length_drop, List.length_take, E1.out, E2.out]; omega, ?_, ?_, hK.trans hK1⟩
        · have := E5.out; rw [← List.take_append_drop y A'] at this; simpa using this
        · simpa using hS1
      case measure => simp [intOf]; omega
end Go.Proofs.Ytnnicjbceadnbaa
