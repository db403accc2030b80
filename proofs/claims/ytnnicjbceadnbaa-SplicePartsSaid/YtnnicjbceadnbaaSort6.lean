/- Walks: symMerge onto one element; stepping parts. -/
import Derived.Test.YtnnicjbceadnbaaSort5
namespace Go.Proofs.Ytnnicjbceadnbaa
open Go.RowKit
open Sp (Ed Ce chk)
theorem ins_right {X : List Ed} {y : Ed} {s : Nat} (hX : Srt X) (hs : s ≤ X.length) (h1 : s = 0 ∨ ∃ x, X[s - 1]? = some x ∧ leEd x y) (h2 : s = X.length ∨ ∃ x, X[s]? = some x ∧ leEd y x) : Srt (X.take s ++ y :: X.drop s) :=
  ins_left hX hs h1 h2
set_option maxRecDepth 100000 in
set_option maxHeartbeats 2000000 in
theorem symm_right (g cap N a m b : Nat) (P X S : List Ed) (y : Ed) (rest : List Value) (w : World) (hN : N = P.length + X.length + 1 + S.length) (hNl : N ≤ 1073741824) (h2X : 2 ≤ X.length)
    (ha : a = P.length) (hm : m = P.length + X.length) (hb : b = P.length + X.length + 1) (sX : Srt X) (hr : SRow w g (P ++ X ++ y :: S) rest) :
    Calls Try.prog 44 #[.slice (some ⟨g, 0, none⟩) N cap, .int .i64 a, .int .i64 m, .int .i64 b, .func (Fn.func 35) #[] #[]] w fun e w' => e = .returned (.tuple #[]) ∧ Sorted w w' g P X [y] S rest := by
  have HGY : Hid (∀ k, k < X.length → ∃ x, X[k]? = some x ∧ (P ++ X ++ y :: S)[a + k]? = some x) := Lib.hid fun k hk => by
    refine ⟨X[k], List.getElem?_eq_getElem hk, ?_⟩
    rw [ha, get_mid hk]
    exact List.getElem?_eq_getElem hk
  have HGX : Hid ((P ++ X ++ y :: S)[m]? = some y) := Lib.hid (by rw [hm, List.getElem?_append_right (by rw [List.length_append]; omega), List.length_append, Nat.sub_self]; rfl)
  have HLL : Hid ((P ++ X ++ y :: S).length = N) := Lib.hid (by simp; omega)
  have HM0 : Hid (mov P y X S X.length = P ++ X ++ y :: S) := Lib.hid (by simp [mov])
  have HMF : Hid (∀ t, t < X.length → _) := Lib.hid fun t ht => mov_facts P y X S t ht
  have HML : Hid (∀ t, t ≤ X.length → (mov P y X S t).length = N) := Lib.hid fun t ht => by rw [mov_len P y X S t ht]; omega
  have HE : Hid (∀ t, t ≤ X.length → mov P y X S t = P ++ (X.take t ++ y :: X.drop t) ++ S) := Lib.hid fun t ht => by simp [mov]
  have HSX := Lib.hid sX
  have hbm : (b : Int) - (m : Int) = 1 := by omega
  have hma : ((m : Int) - (a : Int) == 1) = false := by
    have : ¬ ((m : Int) - (a : Int) = 1) := by omega
    simpa using this
  have hma1 : m ≤ a + X.length := by omega
  have hma2 : a + X.length ≤ m := by omega
  have hb1 : b ≤ m + 1 := by omega
  have hb2 : m + 1 ≤ b := by omega
  have hbN : b ≤ N := by omega
  have HP := Lib.hid ha
  clear ha hm hb hN sX
  generalize P ++ X ++ y :: S = L at *
  go_enter Try.func44, Try.ntmps44
  go_wp2_with fail
  go_loopw [14, 15] (fun i j wr => ∃ lo hi : Nat, i = .int .i64 lo ∧ j = .int .i64 hi ∧ a ≤ lo ∧ lo ≤ hi ∧ hi ≤ m ∧ Hid (lo = a ∨ ∃ x, L[lo - 1]? = some x ∧ leEd x y) ∧ Hid (hi = m ∨ ∃ x, L[hi]? = some x ∧ leEd y x) ∧ SRow wr g L rest ∧ KeptBut' w wr (· = g)) (fun i j _ => (intOf j).toNat - (intOf i).toNat)
  case atStart => exact ⟨a, m, rfl, rfl, by omega, by omega, by omega, Lib.hid (.inl rfl), Lib.hid (.inl rfl), hr, KeptBut'.refl _ _⟩
  case round =>
    obtain ⟨lo, hi, rfl, rfl, h1, h2, h3, HLO, HHI, hS, hK⟩ := hrel
    by_cases hlt : lo < hi
    · obtain ⟨h, hh⟩ : ∃ h, h = (lo + hi) / 2 := ⟨_, rfl⟩
      have hI : ((lo : Int) + (hi : Int)) / 2 = (h : Int) := by omega
      have q1 : lo ≤ h := by omega
      have q2 : h < hi := by omega
      have HI := Lib.hid hI
      clear hI hh
      obtain ⟨x, hy1, hy2⟩ := HGY.out (h - a) (by omega)
      rw [show a + (h - a) = h from by omega] at hy2
      have hl := HLL.out
      have hgx := HGX.out
      obtain ⟨c1, c2, c3⟩ := hS.cell h (by omega)
      obtain ⟨d1, d2, d3⟩ := hS.cell m (by omega)
      have ex : L[m]'(by omega) = y := by rw [List.getElem?_eq_getElem (by omega)] at hgx; injection hgx
      have ey : L[h]'(by omega) = x := by rw [List.getElem?_eq_getElem (by omega)] at hy2; injection hy2
      rw [ex] at d1 d2 d3
      rw [ey] at c1 c2 c3
      have HY := Lib.hid hy2
      clear ex ey hl hgx hy1 hy2
      have hga : g < wr.heap.size := hS.lt
      have b0 : (0 : Int) ≤ (h : Int) := by omega
      have b1 : (h : Int) < N := by omega
      have b2 : (m : Int) < N := by omega
      go_wp2_with fail
      rw [HI.out]
      go_region_held3 (fun w' => w'.cell? ⟨g, h * 3, none⟩ = some (.int .i64 x.f) ∧ w'.cell? ⟨g, h * 3 + 1, none⟩ = some (.int .i64 x.t) ∧ w'.cell? ⟨g, h * 3 + 2, none⟩ = some (.string ⟨x.s.toArray⟩) ∧ w'.cell? ⟨g, m * 3, none⟩ = some (.int .i64 y.f) ∧ w'.cell? ⟨g, m * 3 + 1, none⟩ = some (.int .i64 y.t) ∧ w'.cell? ⟨g, m * 3 + 2, none⟩ = some (.string ⟨y.s.toArray⟩))
        (first | go_keep | exact ⟨(hbc.cell (p := ⟨g, h * 3, none⟩) hga).trans c1, (hbc.cell (p := ⟨g, h * 3 + 1, none⟩) hga).trans c2, (hbc.cell (p := ⟨g, h * 3 + 2, none⟩) hga).trans c3, (hbc.cell (p := ⟨g, m * 3, none⟩) hga).trans d1, (hbc.cell (p := ⟨g, m * 3 + 1, none⟩) hga).trans d2, (hbc.cell (p := ⟨g, m * 3 + 2, none⟩) hga).trans d3⟩)
        ((go_at_call 35; refine (joincmp_any y x _).mono ?_; rintro e w' ⟨rfl, hbc⟩))
      obtain ⟨w3, hw3⟩ : ∃ w3 : World, w3 = w' := ⟨_, rfl⟩
      subst hw3
      have hS3 : SRow w3 g L rest := (hbc.block g hga).trans hS
      have hK3 : KeptBut' w w3 (· = g) := (hK.drew).later hbc
      clear c1 c2 c3 d1 d2 d3 hbc hS hK
      go_wp2_with fail
      · have hq : (!decide (cmpEd y x < 0)) = true := by assumption
        have HC : Hid (leEd x y) := Lib.hid (cmp_ge _ _ (by simpa using hq))
        go_roundw
        case rel => exact ⟨h + 1, hi, by go_num, rfl, by omega, by omega, by omega, Lib.hid (.inr ⟨x, HY.out, HC.out⟩), HHI, hS3, hK3⟩
        case measure => simp [intOf]; omega
      · have hq : (!decide (cmpEd y x < 0)) = false := by assumption
        have HC : Hid (leEd y x) := Lib.hid (cmp_lt _ _ (by simpa using hq))
        go_roundw
        case rel => exact ⟨lo, h, rfl, rfl, by omega, by omega, by omega, HLO, Lib.hid (.inr ⟨x, HY.out, HC.out⟩), hS3, hK3⟩
        case measure => simp [intOf]; omega
    · obtain rfl : hi = lo := by omega
      clear hlt
      have HS := Lib.hid hS
      have HK := Lib.hid hK
      clear hS hK
      go_wp2_with fail
      obtain ⟨wo, hwo⟩ : ∃ wo : World, wo = wr := ⟨_, rfl⟩
      subst hwo
      go_loopw [17] (fun k wr => ∃ t : Nat, t ≤ X.length ∧ hi ≤ a + t ∧ k = .int .i64 ((a + t : Nat) : Int) ∧ SRow wr g (mov P y X S t) rest ∧ KeptBut' w wr (· = g)) (fun k _ => (intOf k).toNat)
      case atStart => exact ⟨X.length, by omega, by omega, by rw [show a + X.length = m from by omega], by rw [HM0.out]; exact HS.out, HK.out⟩
      case round =>
        obtain ⟨t, ht, ht2, rfl, hS, hK⟩ := hrel
        by_cases hlt : hi < a + t
        · obtain ⟨t, rfl⟩ : ∃ t', t = t' + 1 := ⟨t - 1, by omega⟩
          obtain ⟨i, hi'⟩ : ∃ i, i = a + t := ⟨_, rfl⟩
          have hcast : ((a + (t + 1) : Nat) : Int) = (i : Int) + 1 := by omega
          rw [hcast]
          have hi1 : i ≤ a + t := by omega
          have hi2 : a + t ≤ i := by omega
          have HI := Lib.hid hi'
          clear hi' hcast
          obtain ⟨x, hy0, _, _, g1, g2, _, hset⟩ := HMF.out t (by omega)
          have hl := HML.out (t + 1) (by omega)
          have hp := HP.out
          rw [show P.length + t = i from by rw [← hp]; omega] at g1 g2 hset
          have HSET := Lib.hid hset
          generalize mov P y X S (t + 1) = M at *
          obtain ⟨c1, c2, c3⟩ := hS.cell i (by omega)
          obtain ⟨d1, d2, d3⟩ := hS.cell (i + 1) (by omega)
          have ex : M[i]'(by omega) = x := by rw [List.getElem?_eq_getElem (by omega)] at g1; injection g1
          have ey : M[i + 1]'(by omega) = y := by rw [List.getElem?_eq_getElem (by omega)] at g2; injection g2
          rw [ex] at c1 c2 c3
          rw [ey] at d1 d2 d3
          have HL := Lib.hid hl
          clear hset g1 g2 ex ey hl hp hy0
          have ff : ∀ z, wr.frozen? ⟨g, z, none⟩ = false := fun z => hS.frozen z
          have hga : g < wr.heap.size := hS.lt
          have b0 : (0 : Int) ≤ (i : Int) + 1 := by omega
          have b1 : (i : Int) + 1 < N := by omega
          have b2 : (i : Int) < N := by omega
          have b3 : (hi : Int) < (i : Int) + 1 := by omega
          have s1 : IntKind.i64.wrap ((i : Int) + 1 - 1) = (i : Int) := by rw [IntWalk.i64_in _ (by omega)]; omega
          have s2 : IntKind.i64.wrap (i : Int) = (i : Int) := IntWalk.i64_in _ (by omega)
          have t1 : ((i : Int) + 1).toNat = i + 1 := by omega
          go_wp2_with fail
          go_region
          go_wp2_with fail
          go_roundw
          case rel =>
            refine ⟨t, by omega, by omega, by have := HI.out; subst this; go_num, ?_, keep_set6 hK _ _ _ _ _ _ _ _ _ _ _ _⟩
            rw [← HSET.out]
            exact hS.swap (i + 1) i (by rw [HL.out]; omega) (by rw [HL.out]; omega) y x
          case measure => simp [intOf] <;> omega
        · have hti1 : a + t ≤ hi := by omega
          have hx1 : ((a + t : Nat) : Int) ≤ (hi : Int) := by omega
          go_wp2_with fail
          refine bodyPost_ret (results_none rfl _ _ _) rfl ?_
          refine ⟨rfl, X.take t ++ y :: X.drop t, ?_, ?_, ?_, hK⟩
          · rw [← HE.out t (by omega)]; exact hS
          · refine List.perm_middle.trans ?_
            rw [List.take_append_drop]; exact List.perm_append_comm (l₁ := [y])
          · refine ins_left HSX.out (by omega) ?_ ?_
            · by_cases h0 : hi = a
              · exact .inl (by omega)
              · rcases HLO.out with h | ⟨x, k1, k2⟩
                · exact absurd h h0
                · obtain ⟨y', e1, e2⟩ := HGY.out (t - 1) (by omega)
                  rw [show a + (t - 1) = hi - 1 from by omega, k1] at e2
                  exact .inr ⟨x, by rw [e1, e2], k2⟩
            · by_cases h0 : hi = m
              · exact .inl (by omega)
              · rcases HHI.out with h | ⟨x, k1, k2⟩
                · exact absurd h h0
                · obtain ⟨y', e1, e2⟩ := HGY.out t (by omega)
                  rw [show a + t = hi from by omega, k1] at e2
                  exact .inr ⟨x, by rw [e1, e2], k2⟩
end Go.Proofs.Ytnnicjbceadnbaa
