/- Walks: symMerge, whole. -/
import Derived.Test.YtnnicjbceadnbaaSort6
import Derived.Deep.DeepCutAuto
namespace Go.Proofs.Ytnnicjbceadnbaa
open Go.RowKit
open Sp (Ed Ce chk)
/-- symMerge at two runs of at most k elements. -/
def SymAt (k : Nat) : Prop := ∀ (g cap N a m b : Nat) (P X Y S : List Ed) (rest : List Value) (w : World), N = P.length + X.length + Y.length + S.length → N ≤ 1073741824 → X.length + Y.length ≤ k → 0 < X.length → 0 < Y.length →
  a = P.length → m = P.length + X.length → b = P.length + X.length + Y.length → Srt X → Srt Y → SRow w g (P ++ X ++ Y ++ S) rest →
  Calls Try.prog 44 #[.slice (some ⟨g, 0, none⟩) N cap, .int .i64 a, .int .i64 m, .int .i64 b, .func (Fn.func 35) #[] #[]] w fun e w' => e = .returned (.tuple #[]) ∧ Sorted w w' g P X Y S rest
set_option maxRecDepth 100000 in
set_option maxHeartbeats 4000000 in
theorem symm_main (g cap N a m b : Nat) (P X Y S : List Ed) (rest : List Value) (w : World) (hN : N = P.length + X.length + Y.length + S.length) (hNl : N ≤ 1073741824) (h2X : 2 ≤ X.length) (h2Y : 2 ≤ Y.length)
    (ih : SymAt (X.length + Y.length - 1))
    (ha : a = P.length) (hm : m = P.length + X.length) (hb : b = P.length + X.length + Y.length) (sX : Srt X) (sY : Srt Y) (hr : SRow w g (P ++ X ++ Y ++ S) rest) :
    Calls Try.prog 44 #[.slice (some ⟨g, 0, none⟩) N cap, .int .i64 a, .int .i64 m, .int .i64 b, .func (Fn.func 35) #[] #[]] w fun e w' => e = .returned (.tuple #[]) ∧ Sorted w w' g P X Y S rest := by
  have HGX : Hid (∀ k, k < X.length → ∃ x, X[k]? = some x ∧ (P ++ X ++ Y ++ S)[a + k]? = some x) := Lib.hid fun k hk => by
    refine ⟨X[k], List.getElem?_eq_getElem hk, ?_⟩
    rw [show P ++ X ++ Y ++ S = P ++ X ++ (Y ++ S) from by simp, ha, get_mid hk]
    exact List.getElem?_eq_getElem hk
  have HGY : Hid (∀ k, k < Y.length → ∃ y, Y[k]? = some y ∧ (P ++ X ++ Y ++ S)[m + k]? = some y) := Lib.hid fun k hk => by
    refine ⟨Y[k], List.getElem?_eq_getElem hk, ?_⟩
    rw [hm, ← List.length_append, get_mid hk]
    exact List.getElem?_eq_getElem hk
  have HLL : Hid ((P ++ X ++ Y ++ S).length = N) := Lib.hid (by simp; omega)
  have HIH := Lib.hid ih
  have HSX := Lib.hid sX
  have HSY := Lib.hid sY
  have HL : Hid (P ++ X ++ Y ++ S = P ++ X ++ Y ++ S) := Lib.hid rfl
  have hbm : ((b : Int) - (m : Int) == 1) = false := by
    have : ¬ ((b : Int) - (m : Int) = 1) := by omega
    simpa using this
  have hma : ((m : Int) - (a : Int) == 1) = false := by
    have : ¬ ((m : Int) - (a : Int) = 1) := by omega
    simpa using this
  have hma1 : m ≤ a + X.length := by omega
  have hma2 : a + X.length ≤ m := by omega
  have hb1 : b ≤ m + Y.length := by omega
  have hb2 : m + Y.length ≤ b := by omega
  have hbN : b ≤ N := by omega
  have HP := Lib.hid ha
  have HNN := Lib.hid hN
  clear ha hm hb hN sX sY ih
  generalize hLL : P ++ X ++ Y ++ S = L at HGX HGY HLL hr
  have HLdef := Lib.hid hLL
  clear hLL HL
  obtain ⟨mid, hmid⟩ : ∃ mid, mid = (a + b) / 2 := ⟨_, rfl⟩
  have hmI : ((a : Int) + (b : Int)) / 2 = (mid : Int) := by omega
  have hmid1 : a < mid := by omega
  have hmid2 : mid < b := by omega
  have hmid3 : 2 * mid ≤ a + b := by omega
  have hmid4 : a + b ≤ 2 * mid + 1 := by omega
  clear hmid
  obtain ⟨n, hn⟩ : ∃ n, n = mid + m := ⟨_, rfl⟩
  have hnI : (mid : Int) + (m : Int) = (n : Int) := by omega
  have hn1 : n ≤ mid + m := by omega
  have hn2 : mid + m ≤ n := by omega
  obtain ⟨pp, hpp⟩ : ∃ pp, pp = n - 1 := ⟨_, rfl⟩
  have hpI : (n : Int) - 1 = (pp : Int) := by omega
  have hp1 : n ≤ pp + 1 := by omega
  have hp2 : pp + 1 ≤ n := by omega
  clear hn hpp
  go_enter Try.func44, Try.ntmps44
  go_upto_if 140 with (fail)
  go_cut [20, 21] (fun s r wx => ∃ s0 r0 : Nat, s = .int .i64 s0 ∧ r = .int .i64 r0 ∧ a ≤ s0 ∧ s0 ≤ r0 ∧ r0 ≤ m ∧ n ≤ s0 + b ∧ r0 + m ≤ n ∧ Hid (s0 = a ∨ s0 + b = n) ∧ Hid (r0 = m ∨ r0 + m = n) ∧ w = wx)
  case first =>
    by_cases hmm : mid < m
    · go_wp2_with fail
      go_meet
      exact ⟨n - b, mid, by go_num, rfl, by omega, by omega, by omega, by omega, by omega, Lib.hid (.inr (by omega)), Lib.hid (.inr (by omega)), rfl⟩
    · go_wp2_with fail
      go_meet
      exact ⟨a, m, rfl, rfl, by omega, by omega, by omega, by omega, by omega, Lib.hid (.inl rfl), Lib.hid (.inl rfl), rfl⟩
  case rest =>
    obtain ⟨s0, r0, rfl, rfl, h1, h2, h3, h4, h5, HS0, HR0, rfl⟩ := hcut
    go_wp2_with fail
    go_loopw [20, 21] (fun i j wr => ∃ lo hi : Nat, i = .int .i64 lo ∧ j = .int .i64 hi ∧ s0 ≤ lo ∧ lo ≤ hi ∧ hi ≤ r0 ∧ Hid (lo = s0 ∨ ∃ x y, L[lo - 1]? = some x ∧ L[pp - (lo - 1)]? = some y ∧ leEd x y) ∧ Hid (hi = r0 ∨ ∃ x y, L[hi]? = some x ∧ L[pp - hi]? = some y ∧ leEd y x) ∧ SRow wr g L rest ∧ KeptBut' w wr (· = g)) (fun i j _ => (intOf j).toNat - (intOf i).toNat)
    case atStart => exact ⟨s0, r0, rfl, rfl, by omega, by omega, by omega, Lib.hid (.inl rfl), Lib.hid (.inl rfl), hr, KeptBut'.refl _ _⟩
    case round =>
      obtain ⟨lo, hi, rfl, rfl, g1, g2, g3, HLO, HHI, hS, hK⟩ := hrel
      by_cases hlt : lo < hi
      · obtain ⟨h, hh⟩ : ∃ h, h = (lo + hi) / 2 := ⟨_, rfl⟩
        have hI : ((lo : Int) + (hi : Int)) / 2 = (h : Int) := by omega
        have q1 : lo ≤ h := by omega
        have q2 : h < hi := by omega
        have HI := Lib.hid hI
        clear hI hh
        obtain ⟨j, hj⟩ : ∃ j, j = pp - h := ⟨_, rfl⟩
        have HJ := Lib.hid hj
        have q3 : m ≤ j := by omega
        have q4 : j < b := by omega
        have hjI : IntKind.i64.wrap ((pp : Int) - (h : Int)) = (j : Int) := by rw [IntWalk.i64_in _ (by omega)]; omega
        obtain ⟨x, _, hx2⟩ := HGX.out (h - a) (by omega)
        rw [show a + (h - a) = h from by omega] at hx2
        obtain ⟨y, _, hy2⟩ := HGY.out (j - m) (by omega)
        rw [show m + (j - m) = j from by omega] at hy2
        have hl := HLL.out
        obtain ⟨c1, c2, c3⟩ := hS.cell h (by omega)
        obtain ⟨d1, d2, d3⟩ := hS.cell j (by omega)
        have ex : L[h]'(by omega) = x := by rw [List.getElem?_eq_getElem (by omega)] at hx2; injection hx2
        have ey : L[j]'(by omega) = y := by rw [List.getElem?_eq_getElem (by omega)] at hy2; injection hy2
        rw [ex] at c1 c2 c3
        rw [ey] at d1 d2 d3
        have HX := Lib.hid hx2
        have HY := Lib.hid hy2
        clear ex ey hl hx2 hy2 hj
        have hga : g < wr.heap.size := hS.lt
        have b0 : (0 : Int) ≤ (h : Int) := by omega
        have b1 : (h : Int) < N := by omega
        have b2 : (j : Int) < N := by omega
        have b3 : (0 : Int) ≤ (j : Int) := by omega
        go_wp2_with fail
        rw [HI.out]
        go_region_held3 (fun w' => w'.cell? ⟨g, h * 3, none⟩ = some (.int .i64 x.f) ∧ w'.cell? ⟨g, h * 3 + 1, none⟩ = some (.int .i64 x.t) ∧ w'.cell? ⟨g, h * 3 + 2, none⟩ = some (.string ⟨x.s.toArray⟩) ∧ w'.cell? ⟨g, j * 3, none⟩ = some (.int .i64 y.f) ∧ w'.cell? ⟨g, j * 3 + 1, none⟩ = some (.int .i64 y.t) ∧ w'.cell? ⟨g, j * 3 + 2, none⟩ = some (.string ⟨y.s.toArray⟩))
          (first | go_keep | exact ⟨(hbc.cell (p := ⟨g, h * 3, none⟩) hga).trans c1, (hbc.cell (p := ⟨g, h * 3 + 1, none⟩) hga).trans c2, (hbc.cell (p := ⟨g, h * 3 + 2, none⟩) hga).trans c3, (hbc.cell (p := ⟨g, j * 3, none⟩) hga).trans d1, (hbc.cell (p := ⟨g, j * 3 + 1, none⟩) hga).trans d2, (hbc.cell (p := ⟨g, j * 3 + 2, none⟩) hga).trans d3⟩)
          ((go_at_call 35; refine (joincmp_any y x _).mono ?_; rintro e w' ⟨rfl, hbc⟩))
        obtain ⟨w3, hw3⟩ : ∃ w3 : World, w3 = w' := ⟨_, rfl⟩
        subst hw3
        have hS3 : SRow w3 g L rest := (hbc.block g hga).trans hS
        have hK3 : KeptBut' w w3 (· = g) := (hK.drew).later hbc
        clear c1 c2 c3 d1 d2 d3 hbc hS hK
        go_wp2_with fail
        · have hq : (!decide (cmpEd y x < 0)) = true := by assumption
          have HC : Hid (leEd x y) := Lib.hid (cmp_ge _ _ (by simpa using hq))
          go_roundw
          case rel => exact ⟨h + 1, hi, by go_num, rfl, by omega, by omega, by omega, Lib.hid (.inr ⟨x, y, HX.out, by rw [Nat.add_sub_cancel, ← HJ.out]; exact HY.out, HC.out⟩), HHI, hS3, hK3⟩
          case measure => simp [intOf]; omega
        · have hq : (!decide (cmpEd y x < 0)) = false := by assumption
          have HC : Hid (leEd y x) := Lib.hid (cmp_lt _ _ (by simpa using hq))
          go_roundw
          case rel => exact ⟨lo, h, rfl, rfl, by omega, by omega, by omega, HLO, Lib.hid (.inr ⟨x, y, HX.out, by rw [← HJ.out]; exact HY.out, HC.out⟩), hS3, hK3⟩
          case measure => simp [intOf]; omega
      · obtain rfl : hi = lo := by omega
        clear hlt
        -- the cut: s elements of X, e of Y
        obtain ⟨s, hs⟩ : ∃ s, s = hi - a := ⟨_, rfl⟩
        obtain ⟨e, he⟩ : ∃ e, e = n - hi - m := ⟨_, rfl⟩
        have hsX : s ≤ X.length := by omega
        have heY : e ≤ Y.length := by omega
        have hv : Hid ((∀ x ∈ X.take s, ∀ y ∈ Y.drop e, leEd x y) ∧ (∀ y ∈ Y.take e, ∀ x ∈ X.drop s, leEd y x)) := Lib.hid (by
          refine halves HSX.out HSY.out ?_ ?_ hsX heY
          · rcases HLO.out with h | ⟨x, y, k1, k2, k3⟩
            · rcases HS0.out with h' | h'
              · exact .inl (by omega)
              · exact .inr (.inl (by omega))
            · by_cases hs0 : s = 0
              · exact .inl hs0
              · by_cases heb : e = Y.length
                · exact .inr (.inl heb)
                · refine .inr (.inr ⟨x, y, ?_, ?_, k3⟩)
                  · obtain ⟨x', e1, e2⟩ := HGX.out (s - 1) (by omega)
                    rw [show a + (s - 1) = hi - 1 from by omega, k1] at e2
                    rw [e1, e2]
                  · obtain ⟨y', e1, e2⟩ := HGY.out e (by omega)
                    rw [show m + e = pp - (hi - 1) from by omega, k2] at e2
                    rw [e1, e2]
          · rcases HHI.out with h | ⟨x, y, k1, k2, k3⟩
            · rcases HR0.out with h' | h'
              · exact .inl (by omega)
              · exact .inr (.inl (by omega))
            · by_cases hs0 : s = X.length
              · exact .inl hs0
              · by_cases heb : e = 0
                · exact .inr (.inl heb)
                · refine .inr (.inr ⟨x, y, ?_, ?_, k3⟩)
                  · obtain ⟨x', e1, e2⟩ := HGX.out s (by omega)
                    rw [show a + s = hi from by omega, k1] at e2
                    rw [e1, e2]
                  · obtain ⟨y', e1, e2⟩ := HGY.out (e - 1) (by omega)
                    rw [show m + (e - 1) = pp - hi from by omega, k2] at e2
                    rw [e1, e2])
        obtain ⟨en, hen⟩ : ∃ en, en = n - hi := ⟨_, rfl⟩
        have heI : (n : Int) - (hi : Int) = (en : Int) := by omega
        have e1 : s + a ≤ hi := by omega
        have e2 : hi ≤ s + a := by omega
        have e3 : e + m ≤ en := by omega
        have e4 : en ≤ e + m := by omega
        have e5 : en + hi ≤ n := by omega
        have e6 : n ≤ en + hi := by omega
        clear hs he hen HLO HHI HS0 HR0
        have HP' := HP.out
        have HR : Hid (SRow wr g (P ++ (X.take s ++ X.drop s) ++ (Y.take e ++ Y.drop e) ++ S) rest) := Lib.hid (by rw [List.take_append_drop, List.take_append_drop, HLdef.out]; exact hS)
        have HK := Lib.hid hK
        have l1 : (X.take s).length = s := by rw [List.length_take]; omega
        have l2 : (Y.take e).length = e := by rw [List.length_take]; omega
        have l3 : (X.drop s).length = X.length - s := List.length_drop
        have l4 : (Y.drop e).length = Y.length - e := List.length_drop
        have hN1 : N ≤ P.length + X.length + Y.length + S.length := by have := HNN.out; omega
        have hN2 : P.length + X.length + Y.length + S.length ≤ N := by have := HNN.out; omega
        have HL1 := Lib.hid l1
        have HL2 := Lib.hid l2
        have HL3 := Lib.hid l3
        have HL4 := Lib.hid l4
        have HPl := Lib.hid HP'
        have sX1 := Lib.hid (srt_take HSX.out s)
        have sX2 := Lib.hid (srt_drop HSX.out s)
        have sY1 := Lib.hid (srt_take HSY.out e)
        have sY2 := Lib.hid (srt_drop HSY.out e)
        clear HP' hS hK l1 l2 l3 l4
        by_cases hR1 : hi < m
        · go_upto_if 185 with (fail)
          go_cut [] (fun wx => SRow wx g (P ++ (X.take s ++ Y.take e) ++ (X.drop s ++ Y.drop e ++ S)) rest ∧ KeptBut' w wx (· = g))
          case first => as_aux_lemma =>
            by_cases hR2 : m < en
            · go_wp2_with fail
              refine (rotate_any g cap N hi m en (P ++ X.take s) (X.drop s) (Y.take e) (Y.drop e ++ S) rest wr ?_ hNl ?_ ?_ ?_ ?_ ?_ ?_).mono ?_
              · rw [List.length_append, List.length_append, HL1.out, HL2.out, HL3.out, HL4.out]; omega
              · rw [List.length_append, HL1.out, ← HPl.out]; omega
              · rw [List.length_append, HL1.out, HL3.out, ← HPl.out]; omega
              · rw [List.length_append, HL1.out, HL3.out, HL2.out, ← HPl.out]; omega
              · rw [HL3.out]; omega
              · rw [HL2.out]; omega
              · have := HR.out; simpa only [List.append_assoc] using this
              · rintro e w1 ⟨rfl, hS1, hK1⟩
                go_wp2_with fail
                go_meet
                exact ⟨by simpa only [List.append_assoc] using hS1, HK.out.trans hK1⟩
            · go_wp2_with fail
              go_meet
              have : Y.take e = [] := List.eq_nil_of_length_eq_zero (by rw [HL2.out]; omega)
              have h := HR.out
              rw [this] at h ⊢
              exact ⟨by simpa only [List.append_assoc, List.nil_append, List.append_nil] using h, HK.out⟩
          case rest => as_aux_lemma =>
            clear hR1
            obtain ⟨hS, hK⟩ := hcut
            have HS := Lib.hid hS
            have HK1 := Lib.hid hK
            clear hS hK HK HR
            by_cases hR1 : a < hi
            · go_upto_if 199 with (fail)
              go_cut [] (fun wy => ∃ Z1, SRow wy g (P ++ Z1 ++ (X.drop s ++ Y.drop e ++ S)) rest ∧ Hid (Z1.Perm (X.take s ++ Y.take e)) ∧ Hid (Srt Z1) ∧ KeptBut' w wy (· = g))
              case first => as_aux_lemma =>
                by_cases hR2 : hi < mid
                · go_wp2_with fail
                  refine (HIH.out g cap N a hi mid P (X.take s) (Y.take e) (X.drop s ++ Y.drop e ++ S) rest _ ?_ hNl ?_ ?_ ?_ HPl.out ?_ ?_ sX1.out sY1.out ?_).mono ?_
                  · rw [List.length_append, List.length_append, HL1.out, HL2.out, HL3.out, HL4.out]; omega
                  · rw [HL1.out, HL2.out]; omega
                  · rw [HL1.out]; omega
                  · rw [HL2.out]; omega
                  · rw [HL1.out, ← HPl.out]; omega
                  · rw [HL1.out, HL2.out, ← HPl.out]; omega
                  · have := HS.out; simpa using this
                  · rintro e w1 ⟨rfl, Z1, hS1, hp, hz, hK1⟩
                    go_wp2_with fail
                    go_meet
                    exact ⟨Z1, hS1, Lib.hid hp, Lib.hid hz, HK1.out.trans hK1⟩
                · have : Y.take e = [] := List.eq_nil_of_length_eq_zero (by rw [HL2.out]; omega)
                  have HT : Hid (Srt (X.take s ++ Y.take e)) := Lib.hid (by rw [this, List.append_nil]; exact sX1.out)
                  clear this
                  go_wp2_with fail
                  go_meet
                  exact ⟨_, HS.out, Lib.hid (List.Perm.refl _), HT, HK1.out⟩
              case rest => as_aux_lemma =>
                clear hR1
                obtain ⟨Z1, hS, hp1', hz1', hK⟩ := hcut
                have HS2 := Lib.hid hS
                have HK2 := Lib.hid hK
                have HZL : Hid (Z1.length = s + e) := Lib.hid (by rw [hp1'.out.length_eq, List.length_append, HL1.out, HL2.out])
                clear hS hK HS HK1
                by_cases hR1 : mid < en
                · by_cases hR2 : en < b
                  · go_wp2_with fail
                    refine (HIH.out g cap N mid en b (P ++ Z1) (X.drop s) (Y.drop e) S rest _ ?_ hNl ?_ ?_ ?_ ?_ ?_ ?_ sX2.out sY2.out ?_).mono ?_
                    · rw [List.length_append, HZL.out, HL3.out, HL4.out]; omega
                    · rw [HL3.out, HL4.out]; omega
                    · rw [HL3.out]; omega
                    · rw [HL4.out]; omega
                    · rw [List.length_append, HZL.out, ← HPl.out]; omega
                    · rw [List.length_append, HZL.out, HL3.out, ← HPl.out]; omega
                    · rw [List.length_append, HZL.out, HL3.out, HL4.out, ← HPl.out]; omega
                    · have := HS2.out; simpa using this
                    · rintro e w1 ⟨rfl, Z2, hS1, hp, hz, hK1⟩
                      go_wp2_with fail
                      go_end0
                      obtain ⟨r1, r2⟩ := merge_of hv.out HSX.out HSY.out hp1'.out hp hz1'.out hz
                      exact ⟨rfl, Z1 ++ Z2, by simpa using hS1, r1, r2, HK2.out.trans hK1⟩
                  · have : Y.drop e = [] := List.eq_nil_of_length_eq_zero (by rw [HL4.out]; omega)
                    have HT : Hid (Srt (X.drop s ++ Y.drop e)) := Lib.hid (by rw [this, List.append_nil]; exact sX2.out)
                    clear this
                    go_wp2_with fail
                    go_end0
                    obtain ⟨r1, r2⟩ := merge_of hv.out HSX.out HSY.out hp1'.out (List.Perm.refl _) hz1'.out HT.out
                    exact ⟨rfl, Z1 ++ (X.drop s ++ Y.drop e), by have := HS2.out; simpa using this, r1, r2, HK2.out⟩
                · have : X.drop s = [] := List.eq_nil_of_length_eq_zero (by rw [HL3.out]; omega)
                  have HT : Hid (Srt (X.drop s ++ Y.drop e)) := Lib.hid (by rw [this, List.nil_append]; exact sY2.out)
                  clear this
                  go_wp2_with fail
                  go_end0
                  obtain ⟨r1, r2⟩ := merge_of hv.out HSX.out HSY.out hp1'.out (List.Perm.refl _) hz1'.out HT.out
                  exact ⟨rfl, Z1 ++ (X.drop s ++ Y.drop e), by have := HS2.out; simpa using this, r1, r2, HK2.out⟩
            · go_upto_if 199 with (fail)
              go_cut [] (fun wy => ∃ Z1, SRow wy g (P ++ Z1 ++ (X.drop s ++ Y.drop e ++ S)) rest ∧ Hid (Z1.Perm (X.take s ++ Y.take e)) ∧ Hid (Srt Z1) ∧ KeptBut' w wy (· = g))
              case first => as_aux_lemma =>
                have : X.take s = [] := List.eq_nil_of_length_eq_zero (by rw [HL1.out]; omega)
                have HT : Hid (Srt (X.take s ++ Y.take e)) := Lib.hid (by rw [this, List.nil_append]; exact sY1.out)
                clear this
                go_wp2_with fail
                go_meet
                exact ⟨_, HS.out, Lib.hid (List.Perm.refl _), HT, HK1.out⟩
              case rest => as_aux_lemma =>
                clear hR1
                obtain ⟨Z1, hS, hp1', hz1', hK⟩ := hcut
                have HS2 := Lib.hid hS
                have HK2 := Lib.hid hK
                have HZL : Hid (Z1.length = s + e) := Lib.hid (by rw [hp1'.out.length_eq, List.length_append, HL1.out, HL2.out])
                clear hS hK HS HK1
                by_cases hR1 : mid < en
                · by_cases hR2 : en < b
                  · go_wp2_with fail
                    refine (HIH.out g cap N mid en b (P ++ Z1) (X.drop s) (Y.drop e) S rest _ ?_ hNl ?_ ?_ ?_ ?_ ?_ ?_ sX2.out sY2.out ?_).mono ?_
                    · rw [List.length_append, HZL.out, HL3.out, HL4.out]; omega
                    · rw [HL3.out, HL4.out]; omega
                    · rw [HL3.out]; omega
                    · rw [HL4.out]; omega
                    · rw [List.length_append, HZL.out, ← HPl.out]; omega
                    · rw [List.length_append, HZL.out, HL3.out, ← HPl.out]; omega
                    · rw [List.length_append, HZL.out, HL3.out, HL4.out, ← HPl.out]; omega
                    · have := HS2.out; simpa using this
                    · rintro e w1 ⟨rfl, Z2, hS1, hp, hz, hK1⟩
                      go_wp2_with fail
                      go_end0
                      obtain ⟨r1, r2⟩ := merge_of hv.out HSX.out HSY.out hp1'.out hp hz1'.out hz
                      exact ⟨rfl, Z1 ++ Z2, by simpa using hS1, r1, r2, HK2.out.trans hK1⟩
                  · have : Y.drop e = [] := List.eq_nil_of_length_eq_zero (by rw [HL4.out]; omega)
                    have HT : Hid (Srt (X.drop s ++ Y.drop e)) := Lib.hid (by rw [this, List.append_nil]; exact sX2.out)
                    clear this
                    go_wp2_with fail
                    go_end0
                    obtain ⟨r1, r2⟩ := merge_of hv.out HSX.out HSY.out hp1'.out (List.Perm.refl _) hz1'.out HT.out
                    exact ⟨rfl, Z1 ++ (X.drop s ++ Y.drop e), by have := HS2.out; simpa using this, r1, r2, HK2.out⟩
                · have : X.drop s = [] := List.eq_nil_of_length_eq_zero (by rw [HL3.out]; omega)
                  have HT : Hid (Srt (X.drop s ++ Y.drop e)) := Lib.hid (by rw [this, List.nil_append]; exact sY2.out)
                  clear this
                  go_wp2_with fail
                  go_end0
                  obtain ⟨r1, r2⟩ := merge_of hv.out HSX.out HSY.out hp1'.out (List.Perm.refl _) hz1'.out HT.out
                  exact ⟨rfl, Z1 ++ (X.drop s ++ Y.drop e), by have := HS2.out; simpa using this, r1, r2, HK2.out⟩
        · go_upto_if 185 with (fail)
          go_cut [] (fun wx => SRow wx g (P ++ (X.take s ++ Y.take e) ++ (X.drop s ++ Y.drop e ++ S)) rest ∧ KeptBut' w wx (· = g))
          case first => as_aux_lemma =>
            go_wp2_with fail
            go_meet
            have : X.drop s = [] := List.eq_nil_of_length_eq_zero (by rw [HL3.out]; omega)
            have h := HR.out
            rw [this] at h ⊢
            exact ⟨by simpa only [List.append_assoc, List.nil_append, List.append_nil] using h, HK.out⟩
          case rest => as_aux_lemma =>
            clear hR1
            obtain ⟨hS, hK⟩ := hcut
            have HS := Lib.hid hS
            have HK1 := Lib.hid hK
            clear hS hK HK HR
            by_cases hR1 : a < hi
            · go_upto_if 199 with (fail)
              go_cut [] (fun wy => ∃ Z1, SRow wy g (P ++ Z1 ++ (X.drop s ++ Y.drop e ++ S)) rest ∧ Hid (Z1.Perm (X.take s ++ Y.take e)) ∧ Hid (Srt Z1) ∧ KeptBut' w wy (· = g))
              case first => as_aux_lemma =>
                by_cases hR2 : hi < mid
                · go_wp2_with fail
                  refine (HIH.out g cap N a hi mid P (X.take s) (Y.take e) (X.drop s ++ Y.drop e ++ S) rest _ ?_ hNl ?_ ?_ ?_ HPl.out ?_ ?_ sX1.out sY1.out ?_).mono ?_
                  · rw [List.length_append, List.length_append, HL1.out, HL2.out, HL3.out, HL4.out]; omega
                  · rw [HL1.out, HL2.out]; omega
                  · rw [HL1.out]; omega
                  · rw [HL2.out]; omega
                  · rw [HL1.out, ← HPl.out]; omega
                  · rw [HL1.out, HL2.out, ← HPl.out]; omega
                  · have := HS.out; simpa using this
                  · rintro e w1 ⟨rfl, Z1, hS1, hp, hz, hK1⟩
                    go_wp2_with fail
                    go_meet
                    exact ⟨Z1, hS1, Lib.hid hp, Lib.hid hz, HK1.out.trans hK1⟩
                · have : Y.take e = [] := List.eq_nil_of_length_eq_zero (by rw [HL2.out]; omega)
                  have HT : Hid (Srt (X.take s ++ Y.take e)) := Lib.hid (by rw [this, List.append_nil]; exact sX1.out)
                  clear this
                  go_wp2_with fail
                  go_meet
                  exact ⟨_, HS.out, Lib.hid (List.Perm.refl _), HT, HK1.out⟩
              case rest => as_aux_lemma =>
                clear hR1
                obtain ⟨Z1, hS, hp1', hz1', hK⟩ := hcut
                have HS2 := Lib.hid hS
                have HK2 := Lib.hid hK
                have HZL : Hid (Z1.length = s + e) := Lib.hid (by rw [hp1'.out.length_eq, List.length_append, HL1.out, HL2.out])
                clear hS hK HS HK1
                by_cases hR1 : mid < en
                · by_cases hR2 : en < b
                  · go_wp2_with fail
                    refine (HIH.out g cap N mid en b (P ++ Z1) (X.drop s) (Y.drop e) S rest _ ?_ hNl ?_ ?_ ?_ ?_ ?_ ?_ sX2.out sY2.out ?_).mono ?_
                    · rw [List.length_append, HZL.out, HL3.out, HL4.out]; omega
                    · rw [HL3.out, HL4.out]; omega
                    · rw [HL3.out]; omega
                    · rw [HL4.out]; omega
                    · rw [List.length_append, HZL.out, ← HPl.out]; omega
                    · rw [List.length_append, HZL.out, HL3.out, ← HPl.out]; omega
                    · rw [List.length_append, HZL.out, HL3.out, HL4.out, ← HPl.out]; omega
                    · have := HS2.out; simpa using this
                    · rintro e w1 ⟨rfl, Z2, hS1, hp, hz, hK1⟩
                      go_wp2_with fail
                      go_end0
                      obtain ⟨r1, r2⟩ := merge_of hv.out HSX.out HSY.out hp1'.out hp hz1'.out hz
                      exact ⟨rfl, Z1 ++ Z2, by simpa using hS1, r1, r2, HK2.out.trans hK1⟩
                  · have : Y.drop e = [] := List.eq_nil_of_length_eq_zero (by rw [HL4.out]; omega)
                    have HT : Hid (Srt (X.drop s ++ Y.drop e)) := Lib.hid (by rw [this, List.append_nil]; exact sX2.out)
                    clear this
                    go_wp2_with fail
                    go_end0
                    obtain ⟨r1, r2⟩ := merge_of hv.out HSX.out HSY.out hp1'.out (List.Perm.refl _) hz1'.out HT.out
                    exact ⟨rfl, Z1 ++ (X.drop s ++ Y.drop e), by have := HS2.out; simpa using this, r1, r2, HK2.out⟩
                · have : X.drop s = [] := List.eq_nil_of_length_eq_zero (by rw [HL3.out]; omega)
                  have HT : Hid (Srt (X.drop s ++ Y.drop e)) := Lib.hid (by rw [this, List.nil_append]; exact sY2.out)
                  clear this
                  go_wp2_with fail
                  go_end0
                  obtain ⟨r1, r2⟩ := merge_of hv.out HSX.out HSY.out hp1'.out (List.Perm.refl _) hz1'.out HT.out
                  exact ⟨rfl, Z1 ++ (X.drop s ++ Y.drop e), by have := HS2.out; simpa using this, r1, r2, HK2.out⟩
            · go_upto_if 199 with (fail)
              go_cut [] (fun wy => ∃ Z1, SRow wy g (P ++ Z1 ++ (X.drop s ++ Y.drop e ++ S)) rest ∧ Hid (Z1.Perm (X.take s ++ Y.take e)) ∧ Hid (Srt Z1) ∧ KeptBut' w wy (· = g))
              case first => as_aux_lemma =>
                have : X.take s = [] := List.eq_nil_of_length_eq_zero (by rw [HL1.out]; omega)
                have HT : Hid (Srt (X.take s ++ Y.take e)) := Lib.hid (by rw [this, List.nil_append]; exact sY1.out)
                clear this
                go_wp2_with fail
                go_meet
                exact ⟨_, HS.out, Lib.hid (List.Perm.refl _), HT, HK1.out⟩
              case rest => as_aux_lemma =>
                clear hR1
                obtain ⟨Z1, hS, hp1', hz1', hK⟩ := hcut
                have HS2 := Lib.hid hS
                have HK2 := Lib.hid hK
                have HZL : Hid (Z1.length = s + e) := Lib.hid (by rw [hp1'.out.length_eq, List.length_append, HL1.out, HL2.out])
                clear hS hK HS HK1
                by_cases hR1 : mid < en
                · by_cases hR2 : en < b
                  · go_wp2_with fail
                    refine (HIH.out g cap N mid en b (P ++ Z1) (X.drop s) (Y.drop e) S rest _ ?_ hNl ?_ ?_ ?_ ?_ ?_ ?_ sX2.out sY2.out ?_).mono ?_
                    · rw [List.length_append, HZL.out, HL3.out, HL4.out]; omega
                    · rw [HL3.out, HL4.out]; omega
                    · rw [HL3.out]; omega
                    · rw [HL4.out]; omega
                    · rw [List.length_append, HZL.out, ← HPl.out]; omega
                    · rw [List.length_append, HZL.out, HL3.out, ← HPl.out]; omega
                    · rw [List.length_append, HZL.out, HL3.out, HL4.out, ← HPl.out]; omega
                    · have := HS2.out; simpa using this
                    · rintro e w1 ⟨rfl, Z2, hS1, hp, hz, hK1⟩
                      go_wp2_with fail
                      go_end0
                      obtain ⟨r1, r2⟩ := merge_of hv.out HSX.out HSY.out hp1'.out hp hz1'.out hz
                      exact ⟨rfl, Z1 ++ Z2, by simpa using hS1, r1, r2, HK2.out.trans hK1⟩
                  · have : Y.drop e = [] := List.eq_nil_of_length_eq_zero (by rw [HL4.out]; omega)
                    have HT : Hid (Srt (X.drop s ++ Y.drop e)) := Lib.hid (by rw [this, List.append_nil]; exact sX2.out)
                    clear this
                    go_wp2_with fail
                    go_end0
                    obtain ⟨r1, r2⟩ := merge_of hv.out HSX.out HSY.out hp1'.out (List.Perm.refl _) hz1'.out HT.out
                    exact ⟨rfl, Z1 ++ (X.drop s ++ Y.drop e), by have := HS2.out; simpa using this, r1, r2, HK2.out⟩
                · have : X.drop s = [] := List.eq_nil_of_length_eq_zero (by rw [HL3.out]; omega)
                  have HT : Hid (Srt (X.drop s ++ Y.drop e)) := Lib.hid (by rw [this, List.nil_append]; exact sY2.out)
                  clear this
                  go_wp2_with fail
                  go_end0
                  obtain ⟨r1, r2⟩ := merge_of hv.out HSX.out HSY.out hp1'.out (List.Perm.refl _) hz1'.out HT.out
                  exact ⟨rfl, Z1 ++ (X.drop s ++ Y.drop e), by have := HS2.out; simpa using this, r1, r2, HK2.out⟩
end Go.Proofs.Ytnnicjbceadnbaa
