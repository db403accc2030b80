/- Walks: symMerge. -/
import Derived.Test.YtnnicjbceadnbaaSort4
namespace Go.Proofs.Ytnnicjbceadnbaa
open Go.RowKit
open Sp (Ed Ce chk)
/-- an element on its way through a list. -/
def mov (P : List Ed) (z : Ed) (Z S : List Ed) (t : Nat) : List Ed := P ++ Z.take t ++ z :: (Z.drop t ++ S)
theorem mov_len (P : List Ed) (z : Ed) (Z S : List Ed) (t : Nat) (h : t ≤ Z.length) : (mov P z Z S t).length = P.length + Z.length + 1 + S.length := by
  unfold mov; simp only [List.length_append, List.length_take, List.length_cons, List.length_drop]; omega
theorem mov_facts (P : List Ed) (z : Ed) (Z S : List Ed) (t : Nat) (h : t < Z.length) : ∃ u, Z[t]? = some u ∧ (mov P z Z S t)[P.length + t]? = some z ∧ (mov P z Z S t)[P.length + t + 1]? = some u ∧
    (mov P z Z S (t + 1))[P.length + t]? = some u ∧ (mov P z Z S (t + 1))[P.length + t + 1]? = some z ∧
    ((mov P z Z S t).set (P.length + t) u).set (P.length + t + 1) z = mov P z Z S (t + 1) ∧ ((mov P z Z S (t + 1)).set (P.length + t + 1) u).set (P.length + t) z = mov P z Z S t := by
  have e1 : (Z.take t).length = t := by rw [List.length_take]; omega
  have d1 : Z.drop t = Z[t] :: Z.drop (t + 1) := List.drop_eq_getElem_cons h
  have s1 : mov P z Z S t = (P ++ Z.take t) ++ z :: (Z[t] :: (Z.drop (t + 1) ++ S)) := by unfold mov; rw [d1]; simp only [List.append_assoc, List.cons_append]
  have s1' : mov P z Z S t = (P ++ Z.take t ++ [z]) ++ Z[t] :: (Z.drop (t + 1) ++ S) := by rw [s1]; simp only [List.append_assoc, List.cons_append, List.nil_append]
  have s2 : mov P z Z S (t + 1) = (P ++ Z.take t) ++ Z[t] :: (z :: (Z.drop (t + 1) ++ S)) := by unfold mov; rw [List.take_succ_eq_append_getElem h]; simp only [List.append_assoc, List.cons_append, List.nil_append]
  have s2' : mov P z Z S (t + 1) = (P ++ Z.take t ++ [Z[t]]) ++ z :: (Z.drop (t + 1) ++ S) := by rw [s2]; simp only [List.append_assoc, List.cons_append, List.nil_append]
  have l1 : (P ++ Z.take t).length = P.length + t := by rw [List.length_append]; omega
  have l2 : ∀ q : Ed, (P ++ Z.take t ++ [q]).length = P.length + t + 1 := by intro q; rw [List.length_append, l1]; rfl
  refine ⟨Z[t], List.getElem?_eq_getElem h, ?_, ?_, ?_, ?_, ?_, ?_⟩
  · rw [s1, List.getElem?_append_right (by omega), l1, Nat.sub_self]; rfl
  · rw [s1', List.getElem?_append_right (by rw [l2]; omega), l2, Nat.sub_self]; rfl
  · rw [s2, List.getElem?_append_right (by omega), l1, Nat.sub_self]; rfl
  · rw [s2', List.getElem?_append_right (by rw [l2]; omega), l2, Nat.sub_self]; rfl
  · rw [s1, set_at _ _ _ _ _ l1.symm, s2']
    rw [show (P ++ Z.take t) ++ Z[t] :: (Z[t] :: (Z.drop (t + 1) ++ S)) = (P ++ Z.take t ++ [Z[t]]) ++ Z[t] :: (Z.drop (t + 1) ++ S) from by simp only [List.append_assoc, List.cons_append, List.nil_append], set_at _ _ _ _ _ (l2 _).symm]
  · rw [s2', set_at _ _ _ _ _ (l2 _).symm, s1]
    rw [show (P ++ Z.take t ++ [Z[t]]) ++ Z[t] :: (Z.drop (t + 1) ++ S) = (P ++ Z.take t) ++ Z[t] :: (Z[t] :: (Z.drop (t + 1) ++ S)) from by simp only [List.append_assoc, List.cons_append, List.nil_append], set_at _ _ _ _ _ l1.symm]
/-- what a call that sorts a part does to the row. -/
def Sorted (w w' : World) (g : Nat) (P X Y S : List Ed) (rest : List Value) : Prop := ∃ Z, SRow w' g (P ++ Z ++ S) rest ∧ Z.Perm (X ++ Y) ∧ Srt Z ∧ KeptBut' w w' (· = g)
theorem get_mid {P X S : List Ed} {k : Nat} (h : k < X.length) : (P ++ X ++ S)[P.length + k]? = X[k]? := by
  rw [List.append_assoc, List.getElem?_append_right (by omega), List.getElem?_append_left (by omega)]; congr 1; omega
theorem results_none {fn : Func} (h : fn.results = #[]) (tmps : Array Value) (P : Program) (w : World) :
    (results fn tmps).run P w = .ok (.tuple #[]) w := by simp [results, h]
theorem ins_left {Y : List Ed} {x : Ed} {e : Nat} (hY : Srt Y) (he : e ≤ Y.length) (h1 : e = 0 ∨ ∃ y, Y[e - 1]? = some y ∧ leEd y x) (h2 : e = Y.length ∨ ∃ y, Y[e]? = some y ∧ leEd x y) : Srt (Y.take e ++ x :: Y.drop e) := by
  have hX : Srt [x] := List.pairwise_singleton _ _
  have a1 := halves (X := [x]) (Y := Y) (s := 1) (e := e) hX hY (.inr (h2.imp id fun ⟨y, p, q⟩ => ⟨x, y, rfl, p, q⟩)) (.inl rfl) (by simp) he
  have a0 := halves (X := [x]) (Y := Y) (s := 0) (e := e) hX hY (.inl rfl) (.inr (h1.imp id fun ⟨y, p, q⟩ => ⟨x, y, rfl, p, q⟩)) (by simp) he
  refine srt_of_le (srt_take hY e) (List.pairwise_cons.2 ⟨fun y hy => a1.1 x (by simp) y hy, srt_drop hY e⟩) ?_
  intro y hy z hz
  rcases List.mem_cons.1 hz with rfl | hz
  · exact a0.2 y hy z (by simp)
  · have h3 : (Y.take e ++ Y.drop e).Pairwise leEd := by rw [List.take_append_drop]; exact hY
    exact (List.pairwise_append.1 h3).2.2 y hy z hz
set_option maxRecDepth 100000 in
set_option maxHeartbeats 2000000 in
theorem symm_left (g cap N a m b : Nat) (P Y S : List Ed) (x : Ed) (rest : List Value) (w : World) (hN : N = P.length + 1 + Y.length + S.length) (hNl : N ≤ 1073741824)
    (ha : a = P.length) (hm : m = P.length + 1) (hb : b = P.length + 1 + Y.length) (sY : Srt Y) (hr : SRow w g (P ++ x :: (Y ++ S)) rest) :
    Calls Try.prog 44 #[.slice (some ⟨g, 0, none⟩) N cap, .int .i64 a, .int .i64 m, .int .i64 b, .func (Fn.func 35) #[] #[]] w fun e w' => e = .returned (.tuple #[]) ∧ Sorted w w' g P [x] Y S rest := by
  have HGY : Hid (∀ k, k < Y.length → ∃ y, Y[k]? = some y ∧ (P ++ x :: (Y ++ S))[m + k]? = some y) := Lib.hid fun k hk => by
    refine ⟨Y[k], List.getElem?_eq_getElem hk, ?_⟩
    rw [show P ++ x :: (Y ++ S) = (P ++ [x]) ++ Y ++ S from by simp, show m + k = (P ++ [x]).length + k from by rw [hm]; simp, get_mid hk]
    exact List.getElem?_eq_getElem hk
  have HGX : Hid ((P ++ x :: (Y ++ S))[a]? = some x) := Lib.hid (by rw [ha, List.getElem?_append_right (Nat.le_refl _), Nat.sub_self]; rfl)
  have HLL : Hid ((P ++ x :: (Y ++ S)).length = N) := Lib.hid (by simp; omega)
  have HM0 : Hid (mov P x Y S 0 = P ++ x :: (Y ++ S)) := Lib.hid (by simp [mov])
  have HMF : Hid (∀ t, t < Y.length → _) := Lib.hid fun t ht => mov_facts P x Y S t ht
  have HML : Hid (∀ t, t ≤ Y.length → (mov P x Y S t).length = N) := Lib.hid fun t ht => by rw [mov_len P x Y S t ht]; omega
  have HE : Hid (∀ t, t ≤ Y.length → mov P x Y S t = P ++ (Y.take t ++ x :: Y.drop t) ++ S) := Lib.hid fun t ht => by simp [mov]
  have HSY := Lib.hid sY
  have hma : (m : Int) - (a : Int) = 1 := by omega
  have hma1 : a + 1 ≤ m := by omega
  have hma2 : m ≤ a + 1 := by omega
  have hbm1 : b ≤ m + Y.length := by omega
  have hbm2 : m + Y.length ≤ b := by omega
  have hbN : b ≤ N := by omega
  have HP := Lib.hid ha
  clear ha hm hb hN sY
  generalize P ++ x :: (Y ++ S) = L at *
  go_enter Try.func44, Try.ntmps44
  go_wp2_with fail
  go_loopw [10, 11] (fun i j wr => ∃ lo hi : Nat, i = .int .i64 lo ∧ j = .int .i64 hi ∧ m ≤ lo ∧ lo ≤ hi ∧ hi ≤ b ∧ Hid (lo = m ∨ ∃ y, L[lo - 1]? = some y ∧ leEd y x) ∧ Hid (hi = b ∨ ∃ y, L[hi]? = some y ∧ leEd x y) ∧ SRow wr g L rest ∧ KeptBut' w wr (· = g)) (fun i j _ => (intOf j).toNat - (intOf i).toNat)
  case atStart => exact ⟨m, b, rfl, rfl, by omega, by omega, by omega, Lib.hid (.inl rfl), Lib.hid (.inl rfl), hr, KeptBut'.refl _ _⟩
  case round =>
    obtain ⟨lo, hi, rfl, rfl, h1, h2, h3, HLO, HHI, hS, hK⟩ := hrel
    by_cases hlt : lo < hi
    · obtain ⟨h, hh⟩ : ∃ h, h = (lo + hi) / 2 := ⟨_, rfl⟩
      have hI : ((lo : Int) + (hi : Int)) / 2 = (h : Int) := by omega
      have q1 : lo ≤ h := by omega
      have q2 : h < hi := by omega
      have HI := Lib.hid hI
      clear hI hh
      obtain ⟨y, hy1, hy2⟩ := HGY.out (h - m) (by omega)
      rw [show m + (h - m) = h from by omega] at hy2
      have hl := HLL.out
      have hgx := HGX.out
      obtain ⟨c1, c2, c3⟩ := hS.cell h (by omega)
      obtain ⟨d1, d2, d3⟩ := hS.cell a (by omega)
      have ex : L[a]'(by omega) = x := by rw [List.getElem?_eq_getElem (by omega)] at hgx; injection hgx
      have ey : L[h]'(by omega) = y := by rw [List.getElem?_eq_getElem (by omega)] at hy2; injection hy2
      rw [ex] at d1 d2 d3
      rw [ey] at c1 c2 c3
      have HY := Lib.hid hy2
      clear ex ey hl hgx hy1 hy2
      have hga : g < wr.heap.size := hS.lt
      have b0 : (0 : Int) ≤ (h : Int) := by omega
      have b1 : (h : Int) < N := by omega
      have b2 : (a : Int) < N := by omega
      go_wp2_with fail
      rw [HI.out]
      go_region_held3 (fun w' => w'.cell? ⟨g, h * 3, none⟩ = some (.int .i64 y.f) ∧ w'.cell? ⟨g, h * 3 + 1, none⟩ = some (.int .i64 y.t) ∧ w'.cell? ⟨g, h * 3 + 2, none⟩ = some (.string ⟨y.s.toArray⟩) ∧ w'.cell? ⟨g, a * 3, none⟩ = some (.int .i64 x.f) ∧ w'.cell? ⟨g, a * 3 + 1, none⟩ = some (.int .i64 x.t) ∧ w'.cell? ⟨g, a * 3 + 2, none⟩ = some (.string ⟨x.s.toArray⟩))
        (first | go_keep | exact ⟨(hbc.cell (p := ⟨g, h * 3, none⟩) hga).trans c1, (hbc.cell (p := ⟨g, h * 3 + 1, none⟩) hga).trans c2, (hbc.cell (p := ⟨g, h * 3 + 2, none⟩) hga).trans c3, (hbc.cell (p := ⟨g, a * 3, none⟩) hga).trans d1, (hbc.cell (p := ⟨g, a * 3 + 1, none⟩) hga).trans d2, (hbc.cell (p := ⟨g, a * 3 + 2, none⟩) hga).trans d3⟩)
        ((go_at_call 35; refine (joincmp_any y x _).mono ?_; rintro e w' ⟨rfl, hbc⟩))
      obtain ⟨w3, hw3⟩ : ∃ w3 : World, w3 = w' := ⟨_, rfl⟩
      subst hw3
      have hS3 : SRow w3 g L rest := (hbc.block g hga).trans hS
      have hK3 : KeptBut' w w3 (· = g) := (hK.drew).later hbc
      clear c1 c2 c3 d1 d2 d3 hbc hS hK
      by_cases hc : cmpEd y x < 0
      · have HC : Hid (leEd y x) := Lib.hid (cmp_lt _ _ hc)
        go_wp2_with fail
        go_roundw
        case rel => exact ⟨h + 1, hi, by go_num, rfl, by omega, by omega, by omega, Lib.hid (.inr ⟨y, HY.out, HC.out⟩), HHI, hS3, hK3⟩
        case measure => simp [intOf]; omega
      · have HC : Hid (leEd x y) := Lib.hid (cmp_ge _ _ hc)
        go_wp2_with fail
        go_roundw
        case rel => exact ⟨lo, h, rfl, rfl, by omega, by omega, by omega, HLO, Lib.hid (.inr ⟨y, HY.out, HC.out⟩), hS3, hK3⟩
        case measure => simp [intOf]; omega
    · obtain rfl : hi = lo := by omega
      clear hlt
      have HS := Lib.hid hS
      have HK := Lib.hid hK
      clear hS hK
      go_wp2_with fail
      obtain ⟨wo, hwo⟩ : ∃ wo : World, wo = wr := ⟨_, rfl⟩
      subst hwo
      go_loopw [13] (fun k wr => ∃ t : Nat, t + m ≤ hi ∧ k = .int .i64 ((a + t : Nat) : Int) ∧ SRow wr g (mov P x Y S t) rest ∧ KeptBut' w wr (· = g)) (fun k _ => hi - (intOf k).toNat)
      case atStart => exact ⟨0, by omega, by go_num, by rw [HM0.out]; exact HS.out, HK.out⟩
      case round =>
        obtain ⟨t, ht, rfl, hS, hK⟩ := hrel
        obtain ⟨i, hi'⟩ : ∃ i, i = a + t := ⟨_, rfl⟩
        rw [← hi']
        have HI := Lib.hid hi'
        have hi1 : i ≤ a + t := by omega
        have hi2 : a + t ≤ i := by omega
        clear hi'
        by_cases hlt : t + m < hi
        · obtain ⟨y, hy0, g1, g2, _, _, hset, _⟩ := HMF.out t (by omega)
          have hl := HML.out t (by omega)
          have hp := HP.out
          rw [show P.length + t = i from by rw [← hp]; omega] at g1 g2 hset
          have HSET := Lib.hid hset
          generalize mov P x Y S t = M at *
          obtain ⟨c1, c2, c3⟩ := hS.cell i (by omega)
          obtain ⟨d1, d2, d3⟩ := hS.cell (i + 1) (by omega)
          have ex : M[i]'(by omega) = x := by rw [List.getElem?_eq_getElem (by omega)] at g1; injection g1
          have ey : M[i + 1]'(by omega) = y := by rw [List.getElem?_eq_getElem (by omega)] at g2; injection g2
          rw [ex] at c1 c2 c3
          rw [ey] at d1 d2 d3
          have HL := Lib.hid hl
          clear hset g1 g2 ex ey hl hp hy0
          have ff : ∀ z, wr.frozen? ⟨g, z, none⟩ = false := fun z => hS.frozen z
          have hga : g < wr.heap.size := hS.lt
          have b0 : (0 : Int) ≤ (i : Int) + 1 := by omega
          have b1 : (i : Int) + 1 < N := by omega
          have b2 : (i : Int) < N := by omega
          have s1 : IntKind.i64.wrap ((i : Int) + 1) = (i : Int) + 1 := IntWalk.i64_in _ (by omega)
          have t1 : ((i : Int) + 1).toNat = i + 1 := by omega
          go_wp2_with fail
          go_region
          go_wp2_with fail
          go_roundw
          case rel =>
            refine ⟨t + 1, by omega, by go_num, ?_, keep_set6 hK _ _ _ _ _ _ _ _ _ _ _ _⟩
            rw [← HSET.out]
            exact hS.swap i (i + 1) (by rw [HL.out]; omega) (by rw [HL.out]; omega) x y
          case measure => simp [intOf] <;> omega
        · have hti1 : t ≤ hi - m := by omega
          have hti2 : hi - m ≤ t := by omega
          have hx1 : (hi : Int) - 1 ≤ (i : Int) := by omega
          go_wp2_with fail
          refine bodyPost_ret (results_none rfl _ _ _) rfl ?_
          refine ⟨rfl, Y.take t ++ x :: Y.drop t, ?_, ?_, ?_, hK⟩
          · rw [← HE.out t (by omega)]; exact hS
          · refine List.perm_middle.trans ?_
            rw [List.take_append_drop]; rfl
          · obtain rfl : t = hi - m := by omega
            refine ins_left HSY.out (by omega) ?_ ?_
            · by_cases h0 : hi = m
              · exact .inl (by omega)
              · rcases HLO.out with h | ⟨y, k1, k2⟩
                · exact absurd h h0
                · obtain ⟨y', e1, e2⟩ := HGY.out (hi - m - 1) (by omega)
                  rw [show m + (hi - m - 1) = hi - 1 from by omega, k1] at e2
                  exact .inr ⟨y, by rw [e1, e2], k2⟩
            · by_cases h0 : hi = b
              · exact .inl (by omega)
              · rcases HHI.out with h | ⟨y, k1, k2⟩
                · exact absurd h h0
                · obtain ⟨y', e1, e2⟩ := HGY.out (hi - m) (by omega)
                  rw [show m + (hi - m) = hi from by omega, k1] at e2
                  exact .inr ⟨y, by rw [e1, e2], k2⟩
end Go.Proofs.Ytnnicjbceadnbaa
