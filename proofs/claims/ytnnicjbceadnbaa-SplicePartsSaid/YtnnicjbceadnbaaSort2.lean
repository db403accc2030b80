/- Walks: the insertion sort of slices. -/
import Derived.Test.YtnnicjbceadnbaaSort1
import Derived.BigRegion
import Derived.Test.YtnnicjbceadnbaaPlainD
namespace Go.Proofs.Ytnnicjbceadnbaa
open Go.RowKit
open Sp (Ed Ce chk)
/-- a row of edits in block g, with its spare cells. -/
def SRow (w : World) (g : Nat) (l : List Ed) (rest : List Value) : Prop := w.heap[g]? = some (.cells (edsCells l ++ rest).toArray 48 (0, 0))
theorem SRow.cell {w : World} {g : Nat} {l : List Ed} {rest : List Value} (h : SRow w g l rest) (k : Nat) (hk : k < l.length) :
    w.cell? ⟨g, k * 3, none⟩ = some (.int .i64 l[k].f) ∧ w.cell? ⟨g, k * 3 + 1, none⟩ = some (.int .i64 l[k].t) ∧ w.cell? ⟨g, k * 3 + 2, none⟩ = some (.string ⟨l[k].s.toArray⟩) := by
  obtain ⟨h1, h2, h3⟩ := edsCells_at l k l[k] (List.getElem?_eq_getElem hk)
  have hl := edsCells_len l
  refine ⟨?_, ?_, ?_⟩ <;> rw [cell_of_row w g _ _ _ _ h] <;> simp only [List.getElem?_toArray]
  · rw [List.getElem?_append_left (by omega)]; exact h1
  · rw [List.getElem?_append_left (by omega)]; exact h2
  · rw [List.getElem?_append_left (by omega)]; exact h3
theorem SRow.frozen {w : World} {g : Nat} {l : List Ed} {rest : List Value} (h : SRow w g l rest) (i : Nat) : w.frozen? ⟨g, i, none⟩ = false := by
  unfold SRow at h; simp [World.frozen?, h]
theorem edsCells_set (l : List Ed) (k : Nat) (x : Ed) (hk : k < l.length) : edsCells (l.set k x) = (((edsCells l).set (k * 3) (.int .i64 x.f)).set (k * 3 + 1) (.int .i64 x.t)).set (k * 3 + 2) (.string ⟨x.s.toArray⟩) := by
  induction l generalizing k with
  | nil => simp at hk
  | cons y l ih =>
    cases k with
    | zero => simp [edsCells, edCells]
    | succ k =>
      have := ih k (by simpa using hk)
      simp only [edsCells] at this
      simp [edsCells, edCells, Nat.add_mul, this]
theorem SRow.set3 {w : World} {g : Nat} {l : List Ed} {rest : List Value} (h : SRow w g l rest) (k : Nat) (hk : k < l.length) (x : Ed) :
    SRow (((w.setCell ⟨g, k * 3, none⟩ (.int .i64 x.f)).setCell ⟨g, k * 3 + 1, none⟩ (.int .i64 x.t)).setCell ⟨g, k * 3 + 2, none⟩ (.string ⟨x.s.toArray⟩)) g (l.set k x) rest := by
  have hl := edsCells_len l
  have h1 := (Blk.set_ (w := w) (g := g) (t := 48) h (k * 3) (.int .i64 x.f))
  have h2 := h1.set_ (k * 3 + 1) (.int .i64 x.t)
  have h3 := h2.set_ (k * 3 + 2) (.string ⟨x.s.toArray⟩)
  unfold SRow
  unfold Blk at h3
  rw [h3, edsCells_set l k x hk]
  congr 2
  apply Array.ext'
  simp only [Array.toList_setIfInBounds]
  rw [List.set_append_left _ _ (by omega), List.set_append_left _ _ (by rw [List.length_set]; omega), List.set_append_left _ _ (by rw [List.length_set, List.length_set]; omega)]
theorem KeptBut'.refl (w : World) (S : Nat → Prop) : KeptBut' w w S := ⟨rfl, rfl, rfl, Nat.le_refl _, fun _ _ _ => rfl⟩
theorem KeptBut'.later {a b c : World} {S : Nat → Prop} (h : KeptBut' a b S) (hb : Below b.heap.size b c) : KeptBut' a c S :=
  ⟨hb.os.trans h.os, hb.tape.trans h.tape, hb.output.trans h.output, Nat.le_trans h.size hb.size, fun k hk hs => (hb.block k (Nat.lt_of_lt_of_le hk h.size)).trans (h.block k hk hs)⟩
theorem KeptBut'.setCell {a b : World} {S : Nat → Prop} (h : KeptBut' a b S) {p : Addr} (hp : S p.block) (u : Value) : KeptBut' a (b.setCell p u) S :=
  ⟨h.os, h.tape, h.output, by simpa [World.setCell] using h.size, fun k hk hs => (Below.heap_setCell b p u k (fun e => hs (by rw [e]; exact hp))).trans (h.block k hk hs)⟩
theorem KeptBut'.drew {a b : World} {S : Nat → Prop} (h : KeptBut' a b S) : KeptBut' a b.drew S := ⟨h.os, h.tape, h.output, h.size, h.block⟩
theorem KeptBut'.drewN {a b : World} {S : Nat → Prop} (h : KeptBut' a b S) (n : Nat) : KeptBut' a (b.drewN n) S := ⟨h.os, h.tape, h.output, h.size, h.block⟩
theorem KeptBut'.trans {a b c : World} {S : Nat → Prop} (h : KeptBut' a b S) (k : KeptBut' b c S) : KeptBut' a c S :=
  ⟨k.os.trans h.os, k.tape.trans h.tape, k.output.trans h.output, Nat.le_trans h.size k.size, fun i hi hs => (k.block i (Nat.lt_of_lt_of_le hi h.size) hs).trans (h.block i hi hs)⟩
theorem keep_set {a b : World} {g : Nat} (h : KeptBut' a b (· = g)) (i : Nat) (u : Value) : KeptBut' a (b.setCell ⟨g, i, none⟩ u) (· = g) := KeptBut'.setCell h (p := ⟨g, i, none⟩) rfl u
theorem keep_set6 {a b : World} {g : Nat} (h : KeptBut' a b (· = g)) (i1 i2 i3 i4 i5 i6 : Nat) (u1 u2 u3 u4 u5 u6 : Value) :
    KeptBut' a ((((((b.setCell ⟨g, i1, none⟩ u1).setCell ⟨g, i2, none⟩ u2).setCell ⟨g, i3, none⟩ u3).setCell ⟨g, i4, none⟩ u4).setCell ⟨g, i5, none⟩ u5).setCell ⟨g, i6, none⟩ u6).drew (· = g) :=
  (keep_set (keep_set (keep_set (keep_set (keep_set (keep_set h i1 u1) i2 u2) i3 u3) i4 u4) i5 u5) i6 u6).drew
theorem SRow.drew {w : World} {g : Nat} {l : List Ed} {rest : List Value} (h : SRow w g l rest) : SRow w.drew g l rest := h
theorem SRow.swap {w : World} {g : Nat} {l : List Ed} {rest : List Value} (h : SRow w g l rest) (i j : Nat) (hi : i < l.length) (hj : j < l.length) (x y : Ed) :
    SRow ((((((w.setCell ⟨g, i * 3, none⟩ (.int .i64 y.f)).setCell ⟨g, i * 3 + 1, none⟩ (.int .i64 y.t)).setCell ⟨g, i * 3 + 2, none⟩ (.string ⟨y.s.toArray⟩)).setCell ⟨g, j * 3, none⟩ (.int .i64 x.f)).setCell ⟨g, j * 3 + 1, none⟩ (.int .i64 x.t)).setCell ⟨g, j * 3 + 2, none⟩ (.string ⟨x.s.toArray⟩)).drew g ((l.set i y).set j x) rest :=
  SRow.drew ((h.set3 i hi y).set3 j (by rw [List.length_set]; exact hj) x)
theorem SRow.lt {w : World} {g : Nat} {l : List Ed} {rest : List Value} (h : SRow w g l rest) : g < w.heap.size := (Array.getElem?_eq_some_iff.1 h).1
def ltEd (x y : Ed) : Bool := decide (cmpEd x y < 0)
def fnv : Value := .func (Fn.func 35) #[] #[]
set_option maxHeartbeats 1000000 in
theorem insertion_any (g cap a b : Nat) (l : List Ed) (rest : List Value) (w : World) (hr : SRow w g l rest) (hb : b ≤ l.length) (hl : l.length ≤ 1073741824) (ha : a ≤ 1073741824) :
    Calls Try.prog 43 #[.slice (some ⟨g, 0, none⟩) l.length cap, .int .i64 a, .int .i64 b, .func (Fn.func 35) #[] #[]] w fun e w' => e = .returned (.tuple #[]) ∧ SRow w' g (Sp.isort ltEd a b l) rest ∧ KeptBut' w w' (· = g) := by
  go_enter Try.func43, Try.ntmps43
  go_wp2_with fail
  go_loopw [8] (fun i wr => ∃ m : Nat, (a + 1 + m ≤ b ∨ m = 0) ∧ i = .int .i64 ((a + 1 + m : Nat) : Int) ∧ SRow wr g (Sp.isortN ltEd a m l) rest ∧ KeptBut' w wr (· = g)) (fun i _ => (b - intOf i).toNat)
  case atStart => exact ⟨0, by omega, by go_num, hr, KeptBut'.refl _ _⟩
  case round =>
    obtain ⟨m, hm, rfl, hS, hK⟩ := hrel
    by_cases hlt : a + 1 + m < b
    · have hLl := Sp.isortN_length ltEd a m l
      obtain ⟨k, hk⟩ : ∃ k, k = a + 1 + m := ⟨_, rfl⟩
      rw [← hk] at hlt
      have HNEXT : Hid (Sp.isortN ltEd a (m + 1) l = Sp.insK ltEd (Sp.isortN ltEd a m l) a k) := Lib.hid (by rw [hk]; rfl)
      rw [← hk]
      have HK := Lib.hid hk
      have hkb : k ≤ b := by omega
      have hak : a < k := by omega
      clear hk
      generalize Sp.isortN ltEd a m l = L at *
      have hkL : k < L.length := by omega
      have HINS : Hid (Sp.insK ltEd L a k = Sp.put L k (Sp.insAt ltEd L[k] L a k)) := Lib.hid (by simp [Sp.insK, List.getElem?_eq_getElem hkL])
      have HX : Hid (L[k]? = some L[k]) := Lib.hid (List.getElem?_eq_getElem hkL)
      have HGJ : Hid (∀ j, j ≤ k → (Sp.put L k j)[j]? = some L[k]) := Lib.hid fun j hj => Sp.put_get_j L k j hj hkL
      have HGI : Hid (∀ j i, i < j → j ≤ k → (Sp.put L k j)[i]? = L[i]?) := Lib.hid fun j i h1 h2 => Sp.put_get_lt L k j i h1 h2 hkL
      have HPL : Hid (∀ j, j ≤ k → (Sp.put L k j).length = l.length) := Lib.hid fun j hj => by rw [Sp.put_length L k j hj, hLl]
      have HSW : Hid (∀ i (hi : i < k), ((Sp.put L k (i + 1)).set (i + 1) (L[i]'(by omega))).set i L[k] = Sp.put L k i) := Lib.hid fun i hi => Sp.put_swap L k i hi hkL
      have HLL := Lib.hid hLl
      have hS0 : SRow wr g (Sp.put L k k) rest := by rw [Sp.put_self]; exact hS
      have HIA : Hid (∀ j, Sp.insAt ltEd L[k] L a (j + 1) = if a ≤ j ∧ (L[j]?.map (ltEd L[k])) = some true then Sp.insAt ltEd L[k] L a j else j + 1) := Lib.hid fun j => rfl
      generalize L[k] = x at *
      clear hLl hS
      go_wp2_with fail
      obtain ⟨wo, hwo⟩ : ∃ wo : World, wo = wr := ⟨_, rfl⟩
      subst hwo
      go_loopw [9] (fun i wr => ∃ j : Nat, a ≤ j ∧ j ≤ k ∧ i = .int .i64 j ∧ Hid (Sp.insAt ltEd x L a k = Sp.insAt ltEd x L a j) ∧ SRow wr g (Sp.put L k j) rest ∧ KeptBut' w wr (· = g)) (fun i _ => (intOf i).toNat)
      case atStart => exact ⟨k, by omega, by omega, rfl, Lib.hid rfl, hS0, hK⟩
      case round =>
        clear hS0 hK
        obtain ⟨j, hj1, hj2, rfl, HJ, hS, hK⟩ := hrel
        have hjl : j < (Sp.put L k j).length := by rw [HPL.out j hj2]; omega
        have hpl := HPL.out j hj2
        by_cases hja : a < j
        · obtain ⟨c1, c2, c3⟩ := hS.cell j hjl
          have hx : (Sp.put L k j)[j] = x := by have := HGJ.out j hj2; rw [List.getElem?_eq_getElem hjl] at this; injection this
          rw [hx] at c1 c2 c3
          obtain ⟨i, rfl⟩ : ∃ i, j = i + 1 := ⟨j - 1, by omega⟩
          obtain ⟨d1, d2, d3⟩ := hS.cell i (by omega)
          have hiL : i < L.length := by omega
          have hy : (Sp.put L k (i + 1))[i]'(by omega) = L[i] := by
            have := HGI.out (i + 1) i (by omega) hj2
            rw [List.getElem?_eq_getElem (show i < (Sp.put L k (i + 1)).length by omega), List.getElem?_eq_getElem hiL] at this; injection this
          rw [hy] at d1 d2 d3
          have HIA2 := HIA.out i
          rw [List.getElem?_eq_getElem hiL] at HIA2
          have HSW2 := Lib.hid (HSW.out i (by omega))
          generalize L[i] = y at *
          have HIA3 := Lib.hid HIA2
          clear HIA2 hx hy
          have hpl2 : Hid ((Sp.put L k (i + 1)).length = l.length) := Lib.hid hpl
          clear hpl
          have hil : i < l.length := by omega
          have hil2 : i + 1 < l.length := by omega
          have hga : g < wr.heap.size := World.block_lt_of_cell? wr _ c1
          go_wp2_with fail
          rw [Int.natCast_succ]
          have b0 : (0 : Int) ≤ (i : Int) + 1 := by omega
          have b1 : (i : Int) + 1 < l.length := by omega
          have b2 : (i : Int) < l.length := by omega
          have b3 : (a : Int) < (i : Int) + 1 := by omega
          have b4 : (0 : Int) ≤ (i : Int) := by omega
          have w1 : IntKind.i64.wrap ((i : Int) + 1 - 1) = i := by rw [IntWalk.i64_in _ (by omega)]; omega
          have w2 : IntKind.i64.wrap (i : Int) = i := IntWalk.i64_in _ (by omega)
          have t1 : ((i : Int) + 1).toNat = i + 1 := by omega
          go_region_held3 (fun w' => w'.cell? ⟨g, (i + 1) * 3, none⟩ = some (.int .i64 x.f) ∧ w'.cell? ⟨g, (i + 1) * 3 + 1, none⟩ = some (.int .i64 x.t) ∧ w'.cell? ⟨g, (i + 1) * 3 + 2, none⟩ = some (.string ⟨x.s.toArray⟩) ∧ w'.cell? ⟨g, i * 3, none⟩ = some (.int .i64 y.f) ∧ w'.cell? ⟨g, i * 3 + 1, none⟩ = some (.int .i64 y.t) ∧ w'.cell? ⟨g, i * 3 + 2, none⟩ = some (.string ⟨y.s.toArray⟩))
            (first | go_keep | exact ⟨(hbc.cell (p := ⟨g, (i + 1) * 3, none⟩) hga).trans c1, (hbc.cell (p := ⟨g, (i + 1) * 3 + 1, none⟩) hga).trans c2, (hbc.cell (p := ⟨g, (i + 1) * 3 + 2, none⟩) hga).trans c3, (hbc.cell (p := ⟨g, i * 3, none⟩) hga).trans d1, (hbc.cell (p := ⟨g, i * 3 + 1, none⟩) hga).trans d2, (hbc.cell (p := ⟨g, i * 3 + 2, none⟩) hga).trans d3⟩)
            ((go_at_call 35; refine (joincmp_any x y _).mono ?_; rintro e w' ⟨rfl, hbc⟩))
          obtain ⟨w3, hw3⟩ : ∃ w3 : World, w3 = w' := ⟨_, rfl⟩
          subst hw3
          have e1 := (hbc.cell (p := ⟨g, (i + 1) * 3, none⟩) hga).trans c1
          have e2 := (hbc.cell (p := ⟨g, (i + 1) * 3 + 1, none⟩) hga).trans c2
          have e3 := (hbc.cell (p := ⟨g, (i + 1) * 3 + 2, none⟩) hga).trans c3
          have e4 := (hbc.cell (p := ⟨g, i * 3, none⟩) hga).trans d1
          have e5 := (hbc.cell (p := ⟨g, i * 3 + 1, none⟩) hga).trans d2
          have e6 := (hbc.cell (p := ⟨g, i * 3 + 2, none⟩) hga).trans d3
          have hS3 : SRow w3 g (Sp.put L k (i + 1)) rest := (hbc.block g hga).trans hS
          have hK3 : KeptBut' w w3 (· = g) := (hK.drew).later hbc
          have ff : ∀ z, w3.frozen? ⟨g, z, none⟩ = false := fun z => hS3.frozen z
          clear c1 c2 c3 d1 d2 d3 hbc hS hK
          by_cases hc : cmpEd x y < 0
          · have HV : Hid (Sp.insAt ltEd x L a k = Sp.insAt ltEd x L a i) := Lib.hid (by rw [HJ.out, HIA3.out, if_pos ⟨by omega, by simp [ltEd, hc]⟩])
            go_wp2_with fail
            go_region
            go_wp2_with fail
            go_roundw
            case rel =>
              refine ⟨i, by omega, by omega, rfl, HV, ?_, ?_⟩
              · rw [← HSW2.out]
                exact hS3.swap (i + 1) i (by rw [hpl2.out]; omega) (by rw [hpl2.out]; omega) x y
              · exact keep_set6 hK3 _ _ _ _ _ _ _ _ _ _ _ _
            case measure => simp [intOf] <;> omega
          · have HV : Hid (Sp.insAt ltEd x L a k = i + 1) := Lib.hid (by rw [HJ.out, HIA3.out, if_neg (by simp [ltEd, hc])])
            go_wp2_with fail
            go_roundw
            case rel =>
              refine ⟨m + 1, by have := HK.out; omega, by have := HK.out; go_num, ?_, hK3⟩
              rw [HNEXT.out, HINS.out, HV.out]; exact hS3
            case measure => simp [intOf] <;> (have := HK.out; omega)
        · obtain rfl : j = a := by omega
          have hself : Sp.insAt ltEd x L j j = j := by
            cases j with
            | zero => rfl
            | succ i => rw [Sp.insAt, if_neg (by omega)]
          have HV : Hid (Sp.insAt ltEd x L j k = j) := Lib.hid (by rw [HJ.out, hself])
          clear hself
          have hd : decide ((j : Int) < (j : Int)) = false := by simp
          clear hja
          go_wp2_with fail
          go_quiet (fail)
          go_wp2_with fail
          go_roundw
          case rel =>
            refine ⟨m + 1, by have := HK.out; omega, by have := HK.out; go_num, ?_, hK.drewN _⟩
            rw [HNEXT.out, HINS.out, HV.out]; exact hS
          case measure => simp [intOf] <;> (have := HK.out; omega)
    · have HE : Hid (Sp.isortN ltEd a m l = Sp.isort ltEd a b l) := Lib.hid (by unfold Sp.isort; congr 1; omega)
      go_wp2_with fail
      go_end0
      exact ⟨rfl, by rw [← HE.out]; exact hS, hK⟩
end Go.Proofs.Ytnnicjbceadnbaa
