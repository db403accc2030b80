/- Walks of the reference: Check, Cells, Text, Equal. -/
import Derived.Test.YtnnicjbceadnbaaWords
import Derived.Test.YtnnicjbceadnbaaRow
import Derived.Test.YtnnicjbceadnbaaPlainC
import Derived.Test.YtnnicjbceadnbaaWalk1
namespace Go.Proofs.Ytnnicjbceadnbaa
open Go.RowKit
open Sp (Ed Ce chk)
def ceL : Lay Ce := { enc := fun c => [.int .i64 c.o, .int .u8 c.b.toNat], sz := 2, len := fun _ => rfl, one := fun x u hu => by simp at hu; rcases hu with rfl | rfl <;> rfl, pos := by omega }
def byL : Lay UInt8 := { enc := fun b => [.int .u8 b.toNat], sz := 1, len := fun _ => rfl, one := fun x u hu => by simp at hu; subst hu; rfl, pos := by omega }
theorem ceT : SliceT Try.prog ceL 31 59 16 := ⟨Try.underlying31, by
  obtain ⟨i, h, h1, h2, h3⟩ := info_parts (show (Try.prog.info? 59).map (fun i => (i.zero, i.size, i.bytes)) = some (some (.agg #[.int .i64 0, .int .u8 0]), 2, 16) by kernel_rfl)
  exact ⟨i, _, h, h1, h2, h3, rfl⟩, by omega⟩
theorem byT : SliceT Try.prog byL 57 5 1 := ⟨Try.underlying57, by
  obtain ⟨i, h, h1, h2, h3⟩ := info_parts (show (Try.prog.info? 5).map (fun i => (i.zero, i.size, i.bytes)) = some (some (.int .u8 0), 1, 1) by kernel_rfl)
  exact ⟨i, _, h, h1, h2, h3, rfl⟩, by omega⟩

theorem conv_bytes (w : World) (s : List UInt8) (A : Option Addr) (c : Nat) {B : Nat} (h : RowAt byL w B A s) : (convert 57 9 (.slice A s.length c)).run Try.prog w = .ok (.string ⟨s.toArray⟩) w := by
  cases s with
  | nil =>
    cases A with
    | none => exact run_convert_bytes_nil (P := Try.prog) w 57 5 Try.underlying57 Try.underlying5 0 c 9 Try.underlying9
    | some a => exact run_convert_bytes_back (P := Try.prog) w 57 9 5 a c [] Try.underlying57 Try.underlying5 Try.underlying9 (fun j hj => by simp at hj)
  | cons b r =>
    obtain ⟨ad, rfl, _, _⟩ := h.get (k := 0) (by simp)
    refine run_convert_bytes_back (P := Try.prog) w 57 9 5 ad c (b :: r) Try.underlying57 Try.underlying5 Try.underlying9 (fun j hj => ?_)
    obtain ⟨ad', e, _, h0, _⟩ := h.get hj
    cases e
    have := h0 _ rfl
    simpa [byL] using this
theorem ceGet {w : World} {B : Nat} {A : Option Addr} {l : List Ce} {k : Nat} (h : RowAt ceL w B A l) (hk : k < l.length) :
    ∃ ad, A = some ad ∧ ad.block < B ∧ w.cell? (ad.add (k * 2)) = some (.int .i64 l[k].o) ∧ w.cell? { block := (ad.add (k * 2)).block, off := (ad.add (k * 2)).off + 1 } = some (.int .u8 l[k].b.toNat) := by
  obtain ⟨ad, e, hb, h0, hj⟩ := h.get hk
  exact ⟨ad, e, hb, h0 _ rfl, hj 1 _ (by omega) rfl⟩
theorem behind_succ (l : List Ed) (k : Nat) (hk : k < l.length) : Sp.behind l (k + 1) = (l[k].t, if l[k].f = l[k].t then l[k].f else -1) := by
  simp [Sp.behind, List.getElem?_eq_getElem hk]

set_option maxHeartbeats 1000000 in
theorem rcells_any (s : List UInt8) (hs : s.length ≤ 1073741824) (w : World) :
    Calls Try.prog 17 #[.string ⟨s.toArray⟩] w fun e w' => ∃ v, e = .returned v ∧ OwnRow ceL w' w.heap.size 59 v (Sp.cells s) ∧ Below w.heap.size w w' := by
  go_enter Try.func17, Try.ntmps17
  go_wp2_with fail
  go_loopw [3, 4] (fun v i wr => ∃ k : Nat, k ≤ s.length ∧ i = .int .i64 k ∧ OwnRow ceL wr w.heap.size 59 v (Sp.cells (s.take k)) ∧ Below w.heap.size w wr) (fun _ i _ => (s.length - intOf i).toNat)
  case atStart => exact ⟨0, by omega, rfl, OwnRow.nil, Below.refl _ _⟩
  case round =>
    obtain ⟨k, hk, rfl, hown, hb⟩ := hrel
    have hz := hb.size
    by_cases hlt : k < s.length
    · have hsn : Sp.cells (s.take (k + 1)) = Sp.cells (s.take k) ++ [⟨k, s[k]⟩] := by
        rw [Sp.take_snoc s k hlt, Sp.cells, Sp.cellsFrom_snoc, Sp.cells]; simp; omega
      have hln : (Sp.cells (s.take k)).length ≤ k := by rw [Sp.cells, Sp.cellsFrom_len, List.length_take]; omega
      have HS := Lib.hid hsn
      have HL := Lib.hid hln
      clear hsn hln
      go_wp2_with (at_builtin; go_must (refine wpList_append_row _ rfl (.tmp 11) (.tmp 17) 31 59 16 rfl ceT w.heap.size _ _ rfl (hown.alloc _) _ _ 1 [⟨k, s[k]⟩] rfl (RowAt.lit1 _ _ rfl _ ?_) ?_ ?_ ?_))
      any_goals (first | rfl | omega | (have := HL.out; simp only [List.length_singleton]; omega) | (rw [World.size_alloc]; omega))
      intro v1 w1 hown1 hg1 hat1
      have hB := (hb.alloc hz _).trans ((hown.alloc _).grown_below hg1 (by rw [World.size_alloc]; omega))
      go_wp2_with fail
      go_roundw
      case rel => exact ⟨k + 1, by omega, by go_num, by rw [HS.out]; exact hown1, hB⟩
      case measure => simp [intOf]; omega
    · go_wp2_with fail
      go_ret
      rw [List.take_of_length_le (by omega)] at hown
      exact ⟨_, rfl, hown, hb⟩

set_option maxHeartbeats 1000000 in
theorem rtext_any (l : List Ce) (A : Option Addr) (c : Nat) (hl : l.length ≤ 1073741824) (w : World) (hr : RowAt ceL w w.heap.size A l) :
    Calls Try.prog 15 #[.slice A l.length c] w fun e w' => e = .returned (.string ⟨(Sp.textOf l).toArray⟩) ∧ Below w.heap.size w w' := by
  go_enter Try.func15, Try.ntmps15
  go_wp2_with fail
  go_loopw [3, 4] (fun v i wr => ∃ k : Nat, k ≤ l.length ∧ i = .int .i64 k ∧ OwnRow byL wr w.heap.size 5 v (Sp.textOf (l.take k)) ∧ Below w.heap.size w wr) (fun _ i _ => (l.length - intOf i).toNat)
  case atStart => exact ⟨0, by omega, rfl, OwnRow.nil, Below.refl _ _⟩
  case round =>
    obtain ⟨k, hk, rfl, hown, hb⟩ := hrel
    have hz := hb.size
    by_cases hlt : k < l.length
    · obtain ⟨ad, rfl, hab, c0, c1⟩ := ceGet (hr.below hb) hlt
      have hsn : Sp.textOf (l.take (k + 1)) = Sp.textOf (l.take k) ++ [l[k].b] := by
        rw [Sp.take_snoc l k hlt]; simp only [Sp.textOf, List.map_append, List.map_cons, List.map_nil]
      have hln : (Sp.textOf (l.take k)).length ≤ k := by simp [Sp.textOf]; omega
      generalize l[k] = x at *
      have HS := Lib.hid hsn
      have HL := Lib.hid hln
      clear hsn hln
      go_wp2_with (at_builtin; go_must (refine wpList_append_row _ rfl (.tmp 11) (.tmp 17) 57 5 1 rfl byT w.heap.size _ _ rfl (hown.alloc _) _ _ 1 [x.b] rfl (RowAt.lit1 _ _ rfl _ ?_) ?_ ?_ ?_))
      any_goals (first | rfl | omega | (have := HL.out; simp only [List.length_singleton]; omega) | (rw [World.size_alloc]; omega))
      intro v1 w1 hown1 hg1 hat1
      have hB := (hb.alloc hz _).trans ((hown.alloc _).grown_below hg1 (by rw [World.size_alloc]; omega))
      go_wp2_with fail
      go_roundw
      case rel => exact ⟨k + 1, by omega, by go_num, by rw [HS.out]; exact hown1, hB⟩
      case measure => simp [intOf]; omega
    · obtain rfl : k = l.length := by omega
      rw [List.take_length] at hown
      obtain ⟨A1, c1, rfl, hr1⟩ := hown.form
      have hcv := conv_bytes wr (Sp.textOf l) A1 c1 hr1
      go_wp2_with fail
      go_ret
      exact ⟨rfl, hb⟩

/-- equal lists of edits, from an index on. -/
theorem eqEd (x y : Ed) (w : World) :
    (Op.equalIn 10000 48 (.agg #[.int .i64 x.f, .int .i64 x.t, .string ⟨x.s.toArray⟩]) (.agg #[.int .i64 y.f, .int .i64 y.t, .string ⟨y.s.toArray⟩])).run Try.prog w = .ok (decide (x = y)) w := by
  have hf : Try.prog.fieldsOf 48 = #[⟨ "From", 3, 0, false, "", "", 0⟩, ⟨ "To", 3, 1, false, "", "", 8⟩, ⟨ "Text", 9, 2, false, "", "", 16⟩] := by kernel_rfl
  rw [run_equalIn_agg w 9999 48 _ _ (by kernel_rfl) (by kernel_rfl), hf]
  simp [Op.eqFields, go_sem]
  obtain ⟨f, t, s⟩ := x
  obtain ⟨f', t', s'⟩ := y
  by_cases e1 : f = f' <;> by_cases e2 : t = t' <;> by_cases e3 : s = s' <;> simp [e1, e2, e3]
set_option maxHeartbeats 1000000 in
theorem requal_any (l m : List Ed) (A B : Option Addr) (c d : Nat) (hl : l.length ≤ 1073741824) (_hm : m.length ≤ 1073741824) (w : World) (hr : EdsAt w w.heap.size A l) (hr2 : EdsAt w w.heap.size B m) :
    Calls Try.prog 19 #[.slice A l.length c, .slice B m.length d] w fun e w' => e = .returned (.bool (decide (l = m))) ∧ ∃ n, w' = w.drewN n := by
  by_cases hlm : l.length = m.length
  · have hb : ((l.length : Int) != (m.length : Int)) = false := by simp [hlm]
    have HLM := Lib.hid hlm
    clear hlm
    go_enter Try.func19, Try.ntmps19
    go_wp2_with fail
    go_loopw [5] (fun i wr => ∃ k : Nat, k ≤ l.length ∧ i = .int .i64 k ∧ Hid (l.take k = m.take k) ∧ ∃ n, wr = w.drewN n) (fun i _ => (l.length - intOf i).toNat)
    case atStart => exact ⟨0, by omega, rfl, Lib.hid rfl, 0, rfl⟩
    case round =>
      obtain ⟨k, hk, rfl, heq, q, rfl⟩ := hrel
      by_cases hlt : k < l.length
      · have hlt2 : k < m.length := by have := HLM.out; omega
        obtain ⟨ad, rfl, hab, c1, c2, c3⟩ := EdsAt.at_ hr hlt
        obtain ⟨ad', rfl, hab', d1, d2, d3⟩ := EdsAt.at_ hr2 hlt2
        have h1 := Sp.take_snoc l k hlt
        have h2 := Sp.take_snoc m k hlt2
        have he := eqEd l[k] m[k]
        have hgl : l[k]? = some l[k] := List.getElem?_eq_getElem hlt
        have hgm : m[k]? = some m[k] := List.getElem?_eq_getElem hlt2
        have HGL := Lib.hid hgl
        have HGM := Lib.hid hgm
        clear hgl hgm
        generalize l[k] = x at *
        generalize m[k] = y at *
        have H1 := Lib.hid h1
        have H2 := Lib.hid h2
        clear h1 h2
        by_cases hxy : x = y
        · have hd : decide (x = y) = true := by simpa using hxy
          have HXY := Lib.hid hxy
          rw [hd] at he
          clear hxy hd
          go_wp2_with fail
          go_quiet (fail)
          go_wp2_with fail
          go_roundw
          case rel => exact ⟨k + 1, by omega, by go_num, by have a := H1.out; have b := H2.out; rw [← HXY.out, ← heq.out] at b; exact a.trans b.symm, _, rfl⟩
          case measure => simp [intOf]; omega
        · have hd : decide (x = y) = false := by simpa using hxy
          have hne : decide (l = m) = false := by
            simp; intro h; apply hxy
            have a := HGL.out; have b := HGM.out
            rw [h, b] at a; injection a with a; exact a.symm
          have HNE := Lib.hid hne
          rw [hd] at he
          clear hxy hd hne
          go_wp2_with fail
          go_quiet (fail)
          go_wp2_with fail
          go_ret
          exact ⟨ret_bool HNE.out.symm, _, World.drewN_drewN _ _ _⟩
      · have hE : decide (l = m) = true := by
          have a := heq.out
          rw [List.take_of_length_le (by omega), List.take_of_length_le (by have := HLM.out; omega)] at a
          simpa using a
        have HE := Lib.hid hE
        clear hE
        go_wp2_with fail
        go_ret
        exact ⟨ret_bool HE.out.symm, _, rfl⟩
  · have hb : ((l.length : Int) != (m.length : Int)) = true := by simp; omega
    have hne : decide (l = m) = false := by simp; intro h; exact hlm (by rw [h])
    have HNE := Lib.hid hne
    clear hlm hne
    go_enter Try.func19, Try.ntmps19
    go_wp2_with fail
    go_ret
    exact ⟨ret_bool HNE.out.symm, 0, rfl⟩
end Go.Proofs.Ytnnicjbceadnbaa
