/- Walks: fail; the encoding of one rune. -/
import Derived.Test.YtegdemnfjmaicaaDoorWalk3
import Derived.Outline
namespace Go.Proofs.YtegdemnfjmaicaaDoor
open Go.RowKit
/-- what a failure leaves in the parser. -/
def FailAt (w w' : World) (pb a e : Nat) : Prop := w' = (w.setCell ⟨pb, 9, none⟩ (.int .i64 a)).setCell ⟨pb, 10, none⟩ (.int .i64 e)
set_option maxHeartbeats 1000000 in
theorem fail_any (pb a e : Nat) (cs : Array Value) (w : World) (hp : w.heap[pb]? = some (.cells cs 62 (0, 0))) (hcs : cs.size = 11) :
    Calls Tryd.prog 39 #[.pointer (some ⟨pb, 0, none⟩), .int .i64 a, .int .i64 e] w fun r w' => r = .returned (.bool false) ∧ FailAt w w' pb a e := by
  have c9 : w.cell? ⟨pb, 9, none⟩ = some (cs[9]'(by omega)) := by
    have := Blk.cell (w := w) (g := pb) (t := 62) (cs := cs) hp 9
    rw [this, Array.getElem?_eq_getElem (by omega)]
  have c10 : w.cell? ⟨pb, 10, none⟩ = some (cs[10]'(by omega)) := by
    have := Blk.cell (w := w) (g := pb) (t := 62) (cs := cs) hp 10
    rw [this, Array.getElem?_eq_getElem (by omega)]
  have f9 : ∀ i, w.frozen? ⟨pb, i, none⟩ = false := fun i => Blk.frozen (w := w) (g := pb) (t := 62) (cs := cs) hp i
  go_enter Tryd.func39, Tryd.ntmps39
  go_wp2_with fail
  go_ret
  exact ⟨rfl, rfl⟩
def byL : Lay UInt8 := { enc := fun b => [.int .u8 b.toNat], sz := 1, len := fun _ => rfl, one := fun x u hu => by simp at hu; subst hu; rfl, pos := by omega }
theorem byT : SliceT Tryd.prog byL 92 5 1 := ⟨Tryd.underlying92, by
  obtain ⟨i, h, h1, h2, h3⟩ := info_parts (show (Tryd.prog.info? 5).map (fun i => (i.zero, i.size, i.bytes)) = some (some (.int .u8 0), 1, 1) by kernel_rfl)
  exact ⟨i, _, h, h1, h2, h3, rfl⟩, by omega⟩

theorem conv_bytes (w : World) (s : List UInt8) (A : Option Addr) (c : Nat) {B : Nat} (h : RowAt byL w B A s) : (convert 92 9 (.slice A s.length c)).run Tryd.prog w = .ok (.string ⟨s.toArray⟩) w := by
  cases s with
  | nil =>
    cases A with
    | none => exact run_convert_bytes_nil (P := Tryd.prog) w 92 5 Tryd.underlying92 Tryd.underlying5 0 c 9 Tryd.underlying9
    | some a => exact run_convert_bytes_back (P := Tryd.prog) w 92 9 5 a c [] Tryd.underlying92 Tryd.underlying5 Tryd.underlying9 (fun j hj => by simp at hj)
  | cons b r =>
    obtain ⟨ad, rfl, _, _⟩ := h.get (k := 0) (by simp)
    refine run_convert_bytes_back (P := Tryd.prog) w 92 9 5 ad c (b :: r) Tryd.underlying92 Tryd.underlying5 Tryd.underlying9 (fun j hj => ?_)
    obtain ⟨ad', e, _, h0, _⟩ := h.get hj
    cases e
    have := h0 _ rfl
    simpa [byL] using this
theorem runeCells_enc (n : Nat) (h : Ini.isScalar n = true) : Lib.runeCells (n : Int) = (Ini.enc n).map (fun b => Value.int .u8 b.toNat) := by
  simp only [Ini.isScalar, Bool.and_eq_true, decide_eq_true_eq, Bool.not_eq_true', Bool.and_eq_false_iff, decide_eq_false_iff_not] at h
  have hb : ∀ k : Nat, k < 256 → ((UInt8.ofNat k).toNat : Int) = (k : Int) := by
    intro k hk
    rw [UInt8.toNat_ofNat_of_lt' (by simpa using hk)]
  unfold Lib.runeCells Ini.enc
  by_cases h1 : n < 128
  · rw [if_pos h1, Lib.encodeRuneZ_one (by omega) (by omega)]
    simp only [List.map_cons, List.map_nil]
    rw [hb n (by omega)]
  · rw [if_neg h1]
    by_cases h2 : n < 2048
    · rw [if_pos h2, Lib.encodeRuneZ_two (by omega) (by omega)]
      simp only [List.map_cons, List.map_nil]
      rw [hb _ (by omega), hb _ (by omega)]
      rfl
    · rw [if_neg h2]
      by_cases h3 : n < 65536
      · rw [if_pos h3, Lib.encodeRuneZ_three (by omega)]
        simp only [List.map_cons, List.map_nil]
        rw [hb _ (by omega), hb _ (by omega), hb _ (by omega)]
        rfl
      · rw [if_neg h3, Lib.encodeRuneZ_four (by omega) (by omega)]
        simp only [List.map_cons, List.map_nil]
        rw [hb _ (by omega), hb _ (by omega), hb _ (by omega), hb _ (by omega)]
        rfl
theorem enc_len (n : Nat) : (Ini.enc n).length ≤ 4 := by
  unfold Ini.enc
  repeat' split
  all_goals simp
theorem valid_enc (n : Nat) : Lib.validRune (n : Int) = Ini.isScalar n := by
  unfold Lib.validRune Ini.isScalar
  rw [Bool.eq_iff_iff]
  simp only [decide_eq_true_eq, Bool.and_eq_true, Bool.not_eq_true', Bool.and_eq_false_iff, decide_eq_false_iff_not]
  omega
set_option maxRecDepth 100000 in
set_option maxHeartbeats 1000000 in
theorem encode_no (n g : Nat) (w : World) (hc : w.cell? ⟨g, 0, none⟩ = some (.int .i32 n)) (hv : Ini.isScalar n = false) :
    Calls Tryd.prog 59 #[.slice (some ⟨g, 0, none⟩) 1 1] w fun e w' => e = .returned (.tuple #[.string ⟨#[]⟩, .int .i64 11]) ∧ Below w.heap.size w w' := by
  have hve := valid_enc n
  rw [hv] at hve
  have HVE := Lib.hid hve
  clear hve hv
  go_enter Tryd.func59, Tryd.ntmps59
  go_wp2_with fail
  go_loopw [9] (fun i wr => i = .int .i64 0 ∧ wr = w) (fun _ _ => 0)
  case atStart => exact ⟨rfl, rfl⟩
  case round =>
    obtain ⟨rfl, rfl⟩ := hrel
    go_wp2_with fail
    refine (Tryd.utf8_ValidRune _ _).mono ?_
    rw [HVE.out]
    rintro e w' ⟨rfl, rfl⟩
    go_wp2_with fail
    go_ret2
    exact ⟨rfl, Below.refl _ _⟩
set_option maxRecDepth 100000 in
set_option maxHeartbeats 1000000 in
theorem encode_yes (n g : Nat) (w : World) (hc : w.cell? ⟨g, 0, none⟩ = some (.int .i32 n)) (hv : Ini.isScalar n = true) (hn : n ≤ 2147483647) :
    Calls Tryd.prog 59 #[.slice (some ⟨g, 0, none⟩) 1 1] w fun e w' => e = .returned (.tuple #[.string ⟨(Ini.enc n).toArray⟩, .int .i64 0]) ∧ Below w.heap.size w w' := by
  have hve := valid_enc n
  rw [hv] at hve
  have HRC := Lib.hid (runeCells_enc n hv)
  have HVE := Lib.hid hve
  have HN := Lib.hid hn
  clear hve hv hn
  go_enter Tryd.func59, Tryd.ntmps59
  go_wp2_with fail
  go_loopw [4, 9] (fun v i wr => (i = .int .i64 0 ∧ v = .slice none 0 0 ∧ w = wr) ∨ (i = .int .i64 1 ∧ OwnRow byL wr w.heap.size 5 v (Ini.enc n) ∧ Below w.heap.size w wr)) (fun _ i _ => (1 - intOf i).toNat)
  case atStart => exact .inl ⟨rfl, rfl, rfl⟩
  case round =>
    rcases hrel with ⟨rfl, rfl, hw⟩ | ⟨rfl, hown, hb⟩
    · rw [← hw]
      clear hw
      go_wp2_with fail
      refine (Tryd.utf8_ValidRune _ _).mono ?_
      rw [HVE.out]
      rintro e w' ⟨rfl, hw'⟩
      rw [hw']
      clear hw'
      go_wp2_with fail
      refine (Tryd.utf8_AppendRune_plain w.heap.size _ 0 [] n (by omega) (by have := HN.out; omega) w (World.ownsRow_nil w w.heap.size 5 1) (by omega) (Nat.le_refl _)).mono ?_
      rintro e w2 ⟨v2, rfl, hown, o, hgr⟩
      have hB : Below w.heap.size w w2 := ((Below.refl _ w).alloc (Nat.le_refl _) _).grown hgr (by simp) (fun k hk => by simp [Value.ownBlock] at hk)
      have HO : Hid (OwnRow byL w2 w.heap.size 5 v2 (Ini.enc n)) := Lib.hid (by
        rw [HRC.out, List.nil_append, List.length_map, Nat.zero_add] at hown
        have e : byL.all (Ini.enc n) = (Ini.enc n).map (fun b => Value.int .u8 b.toNat) := by
          unfold Lay.all
          show (Ini.enc n).flatMap (fun b => [Value.int .u8 b.toNat]) = _
          rw [← List.map_eq_flatMap]
        unfold OwnRow
        rw [e]
        exact hown)
      clear hown hgr
      go_wp2_with fail
      go_roundw
      case rel => exact .inr ⟨rfl, HO.out, hB⟩
      case measure => simp [intOf]
    · obtain ⟨A1, c1, rfl, hr1⟩ := hown.form
      have hcv := conv_bytes wr (Ini.enc n) A1 c1 hr1
      clear hown
      go_wp2_with fail
      go_ret2
      exact ⟨rfl, hb⟩
end Go.Proofs.YtegdemnfjmaicaaDoor
