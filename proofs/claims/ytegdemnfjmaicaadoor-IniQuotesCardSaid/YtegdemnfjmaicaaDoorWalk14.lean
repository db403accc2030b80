/- Walks: a line. -/
import Derived.Test.YtegdemnfjmaicaaDoorWalk13
namespace Go.Proofs.YtegdemnfjmaicaaDoor
open Go.RowKit
theorem LPost.from {B : Nat} {V : PV} {w w1 w' : World} {pb : Nat} {s : Ini.Str} {R : Ini.Res Ini.St} {e : Ending} (h : LPost B V w1 pb s R e w') (hb : Below w.heap.size w w1) : LPost B V w pb s R e w' := by
  cases R with
  | err a c => exact ⟨h.1, h.2.from hb⟩
  | ok st' => exact ⟨h.1, h.2.from hb⟩
/-- a line's box. -/
def lnCells (a tz : Nat) : Array Value := #[.int .i64 (a : Nat), .int .i64 (tz : Nat)]
theorem line_eq (st : Ini.St) (s : Ini.Str) (a tz b : Nat) (ht : tz ≤ s.length) (ha : a ≤ tz) (hb : a + Ini.nB (seg s a tz) = b) (hbz : b < tz) :
    Ini.line st (seg s a tz) a = if s[b]'(by omega) = 59 ∨ s[b]'(by omega) = 35 then .ok { st with notes := st.notes ++ [⟨b, tz, seg s b tz⟩] } else if s[b]'(by omega) = 91 then Ini.header st (seg s b tz) b else Ini.entry st (seg s b tz) b := by
  unfold Ini.line
  simp only [seg_drop, hb]
  have hl := seg_len s a tz ht
  rw [hl, show a + (tz - a) = tz from by omega, seg_cons s b tz hbz ht]
theorem line_end (st : Ini.St) (s : Ini.Str) (a tz : Nat) (hb : a + Ini.nB (seg s a tz) = tz) : Ini.line st (seg s a tz) a = .ok st := by
  unfold Ini.line
  simp only [seg_drop, hb]
  rw [seg_nil s tz tz (Nat.le_refl _)]
set_option maxRecDepth 100000 in
set_option maxHeartbeats 4000000 in
theorem one_end (B pb a tz : Nat) (V : PV) (s : Ini.Str) (st : Ini.St) (ha : a ≤ tz) (ht : tz ≤ s.length) (hs : s.length ≤ 1073741823) (w : World) (hp : PAt B V w pb s st)
    (hb : a + Ini.nB (seg s a tz) = tz) : Calls Tryd.prog 21 #[.pointer (some ⟨pb, 0, none⟩), .agg #[.int .i64 a, .int .i64 tz]] w (LPost B V w pb s (.ok st)) := by
  have hlt := hp.blk.lt
  have HP := Lib.hid hp
  have HB := Lib.hid hb
  clear hp hb
  go_enter Tryd.func21, Tryd.ntmps21
  go_wp2_with fail
  refine (blanks_any pb a tz s ha ht (by omega) _ (HP.out.alloc _).par.src tz HB.out).mono ?_
  rintro e1 w1 ⟨rfl, rfl⟩
  go_wp2_with fail
  (try refine bodyPost_ret (v := .bool true) (by simp [results, Tryd.results21, go_sem]) rfl ?_)
  exact ⟨rfl, (PNext.refl HP.out).later ((Below.refl _ _).alloc (Nat.le_refl _) _)⟩
set_option maxRecDepth 100000 in
set_option maxHeartbeats 4000000 in
theorem one_header (B pb a tz : Nat) (V : PV) (s : Ini.Str) (st : Ini.St) (ha : a ≤ tz) (ht : tz ≤ s.length) (hs : s.length ≤ 1073741823) (w : World) (hp : PAt B V w pb s st) (hf : Fit st)
    (b : Nat) (hb : a + Ini.nB (seg s a tz) = b) (hbz : b < tz) (hc : s[b]'(by omega) = 91) (R : Ini.Res Ini.St) (hR : Ini.header st (seg s b tz) b = R) :
    Calls Tryd.prog 21 #[.pointer (some ⟨pb, 0, none⟩), .agg #[.int .i64 a, .int .i64 tz]] w (LPost B V w pb s R) := by
  have hlt := hp.blk.lt
  have HP := Lib.hid hp
  have HB := Lib.hid hb
  have HR := Lib.hid hR
  have HF := Lib.hid hf
  have hne : ¬ ((b : Int) = (tz : Int)) := by omega
  have q1 := byte_is s b (by omega) 91 91 91 rfl hc rfl
  clear hp hb hR hf hc
  go_enter Tryd.func21, Tryd.ntmps21
  go_wp2_with fail
  refine (blanks_any pb a tz s ha ht (by omega) _ (HP.out.alloc _).par.src b HB.out).mono ?_
  rintro e1 w1 ⟨rfl, rfl⟩
  have hsrc := (HP.out.alloc (.cells (lnCells a tz) 67)).par.src
  unfold SrcAt lnCells at hsrc
  go_wp2_with fail
  refine (header_any B pb b tz V s st hbz ht hs _ (HP.out.alloc _) HF.out R HR.out).mono ?_
  intro e1 w2 hL
  cases R with
  | err x c =>
    obtain ⟨rfl, hL⟩ := hL
    have HL := Lib.hid hL
    clear hL
    go_wp2_with fail
    (try refine bodyPost_ret (v := .bool false) (by simp [results, Tryd.results21, go_sem]) rfl ?_)
    exact ⟨rfl, HL.out.from ((Below.refl _ _).alloc (Nat.le_refl _) _)⟩
  | ok st' =>
    obtain ⟨rfl, hL⟩ := hL
    have HL := Lib.hid hL
    clear hL
    go_wp2_with fail
    (try refine bodyPost_ret (v := .bool true) (by simp [results, Tryd.results21, go_sem]) rfl ?_)
    exact ⟨rfl, HL.out.from ((Below.refl _ _).alloc (Nat.le_refl _) _)⟩
set_option maxRecDepth 100000 in
set_option maxHeartbeats 4000000 in
theorem one_entry (B pb a tz : Nat) (V : PV) (s : Ini.Str) (st : Ini.St) (ha : a ≤ tz) (ht : tz ≤ s.length) (hs : s.length ≤ 1073741823) (w : World) (hp : PAt B V w pb s st) (hf : Fit st)
    (b : Nat) (hb : a + Ini.nB (seg s a tz) = b) (hbz : b < tz) (hc1 : s[b]'(by omega) ≠ 59) (hc2 : s[b]'(by omega) ≠ 35) (hc3 : s[b]'(by omega) ≠ 91) (R : Ini.Res Ini.St) (hR : Ini.entry st (seg s b tz) b = R) :
    Calls Tryd.prog 21 #[.pointer (some ⟨pb, 0, none⟩), .agg #[.int .i64 a, .int .i64 tz]] w (LPost B V w pb s R) := by
  have hlt := hp.blk.lt
  have HP := Lib.hid hp
  have HB := Lib.hid hb
  have HR := Lib.hid hR
  have HF := Lib.hid hf
  have hne : ¬ ((b : Int) = (tz : Int)) := by omega
  have q1 := byte_not s b (by omega) _ 59 59 rfl rfl hc1
  have q2 := byte_not s b (by omega) _ 35 35 rfl rfl hc2
  have q3 := byte_not s b (by omega) _ 91 91 rfl rfl hc3
  have q1b := byte_nob s b (by omega) _ 59 59 rfl rfl hc1
  have q2b := byte_nob s b (by omega) _ 35 35 rfl rfl hc2
  have q3b := byte_nob s b (by omega) _ 91 91 rfl rfl hc3
  clear hp hb hR hf hc1 hc2 hc3
  go_enter Tryd.func21, Tryd.ntmps21
  go_wp2_with fail
  refine (blanks_any pb a tz s ha ht (by omega) _ (HP.out.alloc _).par.src b HB.out).mono ?_
  rintro e1 w1 ⟨rfl, rfl⟩
  have hsrc := (HP.out.alloc (.cells (lnCells a tz) 67)).par.src
  unfold SrcAt lnCells at hsrc
  go_wp2_with fail
  refine (entry_any B pb b tz V s st (by omega) ht hs _ (HP.out.alloc _) HF.out R HR.out).mono ?_
  intro e1 w2 hL
  cases R with
  | err x c =>
    obtain ⟨rfl, hL⟩ := hL
    have HL := Lib.hid hL
    clear hL
    go_wp2_with fail
    (try refine bodyPost_ret (v := .bool false) (by simp [results, Tryd.results21, go_sem]) rfl ?_)
    exact ⟨rfl, HL.out.from ((Below.refl _ _).alloc (Nat.le_refl _) _)⟩
  | ok st' =>
    obtain ⟨rfl, hL⟩ := hL
    have HL := Lib.hid hL
    clear hL
    go_wp2_with fail
    (try refine bodyPost_ret (v := .bool true) (by simp [results, Tryd.results21, go_sem]) rfl ?_)
    exact ⟨rfl, HL.out.from ((Below.refl _ _).alloc (Nat.le_refl _) _)⟩
end Go.Proofs.YtegdemnfjmaicaaDoor
