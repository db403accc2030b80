/- Walks: an entry's line that fails ahead of its value; an entry's line, whole. Walks: a line. Walks: a line that is a note. Walks: a line that is a note. Walks: a line, whole. -/
import Derived.Test.YtegdemnfjmaicaaDoorWalk12A
import Derived.Test.YtegdemnfjmaicaaDoorWalk12C
import Derived.Test.YtegdemnfjmaicaaDoorWalk12E
import Derived.Deep.RegionHeld3
namespace Go.Proofs.YtegdemnfjmaicaaDoor
open Go.RowKit
set_option maxRecDepth 100000 in
set_option maxHeartbeats 4000000 in
theorem entry_name_err (B pb a tz : Nat) (V : PV) (s : Ini.Str) (st : Ini.St) (ha : a ≤ tz) (ht : tz ≤ s.length) (hs : s.length ≤ 1073741823) (w : World) (hp : PAt B V w pb s st) (x c : Nat) (hn : Ini.name (seg s a tz) a 61 = .err x c) :
    Calls Tryd.prog 30 #[.pointer (some ⟨pb, 0, none⟩), .int .i64 a, .int .i64 tz] w (LPost B V w pb s (.err x c)) := by
  have hlt := hp.blk.lt
  have HP := Lib.hid hp
  have HNM := Lib.hid hn
  clear hp hn
  go_enter Tryd.func30, Tryd.ntmps30
  go_wp2_with fail
  refine (name_any pb a tz 61 61 rfl s ha ht hs _ HP.out.par _ HNM.out).mono ?_
  rintro e1 w1 ⟨rfl, hf⟩
  have HFP := Lib.hid hf
  clear hf
  go_wp2_with fail
  (try refine bodyPost_ret (v := .bool false) (by simp [results, Tryd.results30, go_sem]) rfl ?_)
  exact ⟨rfl, HFP.out.lines (Below.refl _ _) HP.out⟩
set_option maxRecDepth 100000 in
set_option maxHeartbeats 4000000 in
theorem entry_q_err (B pb a tz : Nat) (V : PV) (s : Ini.Str) (st : Ini.St) (ha : a ≤ tz) (ht : tz ≤ s.length) (hs : s.length ≤ 1073741823) (w : World) (hp : PAt B V w pb s st)(key : Ini.Str) (en i b : Nat) (hn : Ini.name (seg s a tz) a 61 = .ok (key, en, i)) (hb : i + Ini.nB (seg s i tz) = b) (hbt : b < tz) (hq0 : s[b]'(by omega) = 34) (x c : Nat) (hv : Ini.quoted (seg s b tz) b = .err x c) :
    Calls Tryd.prog 30 #[.pointer (some ⟨pb, 0, none⟩), .int .i64 a, .int .i64 tz] w (LPost B V w pb s (.err x c)) := by
  have hlt := hp.blk.lt
  obtain ⟨b1, b2, b3⟩ := name_bounds s a tz 61 ha ht key en i hn
  have hbz : i ≤ b ∧ b ≤ tz := by have := nB_le (seg s i tz); rw [seg_len s _ tz ht] at this; omega
  obtain ⟨hib, hbz⟩ := hbz
  have HP := Lib.hid hp
  have HNM := Lib.hid hn
  have HB := Lib.hid hb
  obtain ⟨hq1, hq2, hq3⟩ := is_quote s b tz ht hbt hq0
  obtain ⟨e3, he⟩ : ∃ e3, b + Ini.nT (seg s b tz) = e3 := ⟨_, rfl⟩
  have hez : b ≤ e3 ∧ e3 ≤ tz := by have := nT_le (seg s b tz); rw [seg_len s _ tz ht] at this; omega
  obtain ⟨hbe, hez⟩ := hez
  have HE := Lib.hid he
  have HV := Lib.hid hv
  clear he hv hq0 hp hn hb
  go_enter Tryd.func30, Tryd.ntmps30
  go_wp2_with fail
  refine (name_any pb a tz 61 61 rfl s ha ht hs _ HP.out.par _ HNM.out).mono ?_
  rintro e1 w1 ⟨rfl, hb1⟩
  have HP1 := Lib.hid (HP.out.later hb1)
  have HB1 := Lib.hid hb1
  clear hb1
  go_wp2_with fail
  refine (blanks_any pb i tz s (by omega) ht (by omega) _ HP1.out.par.src b HB.out).mono ?_
  rintro e1 w2 ⟨rfl, rfl⟩
  go_wp2_with fail
  refine (trimmed_any pb b tz s hbz ht (by omega) _ HP1.out.par.src e3 HE.out).mono ?_
  rintro e1 w2 ⟨rfl, rfl⟩
  go_wp2_with fail
  obtain ⟨w2, hw2⟩ : ∃ w2, w1.alloc (.cells (spCells b e3 a en) 45) = w2 := ⟨_, rfl⟩
  have hbx : Blk w2 w1.heap.size 45 (spCells b e3 a en) := by rw [← hw2]; exact Blk.new _ _ _
  have hb2 : Below w1.heap.size w1 w2 := by rw [← hw2]; exact (Below.refl _ _).alloc (Nat.le_refl _) _
  unfold spCells at hw2
  rw [hw2]
  have HP2 := Lib.hid (HP1.out.later hb2)
  have hsrc2 : w2.cell? ⟨pb, 2, none⟩ = some (.string ⟨s.toArray⟩) := HP2.out.par.src
  have hz3 : w2.cell? ⟨w1.heap.size, 3, none⟩ = some (.int .i64 b) := hbx.cell 3
  have hz4 : w2.cell? ⟨w1.heap.size, 4, none⟩ = some (.int .i64 e3) := hbx.cell 4
  have HB0 : Hid (Below w.heap.size w w2) := Lib.hid (HB1.out.trans (hb2.mono HB1.out.size))
  clear hw2 hb2 hbx
  go_region
  all_goals
    go_wp2_with fail
    refine (quoted_any pb b tz s hbt ht hs _ HP2.out.drew.par _ HV.out).mono ?_
    rintro e1 w4 ⟨rfl, hf⟩
    have HFP : Hid (FPost w w4 pb x c) := Lib.hid (hf.lines HB0.out.drew HP.out)
    clear hf hz3 hz4
    go_wp2_with fail
    (try refine bodyPost_ret (v := .bool false) (by simp [results, Tryd.results30, go_sem]) rfl ?_)
    exact ⟨rfl, HFP.out⟩
set_option maxRecDepth 100000 in
set_option maxHeartbeats 4000000 in
theorem entry_q_more (B pb a tz : Nat) (V : PV) (s : Ini.Str) (st : Ini.St) (ha : a ≤ tz) (ht : tz ≤ s.length) (hs : s.length ≤ 1073741823) (w : World) (hp : PAt B V w pb s st)(key : Ini.Str) (en i b : Nat) (hn : Ini.name (seg s a tz) a 61 = .ok (key, en, i)) (hb : i + Ini.nB (seg s i tz) = b) (hbt : b < tz) (hq0 : s[b]'(by omega) = 34) (t : Ini.Str) (e2 : Nat) (hv : Ini.quoted (seg s b tz) b = .ok (t, e2)) (x : Nat) (hk : e2 + Ini.nB (seg s e2 tz) = x) (hx : x < tz) :
    Calls Tryd.prog 30 #[.pointer (some ⟨pb, 0, none⟩), .int .i64 a, .int .i64 tz] w (LPost B V w pb s (.err x 4)) := by
  obtain ⟨bb1, bb2⟩ := quoted_bounds s b tz hbt ht t e2 hv
  have HK0 := Lib.hid hk
  have hxI : (x : Int) < (tz : Int) := by omega
  clear hk
  have hlt := hp.blk.lt
  obtain ⟨b1, b2, b3⟩ := name_bounds s a tz 61 ha ht key en i hn
  have hbz : i ≤ b ∧ b ≤ tz := by have := nB_le (seg s i tz); rw [seg_len s _ tz ht] at this; omega
  obtain ⟨hib, hbz⟩ := hbz
  have HP := Lib.hid hp
  have HNM := Lib.hid hn
  have HB := Lib.hid hb
  obtain ⟨hq1, hq2, hq3⟩ := is_quote s b tz ht hbt hq0
  obtain ⟨e3, he⟩ : ∃ e3, b + Ini.nT (seg s b tz) = e3 := ⟨_, rfl⟩
  have hez : b ≤ e3 ∧ e3 ≤ tz := by have := nT_le (seg s b tz); rw [seg_len s _ tz ht] at this; omega
  obtain ⟨hbe, hez⟩ := hez
  have HE := Lib.hid he
  have HV := Lib.hid hv
  clear he hv hq0 hp hn hb
  go_enter Tryd.func30, Tryd.ntmps30
  go_wp2_with fail
  refine (name_any pb a tz 61 61 rfl s ha ht hs _ HP.out.par _ HNM.out).mono ?_
  rintro e1 w1 ⟨rfl, hb1⟩
  have HP1 := Lib.hid (HP.out.later hb1)
  have HB1 := Lib.hid hb1
  clear hb1
  go_wp2_with fail
  refine (blanks_any pb i tz s (by omega) ht (by omega) _ HP1.out.par.src b HB.out).mono ?_
  rintro e1 w2 ⟨rfl, rfl⟩
  go_wp2_with fail
  refine (trimmed_any pb b tz s hbz ht (by omega) _ HP1.out.par.src e3 HE.out).mono ?_
  rintro e1 w2 ⟨rfl, rfl⟩
  go_wp2_with fail
  obtain ⟨w2, hw2⟩ : ∃ w2, w1.alloc (.cells (spCells b e3 a en) 45) = w2 := ⟨_, rfl⟩
  have hbx : Blk w2 w1.heap.size 45 (spCells b e3 a en) := by rw [← hw2]; exact Blk.new _ _ _
  have hb2 : Below w1.heap.size w1 w2 := by rw [← hw2]; exact (Below.refl _ _).alloc (Nat.le_refl _) _
  unfold spCells at hw2
  rw [hw2]
  have HP2 := Lib.hid (HP1.out.later hb2)
  have hsrc2 : w2.cell? ⟨pb, 2, none⟩ = some (.string ⟨s.toArray⟩) := HP2.out.par.src
  have hz3 : w2.cell? ⟨w1.heap.size, 3, none⟩ = some (.int .i64 b) := hbx.cell 3
  have hz4 : w2.cell? ⟨w1.heap.size, 4, none⟩ = some (.int .i64 e3) := hbx.cell 4
  have HB0 : Hid (Below w.heap.size w w2) := Lib.hid (HB1.out.trans (hb2.mono HB1.out.size))
  clear hw2 hb2 hbx
  go_region
  all_goals
    go_wp2_with fail
    refine (quoted_any pb b tz s hbt ht hs _ HP2.out.drew.par _ HV.out).mono ?_
    rintro e1 w4 ⟨rfl, hb4⟩
    have HB4 : Hid (Below w.heap.size w w4) := Lib.hid (HB0.out.drew.trans (hb4.mono HB0.out.size))
    clear hb4 hz3 hz4
    have HP4 := Lib.hid (HP.out.later HB4.out)
    go_wp2_with fail
    refine (blanks_any pb e2 tz s (by omega) ht (by omega) _ HP4.out.par.src x HK0.out).mono ?_
    rintro e1 w6 ⟨rfl, rfl⟩
    go_wp2_with fail
    refine (fail_par pb x 4 s _ HP4.out.par).mono ?_
    rintro e1 w6 ⟨rfl, hf⟩
    have HFP := Lib.hid (hf.lines HB4.out HP.out)
    clear hf
    go_wp2_with fail
    (try refine bodyPost_ret (v := .bool false) (by simp [results, Tryd.results30, go_sem]) rfl ?_)
    exact ⟨rfl, HFP.out⟩
theorem entry_any (B pb a tz : Nat) (V : PV) (s : Ini.Str) (st : Ini.St) (ha : a ≤ tz) (ht : tz ≤ s.length) (hs : s.length ≤ 1073741823) (w : World) (hp : PAt B V w pb s st) (hf : Fit st)
    (R : Ini.Res Ini.St) (hR : Ini.entry st (seg s a tz) a = R) :
    Calls Tryd.prog 30 #[.pointer (some ⟨pb, 0, none⟩), .int .i64 a, .int .i64 tz] w (LPost B V w pb s R) := by
  unfold Ini.entry at hR
  cases hn : Ini.name (seg s a tz) a 61 with
  | err x c =>
    rw [hn] at hR
    simp only at hR
    rw [← hR]
    exact entry_name_err B pb a tz V s st ha ht hs w hp x c hn
  | ok p =>
    obtain ⟨key, en, i⟩ := p
    obtain ⟨b1, b2, b3⟩ := name_bounds s a tz 61 ha ht key en i hn
    rw [hn] at hR
    simp only [seg_drop, show a + (i - a) = i from by omega] at hR
    obtain ⟨b, hb⟩ : ∃ b, i + Ini.nB (seg s i tz) = b := ⟨_, rfl⟩
    have hbz : i ≤ b ∧ b ≤ tz := by have := nB_le (seg s i tz); rw [seg_len s _ tz ht] at this; omega
    obtain ⟨hib, hbz⟩ := hbz
    rw [hb] at hR
    unfold Ini.value at hR
    have hvl : (seg s b tz).length = tz - b := seg_len s b tz ht
    by_cases hq : ∃ h : b < tz, s[b]'(by omega) = 34
    · obtain ⟨hbt, hq0⟩ := hq
      rw [if_pos (by rw [seg_cons s b tz hbt ht, hq0]; rfl)] at hR
      cases hv : Ini.quoted (seg s b tz) b with
      | err x c =>
        rw [hv] at hR
        simp only at hR
        rw [← hR]
        exact entry_q_err B pb a tz V s st ha ht hs w hp key en i b hn hb hbt hq0 x c hv
      | ok p =>
        obtain ⟨t, e2⟩ := p
        obtain ⟨bb1, bb2⟩ := quoted_bounds s b tz hbt ht t e2 hv
        have hel := seg_len s e2 tz ht
        have hnb := nB_le (seg s e2 tz)
        rw [hv] at hR
        simp only [seg_drop, show b + (e2 - b) = e2 from by omega, hel] at hR
        by_cases hk : e2 + Ini.nB (seg s e2 tz) < tz
        · rw [if_pos (by omega)] at hR
          simp only at hR
          rw [← hR]
          exact entry_q_more B pb a tz V s st ha ht hs w hp key en i b hn hb hbt hq0 t e2 hv _ rfl hk
        · rw [if_neg (by omega)] at hR
          simp only at hR
          cases hA : Ini.add st st.node st.span key ⟨5, t, [], []⟩ ⟨0, 0, 0, b, e2, a, en, true⟩ with
          | err x c =>
            rw [hA] at hR
            simp only at hR
            rw [← hR]
            exact entry_quoted_err B pb a tz V s st ha ht hs w hp hf key en i b hn hb hbt hq0 t e2 hv (by omega) x c hA
          | ok st' =>
            rw [hA] at hR
            exact entry_quoted_ok B pb a tz V s st ha ht hs w hp hf key en i b hn hb hbt hq0 t e2 hv (by omega) st' hA R hR
    · have hq2 : ∀ h : b < tz, s[b]'(by omega) ≠ 34 := fun h e => hq ⟨h, e⟩
      rw [if_neg (by
        intro e
        by_cases h : b < tz
        · rw [seg_cons s b tz h ht] at e
          injection e with e
          exact hq2 h e
        · rw [seg_nil s b tz (by omega)] at e
          cases e)] at hR
      have htk : (seg s b tz).take (Ini.nT (seg s b tz)) = seg s b (b + Ini.nT (seg s b tz)) := seg_take s b tz _ (by have := nT_le (seg s b tz); omega)
      simp only [htk] at hR
      cases hA : Ini.add st st.node st.span key ⟨5, seg s b (b + Ini.nT (seg s b tz)), [], []⟩ ⟨0, 0, 0, b, b + Ini.nT (seg s b tz), a, en, true⟩ with
      | err x c =>
        rw [hA] at hR
        simp only at hR
        rw [← hR]
        rcases not_quote s b tz ht hq2 with h | h
        · exact entry_bare1_err B pb a tz V s st ha ht hs w hp hf key en i b hn hb h _ _ rfl rfl x c hA
        · exact entry_bare2_err B pb a tz V s st ha ht hs w hp hf key en i b hn hb h _ _ rfl rfl x c hA
      | ok st' =>
        rw [hA] at hR
        rcases not_quote s b tz ht hq2 with h | h
        · exact entry_bare1_ok B pb a tz V s st ha ht hs w hp hf key en i b hn hb h _ _ rfl rfl st' hA R hR
        · exact entry_bare2_ok B pb a tz V s st ha ht hs w hp hf key en i b hn hb h _ _ rfl rfl st' hA R hR
end Go.Proofs.YtegdemnfjmaicaaDoor
namespace Go.Proofs.YtegdemnfjmaicaaDoor
open Go.RowKit
theorem LPost.from {B : Nat} {V : PV} {w w1 w' : World} {pb : Nat} {s : Ini.Str} {R : Ini.Res Ini.St} {e : Ending} (h : LPost B V w1 pb s R e w') (hb : Below w.heap.size w w1) : LPost B V w pb s R e w' := by
  cases R with
  | err a c => exact ⟨h.1, h.2.from hb⟩
  | ok st' => exact ⟨h.1, h.2.from hb⟩
/-- a line's box. -/
def lnCells (a tz : Nat) : Array Value := #[.int .i64 (a : Nat), .int .i64 (tz : Nat)]
theorem line_eq (st : Ini.St) (s : Ini.Str) (a tz b : Nat) (ht : tz ≤ s.length) (ha : a ≤ tz) (hb : a + Ini.nB (seg s a tz) = b) (hbz : b < tz) :
    Ini.line st (seg s a tz) a = if s[b]'(by omega) = 59 ∨ s[b]'(by omega) = 35 then .ok { st with notes := st.notes ++ [⟨b, tz, seg s b tz⟩] } else if s[b]'(by omega) = 91 then Ini.header st (seg s b tz) b else Ini.entry st (seg s b tz) b := by
  unfold Ini.line
  simp only [seg_drop, hb]
  have hl := seg_len s a tz ht
  rw [hl, show a + (tz - a) = tz from by omega, seg_cons s b tz hbz ht]
theorem line_end (st : Ini.St) (s : Ini.Str) (a tz : Nat) (hb : a + Ini.nB (seg s a tz) = tz) : Ini.line st (seg s a tz) a = .ok st := by
  unfold Ini.line
  simp only [seg_drop, hb]
  rw [seg_nil s tz tz (Nat.le_refl _)]
set_option maxRecDepth 100000 in
set_option maxHeartbeats 4000000 in
theorem one_end (B pb a tz : Nat) (V : PV) (s : Ini.Str) (st : Ini.St) (ha : a ≤ tz) (ht : tz ≤ s.length) (hs : s.length ≤ 1073741823) (w : World) (hp : PAt B V w pb s st)
    (hb : a + Ini.nB (seg s a tz) = tz) : Calls Tryd.prog 21 #[.pointer (some ⟨pb, 0, none⟩), .agg #[.int .i64 a, .int .i64 tz]] w (LPost B V w pb s (.ok st)) := by
  have hlt := hp.blk.lt
  have HP := Lib.hid hp
  have HB := Lib.hid hb
  clear hp hb
  go_enter Tryd.func21, Tryd.ntmps21
  go_wp2_with fail
  refine (blanks_any pb a tz s ha ht (by omega) _ (HP.out.alloc _).par.src tz HB.out).mono ?_
  rintro e1 w1 ⟨rfl, rfl⟩
  go_wp2_with fail
  (try refine bodyPost_ret (v := .bool true) (by simp [results, Tryd.results21, go_sem]) rfl ?_)
  exact ⟨rfl, (PNext.refl HP.out).later ((Below.refl _ _).alloc (Nat.le_refl _) _)⟩
set_option maxRecDepth 100000 in
set_option maxHeartbeats 4000000 in
theorem one_header (B pb a tz : Nat) (V : PV) (s : Ini.Str) (st : Ini.St) (ha : a ≤ tz) (ht : tz ≤ s.length) (hs : s.length ≤ 1073741823) (w : World) (hp : PAt B V w pb s st) (hf : Fit st)
    (b : Nat) (hb : a + Ini.nB (seg s a tz) = b) (hbz : b < tz) (hc : s[b]'(by omega) = 91) (R : Ini.Res Ini.St) (hR : Ini.header st (seg s b tz) b = R) :
    Calls Tryd.prog 21 #[.pointer (some ⟨pb, 0, none⟩), .agg #[.int .i64 a, .int .i64 tz]] w (LPost B V w pb s R) := by
  have hlt := hp.blk.lt
  have HP := Lib.hid hp
  have HB := Lib.hid hb
  have HR := Lib.hid hR
  have HF := Lib.hid hf
  have hne : ¬ ((b : Int) = (tz : Int)) := by omega
  have q1 := byte_is s b (by omega) 91 91 91 rfl hc rfl
  clear hp hb hR hf hc
  go_enter Tryd.func21, Tryd.ntmps21
  go_wp2_with fail
  refine (blanks_any pb a tz s ha ht (by omega) _ (HP.out.alloc _).par.src b HB.out).mono ?_
  rintro e1 w1 ⟨rfl, rfl⟩
  have hsrc := (HP.out.alloc (.cells (lnCells a tz) 67)).par.src
  unfold SrcAt lnCells at hsrc
  go_wp2_with fail
  refine (header_any B pb b tz V s st hbz ht hs _ (HP.out.alloc _) HF.out R HR.out).mono ?_
  intro e1 w2 hL
  cases R with
  | err x c =>
    obtain ⟨rfl, hL⟩ := hL
    have HL := Lib.hid hL
    clear hL
    go_wp2_with fail
    (try refine bodyPost_ret (v := .bool false) (by simp [results, Tryd.results21, go_sem]) rfl ?_)
    exact ⟨rfl, HL.out.from ((Below.refl _ _).alloc (Nat.le_refl _) _)⟩
  | ok st' =>
    obtain ⟨rfl, hL⟩ := hL
    have HL := Lib.hid hL
    clear hL
    go_wp2_with fail
    (try refine bodyPost_ret (v := .bool true) (by simp [results, Tryd.results21, go_sem]) rfl ?_)
    exact ⟨rfl, HL.out.from ((Below.refl _ _).alloc (Nat.le_refl _) _)⟩
set_option maxRecDepth 100000 in
set_option maxHeartbeats 4000000 in
theorem one_entry (B pb a tz : Nat) (V : PV) (s : Ini.Str) (st : Ini.St) (ha : a ≤ tz) (ht : tz ≤ s.length) (hs : s.length ≤ 1073741823) (w : World) (hp : PAt B V w pb s st) (hf : Fit st)
    (b : Nat) (hb : a + Ini.nB (seg s a tz) = b) (hbz : b < tz) (hc1 : s[b]'(by omega) ≠ 59) (hc2 : s[b]'(by omega) ≠ 35) (hc3 : s[b]'(by omega) ≠ 91) (R : Ini.Res Ini.St) (hR : Ini.entry st (seg s b tz) b = R) :
    Calls Tryd.prog 21 #[.pointer (some ⟨pb, 0, none⟩), .agg #[.int .i64 a, .int .i64 tz]] w (LPost B V w pb s R) := by
  have hlt := hp.blk.lt
  have HP := Lib.hid hp
  have HB := Lib.hid hb
  have HR := Lib.hid hR
  have HF := Lib.hid hf
  have hne : ¬ ((b : Int) = (tz : Int)) := by omega
  have q1 := byte_not s b (by omega) _ 59 59 rfl rfl hc1
  have q2 := byte_not s b (by omega) _ 35 35 rfl rfl hc2
  have q3 := byte_not s b (by omega) _ 91 91 rfl rfl hc3
  have q1b := byte_nob s b (by omega) _ 59 59 rfl rfl hc1
  have q2b := byte_nob s b (by omega) _ 35 35 rfl rfl hc2
  have q3b := byte_nob s b (by omega) _ 91 91 rfl rfl hc3
  clear hp hb hR hf hc1 hc2 hc3
  go_enter Tryd.func21, Tryd.ntmps21
  go_wp2_with fail
  refine (blanks_any pb a tz s ha ht (by omega) _ (HP.out.alloc _).par.src b HB.out).mono ?_
  rintro e1 w1 ⟨rfl, rfl⟩
  have hsrc := (HP.out.alloc (.cells (lnCells a tz) 67)).par.src
  unfold SrcAt lnCells at hsrc
  go_wp2_with fail
  refine (entry_any B pb b tz V s st (by omega) ht hs _ (HP.out.alloc _) HF.out R HR.out).mono ?_
  intro e1 w2 hL
  cases R with
  | err x c =>
    obtain ⟨rfl, hL⟩ := hL
    have HL := Lib.hid hL
    clear hL
    go_wp2_with fail
    (try refine bodyPost_ret (v := .bool false) (by simp [results, Tryd.results21, go_sem]) rfl ?_)
    exact ⟨rfl, HL.out.from ((Below.refl _ _).alloc (Nat.le_refl _) _)⟩
  | ok st' =>
    obtain ⟨rfl, hL⟩ := hL
    have HL := Lib.hid hL
    clear hL
    go_wp2_with fail
    (try refine bodyPost_ret (v := .bool true) (by simp [results, Tryd.results21, go_sem]) rfl ?_)
    exact ⟨rfl, HL.out.from ((Below.refl _ _).alloc (Nat.le_refl _) _)⟩
end Go.Proofs.YtegdemnfjmaicaaDoor
namespace Go.Proofs.YtegdemnfjmaicaaDoor
open Go.RowKit
set_option maxRecDepth 100000 in
set_option maxHeartbeats 4000000 in
theorem one_note59 (B pb a tz : Nat) (V : PV) (s : Ini.Str) (st : Ini.St) (ha : a ≤ tz) (ht : tz ≤ s.length) (hs : s.length ≤ 1073741823) (w : World) (hp : PAt B V w pb s st) (hnl : st.notes.length < 1073741823)
    (b : Nat) (hb : a + Ini.nB (seg s a tz) = b) (hbz : b < tz) (hc : s[b]'(by omega) = 59) :
    Calls Tryd.prog 21 #[.pointer (some ⟨pb, 0, none⟩), .agg #[.int .i64 a, .int .i64 tz]] w (LPost B V w pb s (.ok { st with notes := st.notes ++ [⟨b, tz, seg s b tz⟩] })) := by
  have hlt := hp.blk.lt
  obtain ⟨A, c, hv, _⟩ := hp.notes.form
  have HV := Lib.hid hv
  have HP := Lib.hid hp
  have HB := Lib.hid hb
  have hne : ¬ ((b : Int) = (tz : Int)) := by omega
  have q1 := byte_is s b (by omega) 59 59 59 rfl hc rfl
  have q1b := byte_isb s b (by omega) 59 59 59 rfl hc rfl
  obtain ⟨t, htx⟩ : ∃ t, seg s b tz = t := ⟨_, rfl⟩
  have hext : (⟨s.toArray⟩ : ByteArray).extract b tz = ⟨t.toArray⟩ := by rw [extract_seg, htx]
  rw [htx]
  have hbI : (b : Int) ≤ (tz : Int) := by omega
  have htI : (tz : Int) ≤ (s.length : Int) := by omega
  clear hp hb hc hv htx
  go_enter Tryd.func21, Tryd.ntmps21
  go_wp2_with fail
  refine (blanks_any pb a tz s ha ht (by omega) _ (HP.out.alloc _).par.src b HB.out).mono ?_
  rintro e1 w1 ⟨rfl, rfl⟩
  obtain ⟨w1, hw1⟩ : ∃ w1, w.alloc (.cells (lnCells a tz) 67) = w1 := ⟨_, rfl⟩
  have HP1 : Hid (PAt B V w1 pb s st) := Lib.hid (by rw [← hw1]; exact HP.out.alloc _)
  have HB1 : Hid (Below w.heap.size w w1) := Lib.hid (by rw [← hw1]; exact (Below.refl _ _).alloc (Nat.le_refl _) _)
  have hbx : Blk w1 w.heap.size 67 (lnCells a tz) := by rw [← hw1]; exact Blk.new _ _ _
  unfold lnCells at hw1
  rw [hw1]
  have hsrc : w1.cell? ⟨pb, 2, none⟩ = some (.string ⟨s.toArray⟩) := HP1.out.par.src
  have h8 : w1.cell? ⟨pb, 8, none⟩ = some (.slice A st.notes.length c) := by rw [HP1.out.blk.cell 8]; show some V.tv = _; rw [HV.out]
  have hx1 : w1.cell? ⟨w.heap.size, 1, none⟩ = some (.int .i64 tz) := hbx.cell 1
  have hsrcA : (w1.alloc (.cells #[.int .i64 b, .int .i64 tz, .string ⟨t.toArray⟩] 54)).cell? ⟨pb, 2, none⟩ = some (.string ⟨s.toArray⟩) := (HP1.out.alloc _).par.src
  have h8A : (w1.alloc (.cells #[.int .i64 b, .int .i64 tz, .string ⟨t.toArray⟩] 54)).cell? ⟨pb, 8, none⟩ = some (.slice A st.notes.length c) := by rw [(HP1.out.alloc _).blk.cell 8]; show some V.tv = _; rw [HV.out]
  have hx1A : (w1.alloc (.cells #[.int .i64 b, .int .i64 tz, .string ⟨t.toArray⟩] 54)).cell? ⟨w.heap.size, 1, none⟩ = some (.int .i64 tz) := (hbx.alloc _).cell 1
  have pf : ∀ i, w1.frozen? ⟨pb, i, none⟩ = false := HP1.out.blk.frozen
  have hownA : OwnRow noteL (w1.alloc (.cells #[.int .i64 b, .int .i64 tz, .string ⟨t.toArray⟩] 54)).drew B 54 (.slice A st.notes.length c) st.notes := by rw [← HV.out]; exact (HP1.out.notes.alloc _).drew
  have hlitA : RowAt noteL (w1.alloc (.cells #[.int .i64 b, .int .i64 tz, .string ⟨t.toArray⟩] 54)).drew (w1.heap.size + 1) (some ⟨w1.heap.size, 0, none⟩) [⟨b, tz, t⟩] := (RowAt.lit1 _ _ rfl _ rfl).drew
  have hlA : st.notes.length + [(⟨b, tz, t⟩ : Ini.Note)].length ≤ 1073741824 := by simp only [List.length_cons, List.length_nil]; omega
  have hbA : B ≤ (w1.alloc (.cells #[.int .i64 b, .int .i64 tz, .string ⟨t.toArray⟩] 54)).drew.heap.size := by have := HP1.out.base; simp; omega
  have hpv : ∀ g, some g = V.tv.ownBlock → pb ≠ g := fun g e e2 => by
    subst e2
    obtain ⟨cs, hb⟩ := HP1.out.notes.blk _ e.symm
    exact Blk.ne_ HP1.out.blk hb (by decide) rfl
  have HPV := Lib.hid hpv
  have HLEN : Hid ((st.notes ++ [(⟨b, tz, t⟩ : Ini.Note)]).length = st.notes.length + 1) := Lib.hid (by simp)
  have HPA : Hid (PAt B V (w1.alloc (.cells #[.int .i64 b, .int .i64 tz, .string ⟨t.toArray⟩] 54)).drew pb s st) := Lib.hid (HP1.out.later (((Below.refl _ _).alloc (Nat.le_refl _) _).drew))
  have HBA : Hid (Below w.heap.size w (w1.alloc (.cells #[.int .i64 b, .int .i64 tz, .string ⟨t.toArray⟩] 54)).drew) := Lib.hid ((HB1.out.alloc HB1.out.size _).drew)
  clear hbx hw1 hpv hnl
  go_upto_region 5 with fail
  go_region_law (refine step_append_row _ rfl (.tmp 39) (.tmp 52) 27 54 32 rfl noteT B (.slice A st.notes.length c) st.notes rfl hownA _ _ 1 [⟨b, tz, t⟩] rfl hlitA hlA hbA ?_; intro v' w2 hown2 hg2 hat2; obtain ⟨g3, cap3, rest3, rfl, hG3⟩ := hown2.head (by simp); have hb2 : Blk w2 pb 62 _ := HPA.out.blk.grown hg2 (fun e => HPV.out pb (by rw [HV.out]; exact e) rfl); have pf2 : ∀ i, w2.frozen? ⟨pb, i, none⟩ = false := hb2.frozen; have pc2 : w2.cell? ⟨pb, 8, none⟩ = some V.tv := hb2.cell 8; have HOW2 := Lib.hid hown2; have HG2 := Lib.hid hg2; have HAT2 := Lib.hid hat2; clear hown2 hg2 hat2 hG3 hb2)
  all_goals
    go_wp2_with fail
    (try refine bodyPost_ret (v := .bool true) (by simp [results, Tryd.results21, go_sem]) rfl ?_)
    have ho := HOW2.out
    have ha := HAT2.out
    rw [HLEN.out] at ho ha
    have hg9 := HG2.out
    rw [← HV.out] at hg9 ha
    exact ⟨rfl, (HPA.out.appNotes ho hg9 ha).from HBA.out⟩
end Go.Proofs.YtegdemnfjmaicaaDoor
namespace Go.Proofs.YtegdemnfjmaicaaDoor
open Go.RowKit
set_option maxRecDepth 100000 in
set_option maxHeartbeats 4000000 in
theorem one_note35 (B pb a tz : Nat) (V : PV) (s : Ini.Str) (st : Ini.St) (ha : a ≤ tz) (ht : tz ≤ s.length) (hs : s.length ≤ 1073741823) (w : World) (hp : PAt B V w pb s st) (hnl : st.notes.length < 1073741823)
    (b : Nat) (hb : a + Ini.nB (seg s a tz) = b) (hbz : b < tz) (hc : s[b]'(by omega) = 35) :
    Calls Tryd.prog 21 #[.pointer (some ⟨pb, 0, none⟩), .agg #[.int .i64 a, .int .i64 tz]] w (LPost B V w pb s (.ok { st with notes := st.notes ++ [⟨b, tz, seg s b tz⟩] })) := by
  have hlt := hp.blk.lt
  obtain ⟨A, c, hv, _⟩ := hp.notes.form
  have HV := Lib.hid hv
  have HP := Lib.hid hp
  have HB := Lib.hid hb
  have hne : ¬ ((b : Int) = (tz : Int)) := by omega
  have q1 := byte_not s b (by omega) 35 59 59 rfl hc (by decide)
  have q1b := byte_nob s b (by omega) 35 59 59 rfl hc (by decide)
  have q2 := byte_is s b (by omega) 35 35 35 rfl hc rfl
  have q2b := byte_isb s b (by omega) 35 35 35 rfl hc rfl
  obtain ⟨t, htx⟩ : ∃ t, seg s b tz = t := ⟨_, rfl⟩
  have hext : (⟨s.toArray⟩ : ByteArray).extract b tz = ⟨t.toArray⟩ := by rw [extract_seg, htx]
  rw [htx]
  have hbI : (b : Int) ≤ (tz : Int) := by omega
  have htI : (tz : Int) ≤ (s.length : Int) := by omega
  clear hp hb hc hv htx
  go_enter Tryd.func21, Tryd.ntmps21
  go_wp2_with fail
  refine (blanks_any pb a tz s ha ht (by omega) _ (HP.out.alloc _).par.src b HB.out).mono ?_
  rintro e1 w1 ⟨rfl, rfl⟩
  obtain ⟨w1, hw1⟩ : ∃ w1, w.alloc (.cells (lnCells a tz) 67) = w1 := ⟨_, rfl⟩
  have HP1 : Hid (PAt B V w1 pb s st) := Lib.hid (by rw [← hw1]; exact HP.out.alloc _)
  have HB1 : Hid (Below w.heap.size w w1) := Lib.hid (by rw [← hw1]; exact (Below.refl _ _).alloc (Nat.le_refl _) _)
  have hbx : Blk w1 w.heap.size 67 (lnCells a tz) := by rw [← hw1]; exact Blk.new _ _ _
  unfold lnCells at hw1
  rw [hw1]
  have hsrc : w1.cell? ⟨pb, 2, none⟩ = some (.string ⟨s.toArray⟩) := HP1.out.par.src
  have h8 : w1.cell? ⟨pb, 8, none⟩ = some (.slice A st.notes.length c) := by rw [HP1.out.blk.cell 8]; show some V.tv = _; rw [HV.out]
  have hx1 : w1.cell? ⟨w.heap.size, 1, none⟩ = some (.int .i64 tz) := hbx.cell 1
  have hsrcA : (w1.alloc (.cells #[.int .i64 b, .int .i64 tz, .string ⟨t.toArray⟩] 54)).cell? ⟨pb, 2, none⟩ = some (.string ⟨s.toArray⟩) := (HP1.out.alloc _).par.src
  have h8A : (w1.alloc (.cells #[.int .i64 b, .int .i64 tz, .string ⟨t.toArray⟩] 54)).cell? ⟨pb, 8, none⟩ = some (.slice A st.notes.length c) := by rw [(HP1.out.alloc _).blk.cell 8]; show some V.tv = _; rw [HV.out]
  have hx1A : (w1.alloc (.cells #[.int .i64 b, .int .i64 tz, .string ⟨t.toArray⟩] 54)).cell? ⟨w.heap.size, 1, none⟩ = some (.int .i64 tz) := (hbx.alloc _).cell 1
  have pf : ∀ i, w1.frozen? ⟨pb, i, none⟩ = false := HP1.out.blk.frozen
  have hownA : OwnRow noteL (w1.alloc (.cells #[.int .i64 b, .int .i64 tz, .string ⟨t.toArray⟩] 54)).drew B 54 (.slice A st.notes.length c) st.notes := by rw [← HV.out]; exact (HP1.out.notes.alloc _).drew
  have hlitA : RowAt noteL (w1.alloc (.cells #[.int .i64 b, .int .i64 tz, .string ⟨t.toArray⟩] 54)).drew (w1.heap.size + 1) (some ⟨w1.heap.size, 0, none⟩) [⟨b, tz, t⟩] := (RowAt.lit1 _ _ rfl _ rfl).drew
  have hlA : st.notes.length + [(⟨b, tz, t⟩ : Ini.Note)].length ≤ 1073741824 := by simp only [List.length_cons, List.length_nil]; omega
  have hbA : B ≤ (w1.alloc (.cells #[.int .i64 b, .int .i64 tz, .string ⟨t.toArray⟩] 54)).drew.heap.size := by have := HP1.out.base; simp; omega
  have hpv : ∀ g, some g = V.tv.ownBlock → pb ≠ g := fun g e e2 => by
    subst e2
    obtain ⟨cs, hb⟩ := HP1.out.notes.blk _ e.symm
    exact Blk.ne_ HP1.out.blk hb (by decide) rfl
  have HPV := Lib.hid hpv
  have HLEN : Hid ((st.notes ++ [(⟨b, tz, t⟩ : Ini.Note)]).length = st.notes.length + 1) := Lib.hid (by simp)
  have HPA : Hid (PAt B V (w1.alloc (.cells #[.int .i64 b, .int .i64 tz, .string ⟨t.toArray⟩] 54)).drew pb s st) := Lib.hid (HP1.out.later (((Below.refl _ _).alloc (Nat.le_refl _) _).drew))
  have HBA : Hid (Below w.heap.size w (w1.alloc (.cells #[.int .i64 b, .int .i64 tz, .string ⟨t.toArray⟩] 54)).drew) := Lib.hid ((HB1.out.alloc HB1.out.size _).drew)
  clear hbx hw1 hpv hnl
  go_upto_region 5 with fail
  go_region_law (refine step_append_row _ rfl (.tmp 39) (.tmp 52) 27 54 32 rfl noteT B (.slice A st.notes.length c) st.notes rfl hownA _ _ 1 [⟨b, tz, t⟩] rfl hlitA hlA hbA ?_; intro v' w2 hown2 hg2 hat2; obtain ⟨g3, cap3, rest3, rfl, hG3⟩ := hown2.head (by simp); have hb2 : Blk w2 pb 62 _ := HPA.out.blk.grown hg2 (fun e => HPV.out pb (by rw [HV.out]; exact e) rfl); have pf2 : ∀ i, w2.frozen? ⟨pb, i, none⟩ = false := hb2.frozen; have pc2 : w2.cell? ⟨pb, 8, none⟩ = some V.tv := hb2.cell 8; have HOW2 := Lib.hid hown2; have HG2 := Lib.hid hg2; have HAT2 := Lib.hid hat2; clear hown2 hg2 hat2 hG3 hb2)
  all_goals
    go_wp2_with fail
    (try refine bodyPost_ret (v := .bool true) (by simp [results, Tryd.results21, go_sem]) rfl ?_)
    have ho := HOW2.out
    have ha := HAT2.out
    rw [HLEN.out] at ho ha
    have hg9 := HG2.out
    rw [← HV.out] at hg9 ha
    exact ⟨rfl, (HPA.out.appNotes ho hg9 ha).from HBA.out⟩
end Go.Proofs.YtegdemnfjmaicaaDoor
namespace Go.Proofs.YtegdemnfjmaicaaDoor
theorem one_any (B pb a tz : Nat) (V : PV) (s : Ini.Str) (st : Ini.St) (ha : a ≤ tz) (ht : tz ≤ s.length) (hs : s.length ≤ 1073741823) (w : World) (hp : PAt B V w pb s st) (hf : Fit st) (hnl : st.notes.length < 1073741823)
    (R : Ini.Res Ini.St) (hR : Ini.line st (seg s a tz) a = R) :
    Calls Tryd.prog 21 #[.pointer (some ⟨pb, 0, none⟩), .agg #[.int .i64 a, .int .i64 tz]] w (LPost B V w pb s R) := by
  obtain ⟨b, hb⟩ : ∃ b, a + Ini.nB (seg s a tz) = b := ⟨_, rfl⟩
  have hbz : b ≤ tz := by have := nB_le (seg s a tz); rw [seg_len s _ tz ht] at this; omega
  by_cases hlt : b < tz
  · rw [line_eq st s a tz b ht ha hb hlt] at hR
    by_cases h1 : s[b]'(by omega) = 59
    · rw [if_pos (.inl h1)] at hR
      rw [← hR]
      exact one_note59 B pb a tz V s st ha ht hs w hp hnl b hb hlt h1
    · by_cases h2 : s[b]'(by omega) = 35
      · rw [if_pos (.inr h2)] at hR
        rw [← hR]
        exact one_note35 B pb a tz V s st ha ht hs w hp hnl b hb hlt h2
      · rw [if_neg (by simp [h1, h2])] at hR
        by_cases h3 : s[b]'(by omega) = 91
        · rw [if_pos h3] at hR
          exact one_header B pb a tz V s st ha ht hs w hp hf b hb hlt h3 R hR
        · rw [if_neg h3] at hR
          exact one_entry B pb a tz V s st ha ht hs w hp hf b hb hlt h1 h2 h3 R hR
  · obtain rfl : b = tz := by omega
    rw [line_end st s a b hb] at hR
    rw [← hR]
    exact one_end B pb a b V s st ha ht hs w hp hb
end Go.Proofs.YtegdemnfjmaicaaDoor
