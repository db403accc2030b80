/- Walks: an entry's line that fails ahead of its value; an entry's line, whole. -/
import Derived.Test.YtegdemnfjmaicaaDoorWalk12A
import Derived.Test.YtegdemnfjmaicaaDoorWalk12C
import Derived.Test.YtegdemnfjmaicaaDoorWalk12E
namespace Go.Proofs.YtegdemnfjmaicaaDoor
open Go.RowKit
set_option maxRecDepth 100000 in
set_option maxHeartbeats 4000000 in
theorem entry_name_err (B pb a tz : Nat) (V : PV) (s : Ini.Str) (st : Ini.St) (ha : a ≤ tz) (ht : tz ≤ s.length) (hs : s.length ≤ 1073741823) (w : World) (hp : PAt B V w pb s st) (x c : Nat) (hn : Ini.name (seg s a tz) a 61 = .err x c) :
    Calls Tryd.prog 30 #[.pointer (some ⟨pb, 0, none⟩), .int .i64 a, .int .i64 tz] w (LPost B V w pb s (.err x c)) := by
  have hlt := hp.blk.lt
  have HP := Lib.hid hp
  have HNM := Lib.hid hn
  clear hp hn
  go_enter Tryd.func30, Tryd.ntmps30
  go_wp2_with fail
  refine (name_any pb a tz 61 61 rfl s ha ht hs _ HP.out.par _ HNM.out).mono ?_
  rintro e1 w1 ⟨rfl, hf⟩
  have HFP := Lib.hid hf
  clear hf
  go_wp2_with fail
  (try refine bodyPost_ret (v := .bool false) (by simp [results, Tryd.results30, go_sem]) rfl ?_)
  exact ⟨rfl, HFP.out.lines (Below.refl _ _) HP.out⟩
set_option maxRecDepth 100000 in
set_option maxHeartbeats 4000000 in
theorem entry_q_err (B pb a tz : Nat) (V : PV) (s : Ini.Str) (st : Ini.St) (ha : a ≤ tz) (ht : tz ≤ s.length) (hs : s.length ≤ 1073741823) (w : World) (hp : PAt B V w pb s st)(key : Ini.Str) (en i b : Nat) (hn : Ini.name (seg s a tz) a 61 = .ok (key, en, i)) (hb : i + Ini.nB (seg s i tz) = b) (hbt : b < tz) (hq0 : s[b]'(by omega) = 34) (x c : Nat) (hv : Ini.quoted (seg s b tz) b = .err x c) :
    Calls Tryd.prog 30 #[.pointer (some ⟨pb, 0, none⟩), .int .i64 a, .int .i64 tz] w (LPost B V w pb s (.err x c)) := by
  have hlt := hp.blk.lt
  obtain ⟨b1, b2, b3⟩ := name_bounds s a tz 61 ha ht key en i hn
  have hbz : i ≤ b ∧ b ≤ tz := by have := nB_le (seg s i tz); rw [seg_len s _ tz ht] at this; omega
  obtain ⟨hib, hbz⟩ := hbz
  have HP := Lib.hid hp
  have HNM := Lib.hid hn
  have HB := Lib.hid hb
  obtain ⟨hq1, hq2, hq3⟩ := is_quote s b tz ht hbt hq0
  obtain ⟨e3, he⟩ : ∃ e3, b + Ini.nT (seg s b tz) = e3 := ⟨_, rfl⟩
  have hez : b ≤ e3 ∧ e3 ≤ tz := by have := nT_le (seg s b tz); rw [seg_len s _ tz ht] at this; omega
  obtain ⟨hbe, hez⟩ := hez
  have HE := Lib.hid he
  have HV := Lib.hid hv
  clear he hv hq0 hp hn hb
  go_enter Tryd.func30, Tryd.ntmps30
  go_wp2_with fail
  refine (name_any pb a tz 61 61 rfl s ha ht hs _ HP.out.par _ HNM.out).mono ?_
  rintro e1 w1 ⟨rfl, hb1⟩
  have HP1 := Lib.hid (HP.out.later hb1)
  have HB1 := Lib.hid hb1
  clear hb1
  go_wp2_with fail
  refine (blanks_any pb i tz s (by omega) ht (by omega) _ HP1.out.par.src b HB.out).mono ?_
  rintro e1 w2 ⟨rfl, rfl⟩
  go_wp2_with fail
  refine (trimmed_any pb b tz s hbz ht (by omega) _ HP1.out.par.src e3 HE.out).mono ?_
  rintro e1 w2 ⟨rfl, rfl⟩
  go_wp2_with fail
  obtain ⟨w2, hw2⟩ : ∃ w2, w1.alloc (.cells (spCells b e3 a en) 45) = w2 := ⟨_, rfl⟩
  have hbx : Blk w2 w1.heap.size 45 (spCells b e3 a en) := by rw [← hw2]; exact Blk.new _ _ _
  have hb2 : Below w1.heap.size w1 w2 := by rw [← hw2]; exact (Below.refl _ _).alloc (Nat.le_refl _) _
  unfold spCells at hw2
  rw [hw2]
  have HP2 := Lib.hid (HP1.out.later hb2)
  have hsrc2 : w2.cell? ⟨pb, 2, none⟩ = some (.string ⟨s.toArray⟩) := HP2.out.par.src
  have hz3 : w2.cell? ⟨w1.heap.size, 3, none⟩ = some (.int .i64 b) := hbx.cell 3
  have hz4 : w2.cell? ⟨w1.heap.size, 4, none⟩ = some (.int .i64 e3) := hbx.cell 4
  have HB0 : Hid (Below w.heap.size w w2) := Lib.hid (HB1.out.trans (hb2.mono HB1.out.size))
  clear hw2 hb2 hbx
  go_region
  all_goals
    go_wp2_with fail
    refine (quoted_any pb b tz s hbt ht hs _ HP2.out.drew.par _ HV.out).mono ?_
    rintro e1 w4 ⟨rfl, hf⟩
    have HFP : Hid (FPost w w4 pb x c) := Lib.hid (hf.lines HB0.out.drew HP.out)
    clear hf hz3 hz4
    go_wp2_with fail
    (try refine bodyPost_ret (v := .bool false) (by simp [results, Tryd.results30, go_sem]) rfl ?_)
    exact ⟨rfl, HFP.out⟩
set_option maxRecDepth 100000 in
set_option maxHeartbeats 4000000 in
theorem entry_q_more (B pb a tz : Nat) (V : PV) (s : Ini.Str) (st : Ini.St) (ha : a ≤ tz) (ht : tz ≤ s.length) (hs : s.length ≤ 1073741823) (w : World) (hp : PAt B V w pb s st)(key : Ini.Str) (en i b : Nat) (hn : Ini.name (seg s a tz) a 61 = .ok (key, en, i)) (hb : i + Ini.nB (seg s i tz) = b) (hbt : b < tz) (hq0 : s[b]'(by omega) = 34) (t : Ini.Str) (e2 : Nat) (hv : Ini.quoted (seg s b tz) b = .ok (t, e2)) (x : Nat) (hk : e2 + Ini.nB (seg s e2 tz) = x) (hx : x < tz) :
    Calls Tryd.prog 30 #[.pointer (some ⟨pb, 0, none⟩), .int .i64 a, .int .i64 tz] w (LPost B V w pb s (.err x 4)) := by
  obtain ⟨bb1, bb2⟩ := quoted_bounds s b tz hbt ht t e2 hv
  have HK0 := Lib.hid hk
  have hxI : (x : Int) < (tz : Int) := by omega
  clear hk
  have hlt := hp.blk.lt
  obtain ⟨b1, b2, b3⟩ := name_bounds s a tz 61 ha ht key en i hn
  have hbz : i ≤ b ∧ b ≤ tz := by have := nB_le (seg s i tz); rw [seg_len s _ tz ht] at this; omega
  obtain ⟨hib, hbz⟩ := hbz
  have HP := Lib.hid hp
  have HNM := Lib.hid hn
  have HB := Lib.hid hb
  obtain ⟨hq1, hq2, hq3⟩ := is_quote s b tz ht hbt hq0
  obtain ⟨e3, he⟩ : ∃ e3, b + Ini.nT (seg s b tz) = e3 := ⟨_, rfl⟩
  have hez : b ≤ e3 ∧ e3 ≤ tz := by have := nT_le (seg s b tz); rw [seg_len s _ tz ht] at this; omega
  obtain ⟨hbe, hez⟩ := hez
  have HE := Lib.hid he
  have HV := Lib.hid hv
  clear he hv hq0 hp hn hb
  go_enter Tryd.func30, Tryd.ntmps30
  go_wp2_with fail
  refine (name_any pb a tz 61 61 rfl s ha ht hs _ HP.out.par _ HNM.out).mono ?_
  rintro e1 w1 ⟨rfl, hb1⟩
  have HP1 := Lib.hid (HP.out.later hb1)
  have HB1 := Lib.hid hb1
  clear hb1
  go_wp2_with fail
  refine (blanks_any pb i tz s (by omega) ht (by omega) _ HP1.out.par.src b HB.out).mono ?_
  rintro e1 w2 ⟨rfl, rfl⟩
  go_wp2_with fail
  refine (trimmed_any pb b tz s hbz ht (by omega) _ HP1.out.par.src e3 HE.out).mono ?_
  rintro e1 w2 ⟨rfl, rfl⟩
  go_wp2_with fail
  obtain ⟨w2, hw2⟩ : ∃ w2, w1.alloc (.cells (spCells b e3 a en) 45) = w2 := ⟨_, rfl⟩
  have hbx : Blk w2 w1.heap.size 45 (spCells b e3 a en) := by rw [← hw2]; exact Blk.new _ _ _
  have hb2 : Below w1.heap.size w1 w2 := by rw [← hw2]; exact (Below.refl _ _).alloc (Nat.le_refl _) _
  unfold spCells at hw2
  rw [hw2]
  have HP2 := Lib.hid (HP1.out.later hb2)
  have hsrc2 : w2.cell? ⟨pb, 2, none⟩ = some (.string ⟨s.toArray⟩) := HP2.out.par.src
  have hz3 : w2.cell? ⟨w1.heap.size, 3, none⟩ = some (.int .i64 b) := hbx.cell 3
  have hz4 : w2.cell? ⟨w1.heap.size, 4, none⟩ = some (.int .i64 e3) := hbx.cell 4
  have HB0 : Hid (Below w.heap.size w w2) := Lib.hid (HB1.out.trans (hb2.mono HB1.out.size))
  clear hw2 hb2 hbx
  go_region
  all_goals
    go_wp2_with fail
    refine (quoted_any pb b tz s hbt ht hs _ HP2.out.drew.par _ HV.out).mono ?_
    rintro e1 w4 ⟨rfl, hb4⟩
    have HB4 : Hid (Below w.heap.size w w4) := Lib.hid (HB0.out.drew.trans (hb4.mono HB0.out.size))
    clear hb4 hz3 hz4
    have HP4 := Lib.hid (HP.out.later HB4.out)
    go_wp2_with fail
    refine (blanks_any pb e2 tz s (by omega) ht (by omega) _ HP4.out.par.src x HK0.out).mono ?_
    rintro e1 w6 ⟨rfl, rfl⟩
    go_wp2_with fail
    refine (fail_par pb x 4 s _ HP4.out.par).mono ?_
    rintro e1 w6 ⟨rfl, hf⟩
    have HFP := Lib.hid (hf.lines HB4.out HP.out)
    clear hf
    go_wp2_with fail
    (try refine bodyPost_ret (v := .bool false) (by simp [results, Tryd.results30, go_sem]) rfl ?_)
    exact ⟨rfl, HFP.out⟩
theorem entry_any (B pb a tz : Nat) (V : PV) (s : Ini.Str) (st : Ini.St) (ha : a ≤ tz) (ht : tz ≤ s.length) (hs : s.length ≤ 1073741823) (w : World) (hp : PAt B V w pb s st) (hf : Fit st)
    (R : Ini.Res Ini.St) (hR : Ini.entry st (seg s a tz) a = R) :
    Calls Tryd.prog 30 #[.pointer (some ⟨pb, 0, none⟩), .int .i64 a, .int .i64 tz] w (LPost B V w pb s R) := by
  unfold Ini.entry at hR
  cases hn : Ini.name (seg s a tz) a 61 with
  | err x c =>
    rw [hn] at hR
    simp only at hR
    rw [← hR]
    exact entry_name_err B pb a tz V s st ha ht hs w hp x c hn
  | ok p =>
    obtain ⟨key, en, i⟩ := p
    obtain ⟨b1, b2, b3⟩ := name_bounds s a tz 61 ha ht key en i hn
    rw [hn] at hR
    simp only [seg_drop, show a + (i - a) = i from by omega] at hR
    obtain ⟨b, hb⟩ : ∃ b, i + Ini.nB (seg s i tz) = b := ⟨_, rfl⟩
    have hbz : i ≤ b ∧ b ≤ tz := by have := nB_le (seg s i tz); rw [seg_len s _ tz ht] at this; omega
    obtain ⟨hib, hbz⟩ := hbz
    rw [hb] at hR
    unfold Ini.value at hR
    have hvl : (seg s b tz).length = tz - b := seg_len s b tz ht
    by_cases hq : ∃ h : b < tz, s[b]'(by omega) = 34
    · obtain ⟨hbt, hq0⟩ := hq
      rw [if_pos (by rw [seg_cons s b tz hbt ht, hq0]; rfl)] at hR
      cases hv : Ini.quoted (seg s b tz) b with
      | err x c =>
        rw [hv] at hR
        simp only at hR
        rw [← hR]
        exact entry_q_err B pb a tz V s st ha ht hs w hp key en i b hn hb hbt hq0 x c hv
      | ok p =>
        obtain ⟨t, e2⟩ := p
        obtain ⟨bb1, bb2⟩ := quoted_bounds s b tz hbt ht t e2 hv
        have hel := seg_len s e2 tz ht
        have hnb := nB_le (seg s e2 tz)
        rw [hv] at hR
        simp only [seg_drop, show b + (e2 - b) = e2 from by omega, hel] at hR
        by_cases hk : e2 + Ini.nB (seg s e2 tz) < tz
        · rw [if_pos (by omega)] at hR
          simp only at hR
          rw [← hR]
          exact entry_q_more B pb a tz V s st ha ht hs w hp key en i b hn hb hbt hq0 t e2 hv _ rfl hk
        · rw [if_neg (by omega)] at hR
          simp only at hR
          cases hA : Ini.add st st.node st.span key ⟨5, t, [], []⟩ ⟨0, 0, 0, b, e2, a, en, true⟩ with
          | err x c =>
            rw [hA] at hR
            simp only at hR
            rw [← hR]
            exact entry_quoted_err B pb a tz V s st ha ht hs w hp hf key en i b hn hb hbt hq0 t e2 hv (by omega) x c hA
          | ok st' =>
            rw [hA] at hR
            exact entry_quoted_ok B pb a tz V s st ha ht hs w hp hf key en i b hn hb hbt hq0 t e2 hv (by omega) st' hA R hR
    · have hq2 : ∀ h : b < tz, s[b]'(by omega) ≠ 34 := fun h e => hq ⟨h, e⟩
      rw [if_neg (by
        intro e
        by_cases h : b < tz
        · rw [seg_cons s b tz h ht] at e
          injection e with e
          exact hq2 h e
        · rw [seg_nil s b tz (by omega)] at e
          cases e)] at hR
      have htk : (seg s b tz).take (Ini.nT (seg s b tz)) = seg s b (b + Ini.nT (seg s b tz)) := seg_take s b tz _ (by have := nT_le (seg s b tz); omega)
      simp only [htk] at hR
      cases hA : Ini.add st st.node st.span key ⟨5, seg s b (b + Ini.nT (seg s b tz)), [], []⟩ ⟨0, 0, 0, b, b + Ini.nT (seg s b tz), a, en, true⟩ with
      | err x c =>
        rw [hA] at hR
        simp only at hR
        rw [← hR]
        rcases not_quote s b tz ht hq2 with h | h
        · exact entry_bare1_err B pb a tz V s st ha ht hs w hp hf key en i b hn hb h _ _ rfl rfl x c hA
        · exact entry_bare2_err B pb a tz V s st ha ht hs w hp hf key en i b hn hb h _ _ rfl rfl x c hA
      | ok st' =>
        rw [hA] at hR
        rcases not_quote s b tz ht hq2 with h | h
        · exact entry_bare1_ok B pb a tz V s st ha ht hs w hp hf key en i b hn hb h _ _ rfl rfl st' hA R hR
        · exact entry_bare2_ok B pb a tz V s st ha ht hs w hp hf key en i b hn hb h _ _ rfl rfl st' hA R hR
end Go.Proofs.YtegdemnfjmaicaaDoor
