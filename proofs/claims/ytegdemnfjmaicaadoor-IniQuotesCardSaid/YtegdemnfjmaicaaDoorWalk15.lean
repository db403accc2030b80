/- Walks: a line that is a note. Walks: a line that is a note. Walks: a line, whole. -/
import Derived.Test.YtegdemnfjmaicaaDoorWalk14
import Derived.Deep.RegionHeld3
namespace Go.Proofs.YtegdemnfjmaicaaDoor
open Go.RowKit
set_option maxRecDepth 100000 in
set_option maxHeartbeats 4000000 in
theorem one_note59 (B pb a tz : Nat) (V : PV) (s : Ini.Str) (st : Ini.St) (ha : a ≤ tz) (ht : tz ≤ s.length) (hs : s.length ≤ 1073741823) (w : World) (hp : PAt B V w pb s st) (hnl : st.notes.length < 1073741823)
    (b : Nat) (hb : a + Ini.nB (seg s a tz) = b) (hbz : b < tz) (hc : s[b]'(by omega) = 59) :
    Calls Tryd.prog 21 #[.pointer (some ⟨pb, 0, none⟩), .agg #[.int .i64 a, .int .i64 tz]] w (LPost B V w pb s (.ok { st with notes := st.notes ++ [⟨b, tz, seg s b tz⟩] })) := by
  have hlt := hp.blk.lt
  obtain ⟨A, c, hv, _⟩ := hp.notes.form
  have HV := Lib.hid hv
  have HP := Lib.hid hp
  have HB := Lib.hid hb
  have hne : ¬ ((b : Int) = (tz : Int)) := by omega
  have q1 := byte_is s b (by omega) 59 59 59 rfl hc rfl
  have q1b := byte_isb s b (by omega) 59 59 59 rfl hc rfl
  obtain ⟨t, htx⟩ : ∃ t, seg s b tz = t := ⟨_, rfl⟩
  have hext : (⟨s.toArray⟩ : ByteArray).extract b tz = ⟨t.toArray⟩ := by rw [extract_seg, htx]
  rw [htx]
  have hbI : (b : Int) ≤ (tz : Int) := by omega
  have htI : (tz : Int) ≤ (s.length : Int) := by omega
  clear hp hb hc hv htx
  go_enter Tryd.func21, Tryd.ntmps21
  go_wp2_with fail
  refine (blanks_any pb a tz s ha ht (by omega) _ (HP.out.alloc _).par.src b HB.out).mono ?_
  rintro e1 w1 ⟨rfl, rfl⟩
  obtain ⟨w1, hw1⟩ : ∃ w1, w.alloc (.cells (lnCells a tz) 67) = w1 := ⟨_, rfl⟩
  have HP1 : Hid (PAt B V w1 pb s st) := Lib.hid (by rw [← hw1]; exact HP.out.alloc _)
  have HB1 : Hid (Below w.heap.size w w1) := Lib.hid (by rw [← hw1]; exact (Below.refl _ _).alloc (Nat.le_refl _) _)
  have hbx : Blk w1 w.heap.size 67 (lnCells a tz) := by rw [← hw1]; exact Blk.new _ _ _
  unfold lnCells at hw1
  rw [hw1]
  have hsrc : w1.cell? ⟨pb, 2, none⟩ = some (.string ⟨s.toArray⟩) := HP1.out.par.src
  have h8 : w1.cell? ⟨pb, 8, none⟩ = some (.slice A st.notes.length c) := by rw [HP1.out.blk.cell 8]; show some V.tv = _; rw [HV.out]
  have hx1 : w1.cell? ⟨w.heap.size, 1, none⟩ = some (.int .i64 tz) := hbx.cell 1
  have hsrcA : (w1.alloc (.cells #[.int .i64 b, .int .i64 tz, .string ⟨t.toArray⟩] 54)).cell? ⟨pb, 2, none⟩ = some (.string ⟨s.toArray⟩) := (HP1.out.alloc _).par.src
  have h8A : (w1.alloc (.cells #[.int .i64 b, .int .i64 tz, .string ⟨t.toArray⟩] 54)).cell? ⟨pb, 8, none⟩ = some (.slice A st.notes.length c) := by rw [(HP1.out.alloc _).blk.cell 8]; show some V.tv = _; rw [HV.out]
  have hx1A : (w1.alloc (.cells #[.int .i64 b, .int .i64 tz, .string ⟨t.toArray⟩] 54)).cell? ⟨w.heap.size, 1, none⟩ = some (.int .i64 tz) := (hbx.alloc _).cell 1
  have pf : ∀ i, w1.frozen? ⟨pb, i, none⟩ = false := HP1.out.blk.frozen
  have hownA : OwnRow noteL (w1.alloc (.cells #[.int .i64 b, .int .i64 tz, .string ⟨t.toArray⟩] 54)).drew B 54 (.slice A st.notes.length c) st.notes := by rw [← HV.out]; exact (HP1.out.notes.alloc _).drew
  have hlitA : RowAt noteL (w1.alloc (.cells #[.int .i64 b, .int .i64 tz, .string ⟨t.toArray⟩] 54)).drew (w1.heap.size + 1) (some ⟨w1.heap.size, 0, none⟩) [⟨b, tz, t⟩] := (RowAt.lit1 _ _ rfl _ rfl).drew
  have hlA : st.notes.length + [(⟨b, tz, t⟩ : Ini.Note)].length ≤ 1073741824 := by simp only [List.length_cons, List.length_nil]; omega
  have hbA : B ≤ (w1.alloc (.cells #[.int .i64 b, .int .i64 tz, .string ⟨t.toArray⟩] 54)).drew.heap.size := by have := HP1.out.base; simp; omega
  have hpv : ∀ g, some g = V.tv.ownBlock → pb ≠ g := fun g e e2 => by
    subst e2
    obtain ⟨cs, hb⟩ := HP1.out.notes.blk _ e.symm
    exact Blk.ne_ HP1.out.blk hb (by decide) rfl
  have HPV := Lib.hid hpv
  have HLEN : Hid ((st.notes ++ [(⟨b, tz, t⟩ : Ini.Note)]).length = st.notes.length + 1) := Lib.hid (by simp)
  have HPA : Hid (PAt B V (w1.alloc (.cells #[.int .i64 b, .int .i64 tz, .string ⟨t.toArray⟩] 54)).drew pb s st) := Lib.hid (HP1.out.later (((Below.refl _ _).alloc (Nat.le_refl _) _).drew))
  have HBA : Hid (Below w.heap.size w (w1.alloc (.cells #[.int .i64 b, .int .i64 tz, .string ⟨t.toArray⟩] 54)).drew) := Lib.hid ((HB1.out.alloc HB1.out.size _).drew)
  clear hbx hw1 hpv hnl
  go_upto_region 5 with fail
  go_region_law (refine step_append_row _ rfl (.tmp 39) (.tmp 52) 27 54 32 rfl noteT B (.slice A st.notes.length c) st.notes rfl hownA _ _ 1 [⟨b, tz, t⟩] rfl hlitA hlA hbA ?_; intro v' w2 hown2 hg2 hat2; obtain ⟨g3, cap3, rest3, rfl, hG3⟩ := hown2.head (by simp); have hb2 : Blk w2 pb 62 _ := HPA.out.blk.grown hg2 (fun e => HPV.out pb (by rw [HV.out]; exact e) rfl); have pf2 : ∀ i, w2.frozen? ⟨pb, i, none⟩ = false := hb2.frozen; have pc2 : w2.cell? ⟨pb, 8, none⟩ = some V.tv := hb2.cell 8; have HOW2 := Lib.hid hown2; have HG2 := Lib.hid hg2; have HAT2 := Lib.hid hat2; clear hown2 hg2 hat2 hG3 hb2)
  all_goals
    go_wp2_with fail
    (try refine bodyPost_ret (v := .bool true) (by simp [results, Tryd.results21, go_sem]) rfl ?_)
    have ho := HOW2.out
    have ha := HAT2.out
    rw [HLEN.out] at ho ha
    have hg9 := HG2.out
    rw [← HV.out] at hg9 ha
    exact ⟨rfl, (HPA.out.appNotes ho hg9 ha).from HBA.out⟩
end Go.Proofs.YtegdemnfjmaicaaDoor
namespace Go.Proofs.YtegdemnfjmaicaaDoor
open Go.RowKit
set_option maxRecDepth 100000 in
set_option maxHeartbeats 4000000 in
theorem one_note35 (B pb a tz : Nat) (V : PV) (s : Ini.Str) (st : Ini.St) (ha : a ≤ tz) (ht : tz ≤ s.length) (hs : s.length ≤ 1073741823) (w : World) (hp : PAt B V w pb s st) (hnl : st.notes.length < 1073741823)
    (b : Nat) (hb : a + Ini.nB (seg s a tz) = b) (hbz : b < tz) (hc : s[b]'(by omega) = 35) :
    Calls Tryd.prog 21 #[.pointer (some ⟨pb, 0, none⟩), .agg #[.int .i64 a, .int .i64 tz]] w (LPost B V w pb s (.ok { st with notes := st.notes ++ [⟨b, tz, seg s b tz⟩] })) := by
  have hlt := hp.blk.lt
  obtain ⟨A, c, hv, _⟩ := hp.notes.form
  have HV := Lib.hid hv
  have HP := Lib.hid hp
  have HB := Lib.hid hb
  have hne : ¬ ((b : Int) = (tz : Int)) := by omega
  have q1 := byte_not s b (by omega) 35 59 59 rfl hc (by decide)
  have q1b := byte_nob s b (by omega) 35 59 59 rfl hc (by decide)
  have q2 := byte_is s b (by omega) 35 35 35 rfl hc rfl
  have q2b := byte_isb s b (by omega) 35 35 35 rfl hc rfl
  obtain ⟨t, htx⟩ : ∃ t, seg s b tz = t := ⟨_, rfl⟩
  have hext : (⟨s.toArray⟩ : ByteArray).extract b tz = ⟨t.toArray⟩ := by rw [extract_seg, htx]
  rw [htx]
  have hbI : (b : Int) ≤ (tz : Int) := by omega
  have htI : (tz : Int) ≤ (s.length : Int) := by omega
  clear hp hb hc hv htx
  go_enter Tryd.func21, Tryd.ntmps21
  go_wp2_with fail
  refine (blanks_any pb a tz s ha ht (by omega) _ (HP.out.alloc _).par.src b HB.out).mono ?_
  rintro e1 w1 ⟨rfl, rfl⟩
  obtain ⟨w1, hw1⟩ : ∃ w1, w.alloc (.cells (lnCells a tz) 67) = w1 := ⟨_, rfl⟩
  have HP1 : Hid (PAt B V w1 pb s st) := Lib.hid (by rw [← hw1]; exact HP.out.alloc _)
  have HB1 : Hid (Below w.heap.size w w1) := Lib.hid (by rw [← hw1]; exact (Below.refl _ _).alloc (Nat.le_refl _) _)
  have hbx : Blk w1 w.heap.size 67 (lnCells a tz) := by rw [← hw1]; exact Blk.new _ _ _
  unfold lnCells at hw1
  rw [hw1]
  have hsrc : w1.cell? ⟨pb, 2, none⟩ = some (.string ⟨s.toArray⟩) := HP1.out.par.src
  have h8 : w1.cell? ⟨pb, 8, none⟩ = some (.slice A st.notes.length c) := by rw [HP1.out.blk.cell 8]; show some V.tv = _; rw [HV.out]
  have hx1 : w1.cell? ⟨w.heap.size, 1, none⟩ = some (.int .i64 tz) := hbx.cell 1
  have hsrcA : (w1.alloc (.cells #[.int .i64 b, .int .i64 tz, .string ⟨t.toArray⟩] 54)).cell? ⟨pb, 2, none⟩ = some (.string ⟨s.toArray⟩) := (HP1.out.alloc _).par.src
  have h8A : (w1.alloc (.cells #[.int .i64 b, .int .i64 tz, .string ⟨t.toArray⟩] 54)).cell? ⟨pb, 8, none⟩ = some (.slice A st.notes.length c) := by rw [(HP1.out.alloc _).blk.cell 8]; show some V.tv = _; rw [HV.out]
  have hx1A : (w1.alloc (.cells #[.int .i64 b, .int .i64 tz, .string ⟨t.toArray⟩] 54)).cell? ⟨w.heap.size, 1, none⟩ = some (.int .i64 tz) := (hbx.alloc _).cell 1
  have pf : ∀ i, w1.frozen? ⟨pb, i, none⟩ = false := HP1.out.blk.frozen
  have hownA : OwnRow noteL (w1.alloc (.cells #[.int .i64 b, .int .i64 tz, .string ⟨t.toArray⟩] 54)).drew B 54 (.slice A st.notes.length c) st.notes := by rw [← HV.out]; exact (HP1.out.notes.alloc _).drew
  have hlitA : RowAt noteL (w1.alloc (.cells #[.int .i64 b, .int .i64 tz, .string ⟨t.toArray⟩] 54)).drew (w1.heap.size + 1) (some ⟨w1.heap.size, 0, none⟩) [⟨b, tz, t⟩] := (RowAt.lit1 _ _ rfl _ rfl).drew
  have hlA : st.notes.length + [(⟨b, tz, t⟩ : Ini.Note)].length ≤ 1073741824 := by simp only [List.length_cons, List.length_nil]; omega
  have hbA : B ≤ (w1.alloc (.cells #[.int .i64 b, .int .i64 tz, .string ⟨t.toArray⟩] 54)).drew.heap.size := by have := HP1.out.base; simp; omega
  have hpv : ∀ g, some g = V.tv.ownBlock → pb ≠ g := fun g e e2 => by
    subst e2
    obtain ⟨cs, hb⟩ := HP1.out.notes.blk _ e.symm
    exact Blk.ne_ HP1.out.blk hb (by decide) rfl
  have HPV := Lib.hid hpv
  have HLEN : Hid ((st.notes ++ [(⟨b, tz, t⟩ : Ini.Note)]).length = st.notes.length + 1) := Lib.hid (by simp)
  have HPA : Hid (PAt B V (w1.alloc (.cells #[.int .i64 b, .int .i64 tz, .string ⟨t.toArray⟩] 54)).drew pb s st) := Lib.hid (HP1.out.later (((Below.refl _ _).alloc (Nat.le_refl _) _).drew))
  have HBA : Hid (Below w.heap.size w (w1.alloc (.cells #[.int .i64 b, .int .i64 tz, .string ⟨t.toArray⟩] 54)).drew) := Lib.hid ((HB1.out.alloc HB1.out.size _).drew)
  clear hbx hw1 hpv hnl
  go_upto_region 5 with fail
  go_region_law (refine step_append_row _ rfl (.tmp 39) (.tmp 52) 27 54 32 rfl noteT B (.slice A st.notes.length c) st.notes rfl hownA _ _ 1 [⟨b, tz, t⟩] rfl hlitA hlA hbA ?_; intro v' w2 hown2 hg2 hat2; obtain ⟨g3, cap3, rest3, rfl, hG3⟩ := hown2.head (by simp); have hb2 : Blk w2 pb 62 _ := HPA.out.blk.grown hg2 (fun e => HPV.out pb (by rw [HV.out]; exact e) rfl); have pf2 : ∀ i, w2.frozen? ⟨pb, i, none⟩ = false := hb2.frozen; have pc2 : w2.cell? ⟨pb, 8, none⟩ = some V.tv := hb2.cell 8; have HOW2 := Lib.hid hown2; have HG2 := Lib.hid hg2; have HAT2 := Lib.hid hat2; clear hown2 hg2 hat2 hG3 hb2)
  all_goals
    go_wp2_with fail
    (try refine bodyPost_ret (v := .bool true) (by simp [results, Tryd.results21, go_sem]) rfl ?_)
    have ho := HOW2.out
    have ha := HAT2.out
    rw [HLEN.out] at ho ha
    have hg9 := HG2.out
    rw [← HV.out] at hg9 ha
    exact ⟨rfl, (HPA.out.appNotes ho hg9 ha).from HBA.out⟩
end Go.Proofs.YtegdemnfjmaicaaDoor
namespace Go.Proofs.YtegdemnfjmaicaaDoor
theorem one_any (B pb a tz : Nat) (V : PV) (s : Ini.Str) (st : Ini.St) (ha : a ≤ tz) (ht : tz ≤ s.length) (hs : s.length ≤ 1073741823) (w : World) (hp : PAt B V w pb s st) (hf : Fit st) (hnl : st.notes.length < 1073741823)
    (R : Ini.Res Ini.St) (hR : Ini.line st (seg s a tz) a = R) :
    Calls Tryd.prog 21 #[.pointer (some ⟨pb, 0, none⟩), .agg #[.int .i64 a, .int .i64 tz]] w (LPost B V w pb s R) := by
  obtain ⟨b, hb⟩ : ∃ b, a + Ini.nB (seg s a tz) = b := ⟨_, rfl⟩
  have hbz : b ≤ tz := by have := nB_le (seg s a tz); rw [seg_len s _ tz ht] at this; omega
  by_cases hlt : b < tz
  · rw [line_eq st s a tz b ht ha hb hlt] at hR
    by_cases h1 : s[b]'(by omega) = 59
    · rw [if_pos (.inl h1)] at hR
      rw [← hR]
      exact one_note59 B pb a tz V s st ha ht hs w hp hnl b hb hlt h1
    · by_cases h2 : s[b]'(by omega) = 35
      · rw [if_pos (.inr h2)] at hR
        rw [← hR]
        exact one_note35 B pb a tz V s st ha ht hs w hp hnl b hb hlt h2
      · rw [if_neg (by simp [h1, h2])] at hR
        by_cases h3 : s[b]'(by omega) = 91
        · rw [if_pos h3] at hR
          exact one_header B pb a tz V s st ha ht hs w hp hf b hb hlt h3 R hR
        · rw [if_neg h3] at hR
          exact one_entry B pb a tz V s st ha ht hs w hp hf b hb hlt h1 h2 h3 R hR
  · obtain rfl : b = tz := by omega
    rw [line_end st s a b hb] at hR
    rw [← hR]
    exact one_end B pb a b V s st ha ht hs w hp hb
end Go.Proofs.YtegdemnfjmaicaaDoor
