/- Walks: the reference's line. The reference's lines, plain; what a line keeps. -/
import Derived.Test.YtegdemnfjmaicaaDoorWalk44
import Derived.Test.YtegdemnfjmaicaaDoorPlainZ
namespace Go.Proofs.YtegdemnfjmaicaaDoor
open Go.RowKit
theorem line_seg (st : Ini.St) (s : Ini.Str) (a tz b : Nat) (ha : a ≤ tz) (ht : tz ≤ s.length) (hb : a + Ini.nB (seg s a tz) = b) :
    Ini.line st (seg s a tz) a = match seg s b tz with
      | [] => .ok st
      | c :: _ => if c = 59 ∨ c = 35 then .ok { st with notes := st.notes ++ [⟨b, tz, seg s b tz⟩] } else if c = 91 then Ini.header st (seg s b tz) b else Ini.entry st (seg s b tz) b := by
  have h1 : (seg s a tz).drop (Ini.nB (seg s a tz)) = seg s b tz := by rw [seg_drop, hb]
  have h2 : a + (seg s a tz).length = tz := by rw [seg_len s a tz ht]; omega
  unfold Ini.line
  simp only [h1, h2, hb]
  cases seg s b tz <;> rfl
set_option maxRecDepth 100000 in
set_option maxHeartbeats 4000000 in
theorem rline_note (B rb a tz b : Nat) (V : PV) (s : Ini.Str) (st : Ini.St) (ha : a ≤ tz) (ht : tz ≤ s.length) (hs : s.length ≤ 1073741823) (w : World) (h : RAt B V w rb s st) (he : V.e_ = .int .i64 0) (hnl : st.notes.length < 1073741823)
    (hb : a + Ini.nB (seg s a tz) = b) (hbt : b < tz) (hc : s[b]'(by omega) = 59 ∨ s[b]'(by omega) = 35) :
    Calls Tryd.prog 23 #[.pointer (some ⟨rb, 0, none⟩), .int .i64 a, .int .i64 tz] w fun e w' => Below B w w' ∧ e = .returned (.tuple #[]) ∧ RLPost B V rb s (.ok { st with notes := st.notes ++ [⟨b, tz, seg s b tz⟩] }) w' := by
  obtain ⟨A, c, hv, _⟩ := h.notes.form
  have HV := Lib.hid hv
  have HA := Lib.hid h
  have HB := Lib.hid hb
  have HE := Lib.hid he
  have hsrc := h.src
  have hne : ¬ ((b : Int) = (tz : Int)) := by omega
  have hneb : ((b : Int) == (tz : Int)) = false := by simpa using hne
  obtain ⟨t, htx⟩ : ∃ t, seg s b tz = t := ⟨_, rfl⟩
  have hext : (⟨s.toArray⟩ : ByteArray).extract b tz = ⟨t.toArray⟩ := by rw [extract_seg, htx]
  rw [htx]
  have hbI : (b : Int) ≤ (tz : Int) := by omega
  have htI : (tz : Int) ≤ (s.length : Int) := by omega
  have hbs : (b : Int) < (s.length : Int) := by omega
  have h5 : w.cell? ⟨rb, 5, none⟩ = some (.slice A st.notes.length c) := by rw [h.blk.cell 5]; show some V.tv = _; rw [hv]
  have h5A : (w.alloc (.cells #[.int .i64 b, .int .i64 tz, .string ⟨t.toArray⟩] 54)).cell? ⟨rb, 5, none⟩ = some (.slice A st.notes.length c) := by rw [(h.blk.alloc _).cell 5]; show some V.tv = _; rw [hv]
  have e5 := World.new_ne w _ h5
  have pf : ∀ i, w.frozen? ⟨rb, i, none⟩ = false := h.blk.frozen
  have hle := h.le
  have hownA : OwnRow noteL (w.alloc (.cells #[.int .i64 b, .int .i64 tz, .string ⟨t.toArray⟩] 54)).drew B 54 (.slice A st.notes.length c) st.notes := by rw [← hv]; exact (h.notes.alloc _).drew
  have hlitA : RowAt noteL (w.alloc (.cells #[.int .i64 b, .int .i64 tz, .string ⟨t.toArray⟩] 54)).drew (w.heap.size + 1) (some ⟨w.heap.size, 0, none⟩) [⟨b, tz, t⟩] := (RowAt.lit1 _ _ rfl _ rfl).drew
  have hlA : st.notes.length + [(⟨b, tz, t⟩ : Ini.Note)].length ≤ 1073741824 := by simp only [List.length_cons, List.length_nil]; omega
  have hbA : B ≤ (w.alloc (.cells #[.int .i64 b, .int .i64 tz, .string ⟨t.toArray⟩] 54)).drew.heap.size := by have := h.base; simp; omega
  have hbl : Below w.heap.size w (w.alloc (.cells #[.int .i64 b, .int .i64 tz, .string ⟨t.toArray⟩] 54)).drew := ((Below.refl _ _).alloc (Nat.le_refl _) _).drew
  have HBL := Lib.hid hbl
  have HPA := Lib.hid (h.later hbl)
  have HBS := Lib.hid h.base
  have HLEN : Hid ((st.notes ++ [(⟨b, tz, t⟩ : Ini.Note)]).length = st.notes.length + 1) := Lib.hid (by simp)
  rcases hc with hc | hc
  · have q1 := byte_is s b (by omega) _ 59 59 rfl hc rfl
    have q1b := byte_isb s b (by omega) _ 59 59 rfl hc rfl
    clear hv h hb he htx hc hbl hnl
    go_enter Tryd.func23, Tryd.ntmps23
    go_wp2_with fail
    refine (rblanks_any a tz s ha ht (by omega) _ b HB.out).mono ?_
    rintro e w2 ⟨rfl, rfl⟩
    go_upto_region 4 with fail
    go_region_law (refine step_append_row _ rfl (.tmp 35) (.tmp 43) 27 54 32 rfl noteT B (.slice A st.notes.length c) st.notes rfl hownA _ _ 1 [⟨b, tz, t⟩] rfl hlitA hlA hbA ?_; intro v' w2 hown2 hg2 hat2; obtain ⟨g3, cap3, rest3, rfl, hG3⟩ := hown2.head (by simp); have hb2 : Blk w2 rb 74 _ := HPA.out.blk.grown hg2 (fun e => own_blk_ne hownA HPA.out.blk (by decide) e.symm); have pf2 : ∀ i, w2.frozen? ⟨rb, i, none⟩ = false := hb2.frozen; have pc2 : w2.cell? ⟨rb, 5, none⟩ = some V.tv := hb2.cell 5; have HOW2 := Lib.hid hown2; have HG2 := Lib.hid hg2; have HAT2 := Lib.hid hat2; clear hown2 hg2 hat2 hG3 hb2)
    all_goals
      go_wp2_with fail
      (try refine bodyPost_ret (v := .tuple #[]) (by simp [results, Tryd.results23, go_sem]) rfl ?_)
      have ho := HOW2.out
      rw [HLEN.out] at ho
      have hg9 := HG2.out
      rw [← HV.out] at hg9
      exact ⟨((HBL.out.mono HBS.out).trans (OwnRow.grown_below (by rw [HV.out]; exact hownA) hg9 hbA)).setCell (p := ⟨rb, 5, none⟩) hle _, rfl, _, HPA.out.appNotes ho hg9, rfl, HE.out⟩
  · have q1 := byte_not s b (by omega) 35 59 59 rfl hc (by decide)
    have q1b := byte_nob s b (by omega) 35 59 59 rfl hc (by decide)
    have q2 := byte_is s b (by omega) 35 35 35 rfl hc rfl
    have q2b := byte_isb s b (by omega) 35 35 35 rfl hc rfl
    clear hv h hb he htx hc hbl hnl
    go_enter Tryd.func23, Tryd.ntmps23
    go_wp2_with fail
    refine (rblanks_any a tz s ha ht (by omega) _ b HB.out).mono ?_
    rintro e w2 ⟨rfl, rfl⟩
    go_upto_region 4 with fail
    go_region_law (refine step_append_row _ rfl (.tmp 35) (.tmp 43) 27 54 32 rfl noteT B (.slice A st.notes.length c) st.notes rfl hownA _ _ 1 [⟨b, tz, t⟩] rfl hlitA hlA hbA ?_; intro v' w2 hown2 hg2 hat2; obtain ⟨g3, cap3, rest3, rfl, hG3⟩ := hown2.head (by simp); have hb2 : Blk w2 rb 74 _ := HPA.out.blk.grown hg2 (fun e => own_blk_ne hownA HPA.out.blk (by decide) e.symm); have pf2 : ∀ i, w2.frozen? ⟨rb, i, none⟩ = false := hb2.frozen; have pc2 : w2.cell? ⟨rb, 5, none⟩ = some V.tv := hb2.cell 5; have HOW2 := Lib.hid hown2; have HG2 := Lib.hid hg2; have HAT2 := Lib.hid hat2; clear hown2 hg2 hat2 hG3 hb2)
    all_goals
      go_wp2_with fail
      (try refine bodyPost_ret (v := .tuple #[]) (by simp [results, Tryd.results23, go_sem]) rfl ?_)
      have ho := HOW2.out
      rw [HLEN.out] at ho
      have hg9 := HG2.out
      rw [← HV.out] at hg9
      exact ⟨((HBL.out.mono HBS.out).trans (OwnRow.grown_below (by rw [HV.out]; exact hownA) hg9 hbA)).setCell (p := ⟨rb, 5, none⟩) hle _, rfl, _, HPA.out.appNotes ho hg9, rfl, HE.out⟩
set_option maxRecDepth 100000 in
set_option maxHeartbeats 4000000 in
theorem rline_any (B rb a tz : Nat) (V : PV) (s : Ini.Str) (st : Ini.St) (ha : a ≤ tz) (ht : tz ≤ s.length) (hs : s.length ≤ 1073741823) (w : World) (h : RAt B V w rb s st) (hf : Fit st) (he : V.e_ = .int .i64 0)
    (h0 : ∃ h : 0 < st.spans.length, (st.spans[0]).node = 0) (h1 : ∃ h : st.span < st.spans.length, (st.spans[st.span]).node = st.node) (hnl : st.notes.length < 1073741823) (R : Ini.Res Ini.St) (hR : Ini.line st (seg s a tz) a = R) :
    Calls Tryd.prog 23 #[.pointer (some ⟨rb, 0, none⟩), .int .i64 a, .int .i64 tz] w fun e w' => Below B w w' ∧ e = .returned (.tuple #[]) ∧ RLPost B V rb s R w' := by
  obtain ⟨b, hb⟩ : ∃ b, a + Ini.nB (seg s a tz) = b := ⟨_, rfl⟩
  have hbz : a ≤ b ∧ b ≤ tz := by have := nB_le (seg s a tz); rw [seg_len s _ tz ht] at this; omega
  rw [line_seg st s a tz b ha ht hb] at hR
  have HB := Lib.hid hb
  have hsrc := h.src
  by_cases hbt : b < tz
  · have hbl : b < s.length := by omega
    rw [seg_cons s b tz hbt ht] at hR
    simp only at hR
    rw [← seg_cons s b tz hbt ht] at hR
    by_cases hn : s[b] = 59 ∨ s[b] = 35
    · rw [if_pos hn] at hR
      rw [← hR]
      exact rline_note B rb a tz b V s st ha ht hs w h he hnl hb hbt hn
    · rw [if_neg hn] at hR
      have hne : ¬ ((b : Int) = (tz : Int)) := by omega
      have hneb : ((b : Int) == (tz : Int)) = false := by simpa using hne
      have hbs : (b : Int) < (s.length : Int) := by omega
      have q1 := byte_not s b hbl _ 59 59 rfl rfl (fun e => hn (.inl e))
      have q1b := byte_nob s b hbl _ 59 59 rfl rfl (fun e => hn (.inl e))
      have q2 := byte_not s b hbl _ 35 35 rfl rfl (fun e => hn (.inr e))
      have q2b := byte_nob s b hbl _ 35 35 rfl rfl (fun e => hn (.inr e))
      by_cases hh : s[b] = 91
      · rw [if_pos hh] at hR
        have q3 := byte_is s b hbl _ 91 91 rfl hh rfl
        have q3b := byte_isb s b hbl _ 91 91 rfl hh rfl
        have HS := Lib.hid (rsection_any B rb b tz V s st w h hf he h0 hbt ht hs R hR)
        clear hn hh h hb hR
        go_enter Tryd.func23, Tryd.ntmps23
        go_wp2_with fail
        refine (rblanks_any a tz s ha ht (by omega) _ b HB.out).mono ?_
        rintro e w2 ⟨rfl, rfl⟩
        go_wp2_with fail
        refine HS.out.mono ?_
        rintro e w3 ⟨hb3, rfl, h3⟩
        have HB3 := Lib.hid hb3
        have H3 := Lib.hid h3
        clear hb3 h3
        go_wp2_with fail
        refine bodyPost_ret (v := .tuple #[]) (by simp [results, Tryd.results23, go_sem]) rfl ?_
        exact ⟨HB3.out, rfl, H3.out⟩
      · rw [if_neg hh] at hR
        have q3 := byte_not s b hbl _ 91 91 rfl rfl hh
        have q3b := byte_nob s b hbl _ 91 91 rfl rfl hh
        have HS := Lib.hid (rentry_any B rb b tz V s st w h hf he h1 hbt ht hs R hR)
        clear hn hh h hb hR
        go_enter Tryd.func23, Tryd.ntmps23
        go_wp2_with fail
        refine (rblanks_any a tz s ha ht (by omega) _ b HB.out).mono ?_
        rintro e w2 ⟨rfl, rfl⟩
        go_wp2_with fail
        refine HS.out.mono ?_
        rintro e w3 ⟨hb3, rfl, h3⟩
        have HB3 := Lib.hid hb3
        have H3 := Lib.hid h3
        clear hb3 h3
        go_wp2_with fail
        (try go_end0)
        exact ⟨HB3.out, rfl, H3.out⟩
  · have hbe : b = tz := by omega
    rw [seg_nil s _ _ (by omega)] at hR
    simp only at hR
    have HR := Lib.hid hR
    have HA := Lib.hid h
    have HE := Lib.hid he
    subst hbe
    clear h hR he hb
    go_enter Tryd.func23, Tryd.ntmps23
    go_wp2_with fail
    refine (rblanks_any a b s ha ht (by omega) _ b HB.out).mono ?_
    rintro e w2 ⟨rfl, rfl⟩
    go_wp2_with fail
    refine bodyPost_ret (v := .tuple #[]) (by simp [results, Tryd.results23, go_sem]) rfl ?_
    rw [← HR.out]
    exact ⟨Below.refl _ _, rfl, V, HA.out, rfl, HE.out⟩
end Go.Proofs.YtegdemnfjmaicaaDoor
namespace Go.Proofs.YtegdemnfjmaicaaDoor
open Go.RowKit
/-- the last line: no end of line behind it. -/
theorem lines_last (n : Nat) (st : Ini.St) (s : Ini.Str) (a : Nat) (h : ∀ j (hj : j < s.length), a ≤ j → s[j] ≠ 10) : Ini.lines (n + 1) st (s.drop a) a = Ini.line st (seg s a s.length) a := by
  have hn : (10 : UInt8) ∉ s.drop a := by
    intro hm
    obtain ⟨j, hj, e⟩ := List.mem_iff_getElem.1 hm
    rw [List.getElem_drop] at e
    rw [List.length_drop] at hj
    exact h (a + j) (by omega) (by omega) e
  have e : s.drop a = seg s a s.length := by unfold seg; rw [List.take_length]
  conv => lhs; unfold Ini.lines
  rw [Ini.splitAt_none hn]
  simp only [e]
/-- a line with its end at i. -/
theorem lines_next (n : Nat) (st : Ini.St) (s : Ini.Str) (a i : Nat) (ha : a ≤ i) (hi : i < s.length) (h : ∀ j (hj : j < s.length), a ≤ j → j < i → s[j] ≠ 10) (h10 : s[i] = 10) :
    Ini.lines (n + 1) st (s.drop a) a = match Ini.line st (Ini.cr (seg s a i)) a with
      | .err x e => .err x e
      | .ok st' => Ini.lines n st' (s.drop (i + 1)) (i + 1) := by
  have hn : (10 : UInt8) ∉ seg s a i := by
    intro hm
    obtain ⟨j, hj, e⟩ := List.mem_iff_getElem.1 hm
    rw [seg_len s a i (by omega)] at hj
    rw [seg_get s a i j (by omega) (by rw [seg_len s a i (by omega)]; omega)] at e
    exact h (a + j) (by omega) (by omega) (by omega) e
  have e : s.drop a = seg s a i ++ 10 :: s.drop (i + 1) := by
    have h1 : s.drop i = s[i] :: s.drop (i + 1) := List.drop_eq_getElem_cons hi
    rw [h10] at h1
    rw [← h1]
    unfold seg
    have h2 := (List.take_append_drop (i - a) (s.drop a)).symm
    rw [List.drop_drop, show a + (i - a) = i from by omega] at h2
    rw [List.drop_take]
    exact h2
  conv => lhs; unfold Ini.lines
  rw [e, Ini.splitAt_some hn]
  simp only [seg_len s a i (by omega)]
  rw [show a + (i - a) + 1 = i + 1 from by omega]
  cases Ini.line st (Ini.cr (seg s a i)) a <;> rfl
/-- the carriage return is left out. -/
theorem cr_seg (s : Ini.Str) (a i : Nat) (ha : a ≤ i) (hi : i ≤ s.length) :
    Ini.cr (seg s a i) = if ∃ h : i - 1 < s.length, a < i ∧ s[i - 1] = 13 then seg s a (i - 1) else seg s a i := by
  unfold Ini.cr
  by_cases hai : a < i
  · have hl : (seg s a i).getLast? = some (s[i - 1]'(by omega)) := by
      rw [List.getLast?_eq_getElem?, seg_len s a i hi, List.getElem?_eq_getElem (by rw [seg_len s a i hi]; omega)]
      rw [seg_get s a i (i - a - 1) hi (by rw [seg_len s a i hi]; omega)]
      congr 1
      congr 1
      omega
    rw [hl]
    by_cases h13 : s[i - 1]'(by omega) = 13
    · rw [if_pos (by rw [h13]), if_pos ⟨by omega, hai, h13⟩]
      rw [List.dropLast_eq_take, seg_len s a i hi]
      unfold seg
      rw [List.take_drop, List.take_take]
      congr 2
      omega
    · rw [if_neg (by simpa using h13), if_neg (fun ⟨_, _, e⟩ => h13 e)]
  · have he : seg s a i = [] := seg_nil s _ _ (by omega)
    rw [he, if_neg (by simp), if_neg (fun ⟨_, h, _⟩ => hai h)]
/-- the spans' nodes, as a line keeps them. -/
def SpOk (st : Ini.St) : Prop := (∃ h : 0 < st.spans.length, (st.spans[0]).node = 0) ∧ (∃ h : st.span < st.spans.length, (st.spans[st.span]).node = st.node)
theorem SpOk.of {st st' : Ini.St} (h : SpOk st) (x : Ini.Sp) (hs : st'.spans = st.spans ++ [x]) (hn : st'.node = st.node) (hk : st'.span = st.span) : SpOk st' := by
  obtain ⟨⟨h1, h2⟩, ⟨h3, h4⟩⟩ := h
  have e1 : st'.spans.length = st.spans.length + 1 := by rw [hs]; simp
  refine ⟨⟨by omega, ?_⟩, ⟨by omega, ?_⟩⟩
  · have : st'.spans[0]? = some st.spans[0] := by rw [hs, List.getElem?_append_left h1, List.getElem?_eq_getElem h1]
    rw [List.getElem?_eq_getElem (by omega)] at this
    injection this with this
    rw [this]; exact h2
  · have : st'.spans[st.span]? = some st.spans[st.span] := by rw [hs, List.getElem?_append_left h3, List.getElem?_eq_getElem h3]
    rw [List.getElem?_eq_getElem (by omega)] at this
    injection this with this
    simp only [hk, hn]
    rw [this]; exact h4
theorem SpOk.setTo {st : Ini.St} (h : SpOk st) (k tz : Nat) : SpOk { st with spans := Ini.setTo st.spans k tz } := by
  obtain ⟨⟨h1, h2⟩, ⟨h3, h4⟩⟩ := h
  have hl := Ini.setTo_length st.spans k tz
  have key : ∀ j (hj : j < st.spans.length), ((Ini.setTo st.spans k tz)[j]'(by omega)).node = (st.spans[j]).node := by
    intro j hj
    have : (Ini.setTo st.spans k tz)[j]?.map (·.node) = (st.spans[j]?).map (·.node) := by
      unfold Ini.setTo
      cases hk : st.spans[k]? with
      | none => rfl
      | some x =>
        simp only
        by_cases e : k = j
        · subst e
          rw [List.getElem?_set_self hj, hk]
          rfl
        · rw [List.getElem?_set_ne e]
    rw [List.getElem?_eq_getElem (by omega), List.getElem?_eq_getElem hj] at this
    simpa using this
  exact ⟨⟨by show 0 < (Ini.setTo st.spans k tz).length; omega, (key 0 h1).trans h2⟩, ⟨by show st.span < (Ini.setTo st.spans k tz).length; omega, (key st.span h3).trans h4⟩⟩
theorem add_spans {st st' : Ini.St} {node span : Nat} {key : Ini.Str} {n : Ini.Nd} {x : Ini.Sp} (hn : node < st.nodes.length) (h : Ini.add st node span key n x = .ok st') :
    ∃ y : Ini.Sp, y.node = st.nodes.length + 1 ∧ st'.spans = st.spans ++ [y] ∧ st'.node = st.node ∧ st'.span = st.span ∧ st'.nodes.length = st.nodes.length + 2 ∧ st'.notes = st.notes := by
  rcases Ini.add_cases st node span key n x hn with h1 | h1 | ⟨_, _, h1⟩
  · rw [h1] at h; cases h
  · rw [h1] at h; cases h
  · rw [h1] at h
    injection h with h
    subst h
    exact ⟨_, rfl, rfl, rfl, rfl, by simp, rfl⟩
theorem SpOk.header {st st' : Ini.St} {r : Ini.Str} {a : Nat} (hf : Fit st) (h : SpOk st) (e : Ini.header st r a = .ok st') : SpOk st' ∧ st'.notes = st.notes := by
  unfold Ini.header at e
  simp only at e
  split at e
  · cases e
  · split at e
    · cases e
    · split at e
      · cases e
      · rename_i st1 e1
        injection e with e
        subst e
        obtain ⟨y, hy, hs, h1, h2, h3, h4⟩ := add_spans hf.pos e1
        have hh := (h.of y hs h1 h2).1
        obtain ⟨q1, q2⟩ := hh
        have hl : st1.spans.length = st.spans.length + 1 := by rw [hs]; simp
        refine ⟨⟨⟨q1, q2⟩, ⟨by show st1.spans.length - 1 < st1.spans.length; omega, ?_⟩⟩, h4⟩
        show (st1.spans[st1.spans.length - 1]).node = st1.nodes.length - 1
        have : st1.spans[st1.spans.length - 1]? = some y := by rw [hs]; simp
        rw [List.getElem?_eq_getElem (by omega)] at this
        injection this with this
        rw [this, hy, h3]
        omega
theorem SpOk.entry {st st' : Ini.St} {r : Ini.Str} {a : Nat} (hf : Fit st) (h : SpOk st) (e : Ini.entry st r a = .ok st') : SpOk st' ∧ st'.notes = st.notes := by
  unfold Ini.entry at e
  simp only at e
  split at e
  · cases e
  · split at e
    · cases e
    · split at e
      · cases e
      · rename_i st1 e1
        obtain ⟨y, hy, hs, h1, h2, h3, h4⟩ := add_spans hf.node e1
        have hh := h.of y hs h1 h2
        split at e
        · injection e with e
          subst e
          have := hh.setTo st.span ‹Nat›
          exact ⟨by first | exact hh.setTo _ _ | exact this, h4⟩
        · injection e with e
          subst e
          exact ⟨hh, h4⟩
theorem SpOk.line {st st' : Ini.St} {r : Ini.Str} {a : Nat} (hf : Fit st) (h : SpOk st) (e : Ini.line st r a = .ok st') : SpOk st' ∧ st'.notes.length ≤ st.notes.length + 1 := by
  unfold Ini.line at e
  simp only at e
  split at e
  · injection e with e
    subst e
    exact ⟨h, by omega⟩
  · split at e
    · injection e with e
      subst e
      exact ⟨h, by simp⟩
    · split at e
      · have := SpOk.header hf h e
        exact ⟨this.1, by rw [this.2]; omega⟩
      · have := SpOk.entry hf h e
        exact ⟨this.1, by rw [this.2]; omega⟩
end Go.Proofs.YtegdemnfjmaicaaDoor
