/- Walks: IniSpaces. -/
import Derived.Test.YtegdemnfjmaicaaDoorPlainZ
import Derived.Test.YtegdemnfjmaicaaDoorWalk26
namespace Go.Proofs.YtegdemnfjmaicaaDoor
open Go.RowKit
/-- the row of what is put around. -/
def aroundC : Array Value := #[.string ⟨#[]⟩, .string ⟨#[10]⟩, .string ⟨#[32, 9, 13, 10]⟩, .string ⟨#[59, 32, 91, 97, 93, 32, 61, 32, 34, 10]⟩, .string ⟨#[9, 35, 32, 98, 10, 10]⟩]
theorem around_at (k : Nat) (h : k < 5) : ∃ s ∈ Ini.around, aroundC[k]? = some (.string ⟨s.toArray⟩) := by
  match k, h with
  | 0, _ => exact ⟨_, by simp [Ini.around], rfl⟩
  | 1, _ => exact ⟨[10], by simp [Ini.around], rfl⟩
  | 2, _ => exact ⟨[32, 9, 13, 10], by simp [Ini.around], rfl⟩
  | 3, _ => exact ⟨[59, 32, 91, 97, 93, 32, 61, 32, 34, 10], by simp [Ini.around], rfl⟩
  | 4, _ => exact ⟨[9, 35, 32, 98, 10, 10], by simp [Ini.around], rfl⟩
theorem ba_app (a b : Ini.Str) : (⟨a.toArray⟩ : ByteArray) ++ ⟨b.toArray⟩ = ⟨(a ++ b).toArray⟩ := by
  apply ByteArray.ext
  simp
theorem parse_fit {s : Ini.Str} {st : Ini.St} (h : Ini.parse s = .ok st) : Fit st := by
  unfold Ini.parse at h
  split at h
  · cases h
  · split at h
    · cases h
    · split at h
      · cases h
      · rw [Ini.lines_runs] at h
        exact (Fit.start _).runs h
theorem Fit.lists {st : Ini.St} (h : Fit st) : ∀ n ∈ st.nodes, n.keys.length ≤ 1073741824 ∧ n.items.length ≤ 1073741824 := by
  intro n hn
  obtain ⟨j, hj, rfl⟩ := List.mem_iff_getElem.1 hn
  have := h.keys j hj
  have := h.nl
  omega
set_option maxRecDepth 100000 in
set_option maxHeartbeats 4000000 in
theorem spaces_long (src : Ini.Str) (b a : Nat) (w : World) (hT : Lib.Utf8Tabs 0 1 w) (hw : 2 ≤ w.heap.size) (hl : ¬ src.length ≤ 500) :
    Calls Tryd.prog 4 #[.string ⟨src.toArray⟩, .int .u8 b, .int .u8 a] w fun e w' => e = .returned (.bool true) ∧ Below w.heap.size w w' := by
  have HT := Lib.hid hT
  clear hT
  have hlI : (500 : Int) < (src.length : Int) := by omega
  go_enter Tryd.func4, Tryd.ntmps4
  go_wp2_with fail
  refine (awake_any w HT.out hw).mono ?_
  rintro e w1 ⟨rfl, hb1⟩
  have HB1 := Lib.hid hb1
  clear hb1
  go_wp2_with fail
  go_ret
  exact ⟨rfl, HB1.out⟩
set_option maxRecDepth 100000 in
set_option maxHeartbeats 4000000 in
theorem spaces_cr (src : Ini.Str) (b a : Nat) (w : World) (hT : Lib.Utf8Tabs 0 1 w) (hw : 2 ≤ w.heap.size) (hl : src.length ≤ 500) (m : Nat) (hm : src.length = m + 1) (hms : m < src.length) (h13 : src[m] = 13) :
    Calls Tryd.prog 4 #[.string ⟨src.toArray⟩, .int .u8 b, .int .u8 a] w fun e w' => e = .returned (.bool true) ∧ Below w.heap.size w w' := by
  have HT := Lib.hid hT
  clear hT
  have hlI : ¬ ((500 : Int) < (src.length : Int)) := by omega
  have h0I : (0 : Int) < (src.length : Int) := by omega
  have t1 : (src.length : Int) - 1 = (m : Int) := by omega
  have q1 := byte_is src m hms 13 13 13 rfl h13 rfl
  have q1b := byte_isb src m hms 13 13 13 rfl h13 rfl
  have hmI : (m : Int) < (src.length : Int) := by omega
  have HM := Lib.hid hm
  clear hm h13
  go_enter Tryd.func4, Tryd.ntmps4
  go_wp2_with fail
  refine (awake_any w HT.out hw).mono ?_
  rintro e w1 ⟨rfl, hb1⟩
  have HB1 := Lib.hid hb1
  clear hb1
  go_wp2_with fail
  go_ret
  exact ⟨rfl, HB1.out⟩
set_option maxRecDepth 100000 in
set_option maxHeartbeats 4000000 in
theorem spaces_empty (src : Ini.Str) (b a : Nat) (w : World) (hT : Lib.Utf8Tabs 0 1 w) (hw : 2 ≤ w.heap.size) (hl : src.length ≤ 500) (hlast : src.getLast? ≠ some 13) (h0 : src.length = 0) :
    Calls Tryd.prog 4 #[.string ⟨src.toArray⟩, .int .u8 b, .int .u8 a] w fun e w' => e = .returned (.bool true) ∧ Below w.heap.size w w' := by
  have HT := Lib.hid hT
  clear hT
  have hlI : ¬ ((500 : Int) < (src.length : Int)) := by omega
  have h0I : ¬ ((0 : Int) < (src.length : Int)) := by omega
  clear h0
  go_enter Tryd.func4, Tryd.ntmps4
  go_wp2_with fail
  refine (awake_any w HT.out hw).mono ?_
  rintro e w1 ⟨rfl, hb1⟩
  have HB1 := Lib.hid hb1
  clear hb1
  go_upto_region 5 with fail
  obtain ⟨w2, hw2⟩ : ∃ w2, w1.alloc (.cells aroundC 9) = w2 := ⟨_, rfl⟩
  obtain ⟨kb, hkb⟩ : ∃ kb, b % 5 = kb := ⟨_, rfl⟩
  obtain ⟨ka, hka⟩ : ∃ ka, a % 5 = ka := ⟨_, rfl⟩
  have hk1 : kb < 5 := by omega
  have hk2 : ka < 5 := by omega
  obtain ⟨s, hs, es⟩ := around_at kb hk1
  obtain ⟨t, ht, et⟩ := around_at ka hk2
  have bA : Blk w2 w1.heap.size 9 aroundC := by rw [← hw2]; exact Blk.new _ _ _
  have cb : w2.cell? ⟨w1.heap.size, kb, none⟩ = some (.string ⟨s.toArray⟩) := by rw [bA.cell, es]
  have hbI : (b : Int).tmod 5 = (kb : Int) := by rw [← hkb]; rfl
  have haI : (a : Int).tmod 5 = (ka : Int) := by rw [← hka]; rfl
  have hk1I : (kb : Int) < 5 := by omega
  have hk2I : (ka : Int) < 5 := by omega
  go_upto_region 6 with fail
  have l2 : Below w1.heap.size w1 w2 := by rw [← hw2]; exact (Below.refl _ _).alloc (Nat.le_refl _) _
  have hw2' := hw2
  unfold aroundC at hw2'
  rw [hw2']
  have HB2 : Hid (Below w.heap.size w w2) := Lib.hid (HB1.out.trans (l2.mono HB1.out.size))
  have BA := Lib.hid bA
  have HES := Lib.hid et
  have HS := Lib.hid hs
  have HTT := Lib.hid ht
  have hsl : s.length ≤ 10 := (Ini.bad_around hs).2.2
  have htl : t.length ≤ 10 := (Ini.bad_around ht).2.2
  have q1 : ¬ (9223372036854775807 < s.length + src.length) := by omega
  have q2 : ¬ (9223372036854775807 < s.length + src.length + 1) := by omega
  have q3 : ¬ (9223372036854775807 < s.length + src.length + 1 + t.length) := by omega
  have happ : (⟨s.toArray⟩ : ByteArray) ++ ⟨src.toArray⟩ ++ ⟨#[10]⟩ ++ ⟨t.toArray⟩ = ⟨(s ++ (src ++ 10 :: t)).toArray⟩ := by
    rw [ba_app, show (⟨#[10]⟩ : ByteArray) = ⟨[10].toArray⟩ from rfl, ba_app, ba_app]
    simp
  have HAPP := Lib.hid happ
  have hpl : (s ++ (src ++ 10 :: t)).length ≤ 65536 := by simp; omega
  have HPL := Lib.hid hpl
  have HLAST := Lib.hid hlast
  have HPA := Lib.hid (Ini.parse_around src s t hs ht hl hlast)
  clear hw2 hw2' l2 bA es et hs ht hkb hka happ hpl hlast
  go_upto_region 7 with fail
  cases hp : Ini.parse src with
  | err x e =>
    have hne := Ini.parse_ne _ _ _ hp
    have hxo := Ini.parse_off _ _ _ hp
    have hxI : (x : Int) ≤ 500 := by omega
    have hslI : (s.length : Int) ≤ 10 := by omega
    have HP2 : Hid (Ini.parse (s ++ (src ++ 10 :: t)) = .err (s.length + x) e) := Lib.hid (by have := HPA.out; rw [hp] at this; exact this)
    have HP := Lib.hid hp
    have k1 : ¬ ((e : Int) = 0) := by omega
    have k1b : ((e : Int) != 0) = true := by simpa using k1
    clear hp hne
    go_wp2_with fail
    refine (parse_any src (by omega) _ (tabs_below HT.out HB2.out hw) (Nat.le_trans hw HB2.out.size) _ HP.out).mono ?_
    rintro e1 w3 ⟨hb3, rfl⟩
    have HB3 : Hid (Below w.heap.size w w3) := Lib.hid (HB2.out.trans (hb3.mono HB2.out.size))
    have BA3 := Lib.hid (BA.out.below hb3 BA.out.lt)
    unfold noDoc
    clear hb3
    go_upto_region 8 with fail
    obtain ⟨w4, hw4⟩ : ∃ w4, w3.alloc (.cells docCells 29) = w4 := ⟨_, rfl⟩
    have l4 : Below w3.heap.size w3 w4 := by rw [← hw4]; exact (Below.refl _ _).alloc (Nat.le_refl _) _
    have HB4 : Hid (Below w.heap.size w w4) := Lib.hid (HB3.out.trans (l4.mono HB3.out.size))
    have cb4 : w4.cell? ⟨w1.heap.size, ka, none⟩ = some (.string ⟨t.toArray⟩) := by rw [(BA3.out.below l4 BA3.out.lt).cell, HES.out]
    unfold docCells at hw4
    rw [hw4]
    clear hw4 l4
    go_wp2_with fail
    rw [HAPP.out]
    refine (parse_any (s ++ (src ++ 10 :: t)) HPL.out _ (tabs_below HT.out HB4.out hw) (Nat.le_trans hw HB4.out.size) _ HP2.out).mono ?_
    rintro e1 w5 ⟨hb5, rfl⟩
    have HB5 : Hid (Below w.heap.size w w5) := Lib.hid (HB4.out.trans (hb5.mono HB4.out.size))
    unfold noDoc
    clear hb5
    go_wp2_with fail
    (try go_ret)
    exact ⟨rfl, HB5.out.alloc HB5.out.size _⟩
  | ok st =>
    obtain ⟨st', hp2, hal⟩ : ∃ st', Ini.parse (s ++ (src ++ 10 :: t)) = .ok st' ∧ Ini.Alike st st' := by have := HPA.out; rw [hp] at this; exact this
    have HF := Lib.hid (parse_fit hp)
    have HF' := Lib.hid (parse_fit hp2)
    have HP := Lib.hid hp
    have HP2 := Lib.hid hp2
    have HAL := Lib.hid hal
    clear hp hp2 hal
    go_wp2_with fail
    refine (parse_any src (by omega) _ (tabs_below HT.out HB2.out hw) (Nat.le_trans hw HB2.out.size) _ HP.out).mono ?_
    rintro e1 w3 ⟨hb3, V, pb, rfl, hp1⟩
    have HB3 : Hid (Below w.heap.size w w3) := Lib.hid (HB2.out.trans (hb3.mono HB2.out.size))
    have BA3 := Lib.hid (BA.out.below hb3 BA.out.lt)
    obtain ⟨A1, c1, e1, hg⟩ := GAt.of_rows hp1.nodes hp1.rows
    obtain ⟨A2, c2, e2, _⟩ := hp1.spans.form
    obtain ⟨A3, c3, e3, _⟩ := hp1.notes.form
    rw [e1, e2, e3]
    have HG := Lib.hid hg
    clear hb3 hp1 hg e1 e2 e3
    go_upto_region 8 with fail
    obtain ⟨w4, hw4⟩ : ∃ w4, w3.alloc (.cells #[.int .i64 3, .string ⟨src.toArray⟩, .slice A1 V.vs.length c1, .int .i64 0, .slice A2 st.spans.length c2, .slice A3 st.notes.length c3] 29) = w4 := ⟨_, rfl⟩
    have l4 : Below w3.heap.size w3 w4 := by rw [← hw4]; exact (Below.refl _ _).alloc (Nat.le_refl _) _
    have B4 : Hid (Blk w4 w3.heap.size 29 #[.int .i64 3, .string ⟨src.toArray⟩, .slice A1 V.vs.length c1, .int .i64 0, .slice A2 st.spans.length c2, .slice A3 st.notes.length c3]) := Lib.hid (by rw [← hw4]; exact Blk.new _ _ _)
    have HB4 : Hid (Below w.heap.size w w4) := Lib.hid (HB3.out.trans (l4.mono HB3.out.size))
    have cb4 : w4.cell? ⟨w1.heap.size, ka, none⟩ = some (.string ⟨t.toArray⟩) := by rw [(BA3.out.below l4 BA3.out.lt).cell, HES.out]
    have HG4 := Lib.hid ((HG.out.below l4).more l4.size)
    rw [hw4]
    clear hw4 l4 HG
    go_wp2_with fail
    rw [HAPP.out]
    refine (parse_any (s ++ (src ++ 10 :: t)) HPL.out _ (tabs_below HT.out HB4.out hw) (Nat.le_trans hw HB4.out.size) _ HP2.out).mono ?_
    rintro e1 w5 ⟨hb5, V', pb', rfl, hp1⟩
    have HB5 : Hid (Below w.heap.size w w5) := Lib.hid (HB4.out.trans (hb5.mono HB4.out.size))
    have B5 := Lib.hid (B4.out.below hb5 B4.out.lt)
    have HG5 := Lib.hid ((HG4.out.below hb5).more hb5.size)
    obtain ⟨A4, c4, e1, hg⟩ := GAt.of_rows hp1.nodes hp1.rows
    obtain ⟨A5, c5, e2, _⟩ := hp1.spans.form
    obtain ⟨A6, c6, e3, _⟩ := hp1.notes.form
    rw [e1, e2, e3]
    have HGB := Lib.hid hg
    clear hb5 hp1 hg e1 e2 e3 HG4 B4
    go_upto_region 9 with fail
    obtain ⟨w6, hw6⟩ : ∃ w6, w5.alloc (.cells #[.int .i64 3, .string ⟨(s ++ (src ++ 10 :: t)).toArray⟩, .slice A4 V'.vs.length c4, .int .i64 0, .slice A5 st'.spans.length c5, .slice A6 st'.notes.length c6] 29) = w6 := ⟨_, rfl⟩
    have l6 : Below w5.heap.size w5 w6 := by rw [← hw6]; exact (Below.refl _ _).alloc (Nat.le_refl _) _
    have b6 : Blk w6 w5.heap.size 29 #[.int .i64 3, .string ⟨(s ++ (src ++ 10 :: t)).toArray⟩, .slice A4 V'.vs.length c4, .int .i64 0, .slice A5 st'.spans.length c5, .slice A6 st'.notes.length c6] := by rw [← hw6]; exact Blk.new _ _ _
    have HB6 : Hid (Below w.heap.size w w6) := Lib.hid (HB5.out.trans (l6.mono HB5.out.size))
    have b5 : Blk w6 w3.heap.size 29 _ := B5.out.below l6 B5.out.lt
    have x2 : w6.cell? ⟨w3.heap.size, 2, none⟩ = some (.slice A1 V.vs.length c1) := b5.cell 2
    have x3 : w6.cell? ⟨w3.heap.size, 3, none⟩ = some (.int .i64 0) := b5.cell 3
    have y2 : w6.cell? ⟨w5.heap.size, 2, none⟩ = some (.slice A4 V'.vs.length c4) := b6.cell 2
    have y3 : w6.cell? ⟨w5.heap.size, 3, none⟩ = some (.int .i64 0) := b6.cell 3
    have HSG : Hid (Calls Tryd.prog 13 #[.agg #[.slice A1 V.vs.length c1, .int .i64 0], .agg #[.slice A4 V'.vs.length c4, .int .i64 0]] w6 fun e w' => e = .returned (.bool true) ∧ Below w6.heap.size w6 w') := Lib.hid
      (samegraph_any A1 A4 c1 c4 V.vs V'.vs st.nodes st'.nodes w6 ((HG5.out.below l6).more l6.size) ((HGB.out.below l6).more l6.size) (by have := HF.out.nl; omega) true (by rw [HAL.out.nodes]; simp) HF.out.lists)
    have X5 := Lib.hid b5
    have X6 := Lib.hid b6
    first | rw [hw6] | (simp only [List.append_assoc] at hw6; rw [hw6])
    clear hw6 l6 b5 b6
    go_wp2_with fail
    refine HSG.out.mono ?_
    rintro e1 w7 ⟨rfl, hb7⟩
    have x4 : w7.cell? ⟨w3.heap.size, 4, none⟩ = some (.slice A2 st.spans.length c2) := (X5.out.below hb7 X5.out.lt).cell 4
    have x5 : w7.cell? ⟨w3.heap.size, 5, none⟩ = some (.slice A3 st.notes.length c3) := (X5.out.below hb7 X5.out.lt).cell 5
    have y4 : w7.cell? ⟨w5.heap.size, 4, none⟩ = some (.slice A5 st'.spans.length c5) := (X6.out.below hb7 X6.out.lt).cell 4
    have y5 : w7.cell? ⟨w5.heap.size, 5, none⟩ = some (.slice A6 st'.notes.length c6) := (X6.out.below hb7 X6.out.lt).cell 5
    have HB7 : Hid (Below w.heap.size w w7) := Lib.hid (HB6.out.trans (hb7.mono HB6.out.size))
    have r1 : ((st'.spans.length : Int) == (st.spans.length : Int)) = true := by rw [HAL.out.spans]; simp
    have r2 : (st.notes.length : Int) ≤ (st'.notes.length : Int) := by have := HAL.out.notes; omega
    clear hb7
    go_wp2_with fail
    (try go_ret)
    exact ⟨rfl, HB7.out⟩
set_option maxRecDepth 100000 in
set_option maxHeartbeats 4000000 in
theorem spaces_go (src : Ini.Str) (b a : Nat) (w : World) (hT : Lib.Utf8Tabs 0 1 w) (hw : 2 ≤ w.heap.size) (hl : src.length ≤ 500) (hlast : src.getLast? ≠ some 13) (m : Nat) (hm : src.length = m + 1) (hms : m < src.length) (h13 : src[m] ≠ 13) :
    Calls Tryd.prog 4 #[.string ⟨src.toArray⟩, .int .u8 b, .int .u8 a] w fun e w' => e = .returned (.bool true) ∧ Below w.heap.size w w' := by
  have HT := Lib.hid hT
  clear hT
  have hlI : ¬ ((500 : Int) < (src.length : Int)) := by omega
  have h0I : (0 : Int) < (src.length : Int) := by omega
  have t1 : (src.length : Int) - 1 = (m : Int) := by omega
  have p1 := byte_not src m hms _ 13 13 rfl rfl h13
  have p1b := byte_nob src m hms _ 13 13 rfl rfl h13
  have hmI : (m : Int) < (src.length : Int) := by omega
  have HM := Lib.hid hm
  clear hm h13
  go_enter Tryd.func4, Tryd.ntmps4
  go_wp2_with fail
  refine (awake_any w HT.out hw).mono ?_
  rintro e w1 ⟨rfl, hb1⟩
  have HB1 := Lib.hid hb1
  clear hb1
  go_upto_region 5 with fail
  obtain ⟨w2, hw2⟩ : ∃ w2, w1.alloc (.cells aroundC 9) = w2 := ⟨_, rfl⟩
  obtain ⟨kb, hkb⟩ : ∃ kb, b % 5 = kb := ⟨_, rfl⟩
  obtain ⟨ka, hka⟩ : ∃ ka, a % 5 = ka := ⟨_, rfl⟩
  have hk1 : kb < 5 := by omega
  have hk2 : ka < 5 := by omega
  obtain ⟨s, hs, es⟩ := around_at kb hk1
  obtain ⟨t, ht, et⟩ := around_at ka hk2
  have bA : Blk w2 w1.heap.size 9 aroundC := by rw [← hw2]; exact Blk.new _ _ _
  have cb : w2.cell? ⟨w1.heap.size, kb, none⟩ = some (.string ⟨s.toArray⟩) := by rw [bA.cell, es]
  have hbI : (b : Int).tmod 5 = (kb : Int) := by rw [← hkb]; rfl
  have haI : (a : Int).tmod 5 = (ka : Int) := by rw [← hka]; rfl
  have hk1I : (kb : Int) < 5 := by omega
  have hk2I : (ka : Int) < 5 := by omega
  go_upto_region 6 with fail
  have l2 : Below w1.heap.size w1 w2 := by rw [← hw2]; exact (Below.refl _ _).alloc (Nat.le_refl _) _
  have hw2' := hw2
  unfold aroundC at hw2'
  rw [hw2']
  have HB2 : Hid (Below w.heap.size w w2) := Lib.hid (HB1.out.trans (l2.mono HB1.out.size))
  have BA := Lib.hid bA
  have HES := Lib.hid et
  have HS := Lib.hid hs
  have HTT := Lib.hid ht
  have hsl : s.length ≤ 10 := (Ini.bad_around hs).2.2
  have htl : t.length ≤ 10 := (Ini.bad_around ht).2.2
  have q1 : ¬ (9223372036854775807 < s.length + src.length) := by omega
  have q2 : ¬ (9223372036854775807 < s.length + src.length + 1) := by omega
  have q3 : ¬ (9223372036854775807 < s.length + src.length + 1 + t.length) := by omega
  have happ : (⟨s.toArray⟩ : ByteArray) ++ ⟨src.toArray⟩ ++ ⟨#[10]⟩ ++ ⟨t.toArray⟩ = ⟨(s ++ (src ++ 10 :: t)).toArray⟩ := by
    rw [ba_app, show (⟨#[10]⟩ : ByteArray) = ⟨[10].toArray⟩ from rfl, ba_app, ba_app]
    simp
  have HAPP := Lib.hid happ
  have hpl : (s ++ (src ++ 10 :: t)).length ≤ 65536 := by simp; omega
  have HPL := Lib.hid hpl
  have HLAST := Lib.hid hlast
  have HPA := Lib.hid (Ini.parse_around src s t hs ht hl hlast)
  clear hw2 hw2' l2 bA es et hs ht hkb hka happ hpl hlast
  go_upto_region 7 with fail
  cases hp : Ini.parse src with
  | err x e =>
    have hne := Ini.parse_ne _ _ _ hp
    have hxo := Ini.parse_off _ _ _ hp
    have hxI : (x : Int) ≤ 500 := by omega
    have hslI : (s.length : Int) ≤ 10 := by omega
    have HP2 : Hid (Ini.parse (s ++ (src ++ 10 :: t)) = .err (s.length + x) e) := Lib.hid (by have := HPA.out; rw [hp] at this; exact this)
    have HP := Lib.hid hp
    have k1 : ¬ ((e : Int) = 0) := by omega
    have k1b : ((e : Int) != 0) = true := by simpa using k1
    clear hp hne
    go_wp2_with fail
    refine (parse_any src (by omega) _ (tabs_below HT.out HB2.out hw) (Nat.le_trans hw HB2.out.size) _ HP.out).mono ?_
    rintro e1 w3 ⟨hb3, rfl⟩
    have HB3 : Hid (Below w.heap.size w w3) := Lib.hid (HB2.out.trans (hb3.mono HB2.out.size))
    have BA3 := Lib.hid (BA.out.below hb3 BA.out.lt)
    unfold noDoc
    clear hb3
    go_upto_region 8 with fail
    obtain ⟨w4, hw4⟩ : ∃ w4, w3.alloc (.cells docCells 29) = w4 := ⟨_, rfl⟩
    have l4 : Below w3.heap.size w3 w4 := by rw [← hw4]; exact (Below.refl _ _).alloc (Nat.le_refl _) _
    have HB4 : Hid (Below w.heap.size w w4) := Lib.hid (HB3.out.trans (l4.mono HB3.out.size))
    have cb4 : w4.cell? ⟨w1.heap.size, ka, none⟩ = some (.string ⟨t.toArray⟩) := by rw [(BA3.out.below l4 BA3.out.lt).cell, HES.out]
    unfold docCells at hw4
    rw [hw4]
    clear hw4 l4
    go_wp2_with fail
    rw [HAPP.out]
    refine (parse_any (s ++ (src ++ 10 :: t)) HPL.out _ (tabs_below HT.out HB4.out hw) (Nat.le_trans hw HB4.out.size) _ HP2.out).mono ?_
    rintro e1 w5 ⟨hb5, rfl⟩
    have HB5 : Hid (Below w.heap.size w w5) := Lib.hid (HB4.out.trans (hb5.mono HB4.out.size))
    unfold noDoc
    clear hb5
    go_wp2_with fail
    (try go_ret)
    exact ⟨rfl, HB5.out.alloc HB5.out.size _⟩
  | ok st =>
    obtain ⟨st', hp2, hal⟩ : ∃ st', Ini.parse (s ++ (src ++ 10 :: t)) = .ok st' ∧ Ini.Alike st st' := by have := HPA.out; rw [hp] at this; exact this
    have HF := Lib.hid (parse_fit hp)
    have HF' := Lib.hid (parse_fit hp2)
    have HP := Lib.hid hp
    have HP2 := Lib.hid hp2
    have HAL := Lib.hid hal
    clear hp hp2 hal
    go_wp2_with fail
    refine (parse_any src (by omega) _ (tabs_below HT.out HB2.out hw) (Nat.le_trans hw HB2.out.size) _ HP.out).mono ?_
    rintro e1 w3 ⟨hb3, V, pb, rfl, hp1⟩
    have HB3 : Hid (Below w.heap.size w w3) := Lib.hid (HB2.out.trans (hb3.mono HB2.out.size))
    have BA3 := Lib.hid (BA.out.below hb3 BA.out.lt)
    obtain ⟨A1, c1, e1, hg⟩ := GAt.of_rows hp1.nodes hp1.rows
    obtain ⟨A2, c2, e2, _⟩ := hp1.spans.form
    obtain ⟨A3, c3, e3, _⟩ := hp1.notes.form
    rw [e1, e2, e3]
    have HG := Lib.hid hg
    clear hb3 hp1 hg e1 e2 e3
    go_upto_region 8 with fail
    obtain ⟨w4, hw4⟩ : ∃ w4, w3.alloc (.cells #[.int .i64 3, .string ⟨src.toArray⟩, .slice A1 V.vs.length c1, .int .i64 0, .slice A2 st.spans.length c2, .slice A3 st.notes.length c3] 29) = w4 := ⟨_, rfl⟩
    have l4 : Below w3.heap.size w3 w4 := by rw [← hw4]; exact (Below.refl _ _).alloc (Nat.le_refl _) _
    have B4 : Hid (Blk w4 w3.heap.size 29 #[.int .i64 3, .string ⟨src.toArray⟩, .slice A1 V.vs.length c1, .int .i64 0, .slice A2 st.spans.length c2, .slice A3 st.notes.length c3]) := Lib.hid (by rw [← hw4]; exact Blk.new _ _ _)
    have HB4 : Hid (Below w.heap.size w w4) := Lib.hid (HB3.out.trans (l4.mono HB3.out.size))
    have cb4 : w4.cell? ⟨w1.heap.size, ka, none⟩ = some (.string ⟨t.toArray⟩) := by rw [(BA3.out.below l4 BA3.out.lt).cell, HES.out]
    have HG4 := Lib.hid ((HG.out.below l4).more l4.size)
    rw [hw4]
    clear hw4 l4 HG
    go_wp2_with fail
    rw [HAPP.out]
    refine (parse_any (s ++ (src ++ 10 :: t)) HPL.out _ (tabs_below HT.out HB4.out hw) (Nat.le_trans hw HB4.out.size) _ HP2.out).mono ?_
    rintro e1 w5 ⟨hb5, V', pb', rfl, hp1⟩
    have HB5 : Hid (Below w.heap.size w w5) := Lib.hid (HB4.out.trans (hb5.mono HB4.out.size))
    have B5 := Lib.hid (B4.out.below hb5 B4.out.lt)
    have HG5 := Lib.hid ((HG4.out.below hb5).more hb5.size)
    obtain ⟨A4, c4, e1, hg⟩ := GAt.of_rows hp1.nodes hp1.rows
    obtain ⟨A5, c5, e2, _⟩ := hp1.spans.form
    obtain ⟨A6, c6, e3, _⟩ := hp1.notes.form
    rw [e1, e2, e3]
    have HGB := Lib.hid hg
    clear hb5 hp1 hg e1 e2 e3 HG4 B4
    go_upto_region 9 with fail
    obtain ⟨w6, hw6⟩ : ∃ w6, w5.alloc (.cells #[.int .i64 3, .string ⟨(s ++ (src ++ 10 :: t)).toArray⟩, .slice A4 V'.vs.length c4, .int .i64 0, .slice A5 st'.spans.length c5, .slice A6 st'.notes.length c6] 29) = w6 := ⟨_, rfl⟩
    have l6 : Below w5.heap.size w5 w6 := by rw [← hw6]; exact (Below.refl _ _).alloc (Nat.le_refl _) _
    have b6 : Blk w6 w5.heap.size 29 #[.int .i64 3, .string ⟨(s ++ (src ++ 10 :: t)).toArray⟩, .slice A4 V'.vs.length c4, .int .i64 0, .slice A5 st'.spans.length c5, .slice A6 st'.notes.length c6] := by rw [← hw6]; exact Blk.new _ _ _
    have HB6 : Hid (Below w.heap.size w w6) := Lib.hid (HB5.out.trans (l6.mono HB5.out.size))
    have b5 : Blk w6 w3.heap.size 29 _ := B5.out.below l6 B5.out.lt
    have x2 : w6.cell? ⟨w3.heap.size, 2, none⟩ = some (.slice A1 V.vs.length c1) := b5.cell 2
    have x3 : w6.cell? ⟨w3.heap.size, 3, none⟩ = some (.int .i64 0) := b5.cell 3
    have y2 : w6.cell? ⟨w5.heap.size, 2, none⟩ = some (.slice A4 V'.vs.length c4) := b6.cell 2
    have y3 : w6.cell? ⟨w5.heap.size, 3, none⟩ = some (.int .i64 0) := b6.cell 3
    have HSG : Hid (Calls Tryd.prog 13 #[.agg #[.slice A1 V.vs.length c1, .int .i64 0], .agg #[.slice A4 V'.vs.length c4, .int .i64 0]] w6 fun e w' => e = .returned (.bool true) ∧ Below w6.heap.size w6 w') := Lib.hid
      (samegraph_any A1 A4 c1 c4 V.vs V'.vs st.nodes st'.nodes w6 ((HG5.out.below l6).more l6.size) ((HGB.out.below l6).more l6.size) (by have := HF.out.nl; omega) true (by rw [HAL.out.nodes]; simp) HF.out.lists)
    have X5 := Lib.hid b5
    have X6 := Lib.hid b6
    first | rw [hw6] | (simp only [List.append_assoc] at hw6; rw [hw6])
    clear hw6 l6 b5 b6
    go_wp2_with fail
    refine HSG.out.mono ?_
    rintro e1 w7 ⟨rfl, hb7⟩
    have x4 : w7.cell? ⟨w3.heap.size, 4, none⟩ = some (.slice A2 st.spans.length c2) := (X5.out.below hb7 X5.out.lt).cell 4
    have x5 : w7.cell? ⟨w3.heap.size, 5, none⟩ = some (.slice A3 st.notes.length c3) := (X5.out.below hb7 X5.out.lt).cell 5
    have y4 : w7.cell? ⟨w5.heap.size, 4, none⟩ = some (.slice A5 st'.spans.length c5) := (X6.out.below hb7 X6.out.lt).cell 4
    have y5 : w7.cell? ⟨w5.heap.size, 5, none⟩ = some (.slice A6 st'.notes.length c6) := (X6.out.below hb7 X6.out.lt).cell 5
    have HB7 : Hid (Below w.heap.size w w7) := Lib.hid (HB6.out.trans (hb7.mono HB6.out.size))
    have r1 : ((st'.spans.length : Int) == (st.spans.length : Int)) = true := by rw [HAL.out.spans]; simp
    have r2 : (st.notes.length : Int) ≤ (st'.notes.length : Int) := by have := HAL.out.notes; omega
    clear hb7
    go_wp2_with fail
    (try go_ret)
    exact ⟨rfl, HB7.out⟩
theorem spaces_any (src : Ini.Str) (b a : Nat) (w : World) (hT : Lib.Utf8Tabs 0 1 w) (hw : 2 ≤ w.heap.size) :
    Calls Tryd.prog 4 #[.string ⟨src.toArray⟩, .int .u8 b, .int .u8 a] w fun e w' => e = .returned (.bool true) ∧ Below w.heap.size w w' := by
  by_cases hl : src.length ≤ 500
  · rcases Nat.eq_zero_or_pos src.length with h0 | h0
    · exact spaces_empty src b a w hT hw hl (by rw [List.eq_nil_of_length_eq_zero h0]; simp) h0
    · obtain ⟨m, hm⟩ : ∃ m, src.length = m + 1 := ⟨src.length - 1, by omega⟩
      have hms : m < src.length := by omega
      have hgl : src.getLast? = some src[m] := by rw [List.getLast?_eq_getElem?, hm, Nat.add_sub_cancel, List.getElem?_eq_getElem hms]
      by_cases h13 : src[m] = 13
      · exact spaces_cr src b a w hT hw hl m hm hms h13
      · exact spaces_go src b a w hT hw hl (by rw [hgl]; intro e; injection e with e; exact h13 e) m hm hms h13
  · exact spaces_long src b a w hT hw hl
end Go.Proofs.YtegdemnfjmaicaaDoor
