/- Walks: IniJoins, whole. -/
import Derived.Test.YtegdemnfjmaicaaDoorWalk27
import Derived.Test.YtegdemnfjmaicaaDoorWalk29
import Derived.Deep.RegionHeld3
import Derived.IntWalk
namespace Go.Proofs.YtegdemnfjmaicaaDoor
open Go.RowKit
theorem pair_at {w : World} {B : Nat} {A : Option Addr} {l : List (Ini.Str × Ini.Str)} {k : Nat} (h : RowAt pairL w B A l) (hk : k < l.length) : ∃ ad, A = some ad ∧ ad.block < B ∧ w.cell? (ad.add (k * 2)) = some (.string ⟨(l[k]).1.toArray⟩) ∧
    w.cell? { block := (ad.add (k * 2)).block, off := (ad.add (k * 2)).off + 1 } = some (.string ⟨(l[k]).2.toArray⟩) := by
  obtain ⟨ad, h1, h2, h3, h4⟩ := h.get hk
  exact ⟨ad, h1, h2, h3 _ rfl, h4 1 _ (by omega) rfl⟩
/-- what both lists of entries leave. -/
def JRows (w9 wx : World) (s14 s15 : Value) (P Q : List (Ini.Str × Ini.Str)) : Prop :=
  OwnRow pairL wx w9.heap.size 43 s14 P ∧ OwnRow pairL wx w9.heap.size 43 s15 Q ∧ (∀ g, s14.ownBlock = some g → s15.ownBlock ≠ some g) ∧ Below w9.heap.size w9 wx
theorem joins_add (a : Ini.Str) : (⟨a.toArray⟩ : ByteArray) ++ ⟨#[10]⟩ = ⟨(a ++ [10]).toArray⟩ := by
  rw [show (⟨#[10]⟩ : ByteArray) = ⟨([10] : Ini.Str).toArray⟩ from rfl, ba_app]
set_option maxRecDepth 100000 in
set_option maxHeartbeats 8000000 in
theorem joins_long1 (a b : Ini.Str) (w : World) (hT : Lib.Utf8Tabs 0 1 w) (hw : 2 ≤ w.heap.size) (hl : ¬ a.length ≤ 300) :
    Calls Tryd.prog 5 #[.string ⟨a.toArray⟩, .string ⟨b.toArray⟩] w fun e w' => e = .returned (.bool true) ∧ Below w.heap.size w w' := by
  have HT := Lib.hid hT
  clear hT
  have hlI : (300 : Int) < (a.length : Int) := by omega
  go_enter Tryd.func5, Tryd.ntmps5
  go_wp2_with fail
  refine (awake_any w HT.out hw).mono ?_
  rintro e w1 ⟨rfl, hb1⟩
  have HB1 := Lib.hid hb1
  clear hb1
  go_wp2_with fail
  go_ret
  exact ⟨rfl, HB1.out⟩
set_option maxRecDepth 100000 in
set_option maxHeartbeats 8000000 in
theorem joins_long2 (a b : Ini.Str) (w : World) (hT : Lib.Utf8Tabs 0 1 w) (hw : 2 ≤ w.heap.size) (ha : a.length ≤ 300) (hl : ¬ b.length ≤ 300) :
    Calls Tryd.prog 5 #[.string ⟨a.toArray⟩, .string ⟨b.toArray⟩] w fun e w' => e = .returned (.bool true) ∧ Below w.heap.size w w' := by
  have HT := Lib.hid hT
  clear hT
  have haI : decide ((300 : Int) < (a.length : Int)) = false := by simp; omega
  have haJ : ¬ ((300 : Int) < (a.length : Int)) := by omega
  have hlI : (300 : Int) < (b.length : Int) := by omega
  go_enter Tryd.func5, Tryd.ntmps5
  go_wp2_with fail
  refine (awake_any w HT.out hw).mono ?_
  rintro e w1 ⟨rfl, hb1⟩
  have HB1 := Lib.hid hb1
  clear hb1
  go_wp2_with fail
  go_ret
  exact ⟨rfl, HB1.out⟩
set_option maxRecDepth 100000 in
set_option maxHeartbeats 8000000 in
theorem joins_ee (a b : Ini.Str) (w : World) (hT : Lib.Utf8Tabs 0 1 w) (hw : 2 ≤ w.heap.size) (ha : a.length ≤ 300) (hb : b.length ≤ 300) (x1 e1 : Nat) (hp1 : Ini.parse (a ++ [10]) = .err x1 e1) (x2 e2 : Nat) (hp2 : Ini.parse b = .err x2 e2) :
    Calls Tryd.prog 5 #[.string ⟨a.toArray⟩, .string ⟨b.toArray⟩] w fun e w' => e = .returned (.bool true) ∧ Below w.heap.size w w' := by
  have HT := Lib.hid hT
  clear hT
  have haI : decide ((300 : Int) < (a.length : Int)) = false := by simp; omega
  have haJ : ¬ ((300 : Int) < (a.length : Int)) := by omega
  have hbI : decide ((300 : Int) < (b.length : Int)) = false := by simp; omega
  have hbJ : ¬ ((300 : Int) < (b.length : Int)) := by omega
  have HADD := Lib.hid (joins_add a)
  have hqq : ¬ (9223372036854775807 < a.length + 1) := by omega
  have HAL : Hid ((a ++ [10]).length ≤ 65536) := Lib.hid (by simp; omega)
  have k1 : ¬ ((e1 : Int) = 0) := by have := Ini.parse_ne _ _ _ hp1; omega
  have k1b : ((e1 : Int) != 0) = true := by simpa using k1
  have HP1 := Lib.hid hp1
  clear hp1
  have k2 : ¬ ((e2 : Int) = 0) := by have := Ini.parse_ne _ _ _ hp2; omega
  have k2b : ((e2 : Int) != 0) = true := by simpa using k2
  have HP2 := Lib.hid hp2
  clear hp2
  go_enter Tryd.func5, Tryd.ntmps5
  go_wp2_with fail
  refine (awake_any w HT.out hw).mono ?_
  rintro e w1 ⟨rfl, hb1⟩
  have HB1 := Lib.hid hb1
  clear hb1
  go_wp2_with fail
  rw [HADD.out]
  refine (parse_any (a ++ [10]) HAL.out _ (tabs_below HT.out HB1.out hw) (Nat.le_trans hw HB1.out.size) _ HP1.out).mono ?_
  rintro e1 w2 ⟨hb, rfl⟩
  have HB2 : Hid (Below w.heap.size w w2) := Lib.hid (HB1.out.trans (hb.mono HB1.out.size))
  have HL2 := Lib.hid hb
  unfold noDoc
  clear hb
  go_upto_region 7 with fail
  obtain ⟨w3, hw3⟩ : ∃ w3, w2.alloc (.cells #[.int .i64 0, .string ⟨#[]⟩, .slice none 0 0, .int .i64 0, .slice none 0 0, .slice none 0 0] 29) = w3 := ⟨_, rfl⟩
  have l3 : Below w2.heap.size w2 w3 := by rw [← hw3]; exact (Below.refl _ _).alloc (Nat.le_refl _) _
  have BXc : Hid (Blk w3 w2.heap.size 29 #[.int .i64 0, .string ⟨#[]⟩, .slice none 0 0, .int .i64 0, .slice none 0 0, .slice none 0 0]) := Lib.hid (by rw [← hw3]; exact Blk.new _ _ _)
  have HB3 : Hid (Below w.heap.size w w3) := Lib.hid (HB2.out.trans (l3.mono HB2.out.size))
  have HL3 := Lib.hid l3
  rw [hw3]
  clear hw3 l3
  go_wp2_with fail
  refine (parse_any b (by omega) _ (tabs_below HT.out HB3.out hw) (Nat.le_trans hw HB3.out.size) _ HP2.out).mono ?_
  rintro e1 w4 ⟨hb, rfl⟩
  have HB4 : Hid (Below w.heap.size w w4) := Lib.hid (HB3.out.trans (hb.mono HB3.out.size))
  have HL4 := Lib.hid hb
  unfold noDoc
  clear hb
  go_upto_region 8 with fail
  obtain ⟨w5, hw5⟩ : ∃ w5, w4.alloc (.cells #[.int .i64 0, .string ⟨#[]⟩, .slice none 0 0, .int .i64 0, .slice none 0 0, .slice none 0 0] 29) = w5 := ⟨_, rfl⟩
  have l5 : Below w4.heap.size w4 w5 := by rw [← hw5]; exact (Below.refl _ _).alloc (Nat.le_refl _) _
  have BXd : Hid (Blk w5 w4.heap.size 29 #[.int .i64 0, .string ⟨#[]⟩, .slice none 0 0, .int .i64 0, .slice none 0 0, .slice none 0 0]) := Lib.hid (by rw [← hw5]; exact Blk.new _ _ _)
  have HB5 : Hid (Below w.heap.size w w5) := Lib.hid (HB4.out.trans (l5.mono HB4.out.size))
  have HL5 := Lib.hid l5
  rw [hw5]
  clear hw5 l5
  go_wp2_with fail
  (try go_ret)
  exact ⟨rfl, HB5.out⟩
set_option maxRecDepth 100000 in
set_option maxHeartbeats 8000000 in
theorem joins_eo (a b : Ini.Str) (w : World) (hT : Lib.Utf8Tabs 0 1 w) (hw : 2 ≤ w.heap.size) (ha : a.length ≤ 300) (hb : b.length ≤ 300) (x1 e1 : Nat) (hp1 : Ini.parse (a ++ [10]) = .err x1 e1) (d : Ini.St) (hp2 : Ini.parse b = .ok d) :
    Calls Tryd.prog 5 #[.string ⟨a.toArray⟩, .string ⟨b.toArray⟩] w fun e w' => e = .returned (.bool true) ∧ Below w.heap.size w w' := by
  have HT := Lib.hid hT
  clear hT
  have haI : decide ((300 : Int) < (a.length : Int)) = false := by simp; omega
  have haJ : ¬ ((300 : Int) < (a.length : Int)) := by omega
  have hbI : decide ((300 : Int) < (b.length : Int)) = false := by simp; omega
  have hbJ : ¬ ((300 : Int) < (b.length : Int)) := by omega
  have HADD := Lib.hid (joins_add a)
  have hqq : ¬ (9223372036854775807 < a.length + 1) := by omega
  have HAL : Hid ((a ++ [10]).length ≤ 65536) := Lib.hid (by simp; omega)
  have k1 : ¬ ((e1 : Int) = 0) := by have := Ini.parse_ne _ _ _ hp1; omega
  have k1b : ((e1 : Int) != 0) = true := by simpa using k1
  have HP1 := Lib.hid hp1
  clear hp1
  have HP2 := Lib.hid hp2
  have HF2 := Lib.hid (parse_fit hp2)
  clear hp2
  go_enter Tryd.func5, Tryd.ntmps5
  go_wp2_with fail
  refine (awake_any w HT.out hw).mono ?_
  rintro e w1 ⟨rfl, hb1⟩
  have HB1 := Lib.hid hb1
  clear hb1
  go_wp2_with fail
  rw [HADD.out]
  refine (parse_any (a ++ [10]) HAL.out _ (tabs_below HT.out HB1.out hw) (Nat.le_trans hw HB1.out.size) _ HP1.out).mono ?_
  rintro e1 w2 ⟨hb, rfl⟩
  have HB2 : Hid (Below w.heap.size w w2) := Lib.hid (HB1.out.trans (hb.mono HB1.out.size))
  have HL2 := Lib.hid hb
  unfold noDoc
  clear hb
  go_upto_region 7 with fail
  obtain ⟨w3, hw3⟩ : ∃ w3, w2.alloc (.cells #[.int .i64 0, .string ⟨#[]⟩, .slice none 0 0, .int .i64 0, .slice none 0 0, .slice none 0 0] 29) = w3 := ⟨_, rfl⟩
  have l3 : Below w2.heap.size w2 w3 := by rw [← hw3]; exact (Below.refl _ _).alloc (Nat.le_refl _) _
  have BXc : Hid (Blk w3 w2.heap.size 29 #[.int .i64 0, .string ⟨#[]⟩, .slice none 0 0, .int .i64 0, .slice none 0 0, .slice none 0 0]) := Lib.hid (by rw [← hw3]; exact Blk.new _ _ _)
  have HB3 : Hid (Below w.heap.size w w3) := Lib.hid (HB2.out.trans (l3.mono HB2.out.size))
  have HL3 := Lib.hid l3
  rw [hw3]
  clear hw3 l3
  go_wp2_with fail
  refine (parse_any b (by omega) _ (tabs_below HT.out HB3.out hw) (Nat.le_trans hw HB3.out.size) _ HP2.out).mono ?_
  rintro e1 w4 ⟨hb, U, pbd, rfl, hp1⟩
  have HB4 : Hid (Below w.heap.size w w4) := Lib.hid (HB3.out.trans (hb.mono HB3.out.size))
  obtain ⟨Ad1, cd1, e1, hg⟩ := GAt.of_rows hp1.nodes hp1.rows
  obtain ⟨Ad2, cd2, e2, hs⟩ := hp1.spans.form
  obtain ⟨Ad3, cd3, e3, _⟩ := hp1.notes.form
  rw [e1, e2, e3]
  have HL4 := Lib.hid hb
  have HGd := Lib.hid hg
  have HSd := Lib.hid hs
  clear hb hp1 hg hs e1 e2 e3
  go_upto_region 8 with fail
  obtain ⟨w5, hw5⟩ : ∃ w5, w4.alloc (.cells #[.int .i64 3, .string ⟨b.toArray⟩, .slice Ad1 U.vs.length cd1, .int .i64 0, .slice Ad2 d.spans.length cd2, .slice Ad3 d.notes.length cd3] 29) = w5 := ⟨_, rfl⟩
  have l5 : Below w4.heap.size w4 w5 := by rw [← hw5]; exact (Below.refl _ _).alloc (Nat.le_refl _) _
  have BXd : Hid (Blk w5 w4.heap.size 29 #[.int .i64 3, .string ⟨b.toArray⟩, .slice Ad1 U.vs.length cd1, .int .i64 0, .slice Ad2 d.spans.length cd2, .slice Ad3 d.notes.length cd3]) := Lib.hid (by rw [← hw5]; exact Blk.new _ _ _)
  have HB5 : Hid (Below w.heap.size w w5) := Lib.hid (HB4.out.trans (l5.mono HB4.out.size))
  have HL5 := Lib.hid l5
  rw [hw5]
  clear hw5 l5
  go_wp2_with fail
  (try go_ret)
  exact ⟨rfl, HB5.out⟩
set_option maxRecDepth 100000 in
set_option maxHeartbeats 8000000 in
theorem joins_oe (a b : Ini.Str) (w : World) (hT : Lib.Utf8Tabs 0 1 w) (hw : 2 ≤ w.heap.size) (ha : a.length ≤ 300) (hb : b.length ≤ 300) (c : Ini.St) (hp1 : Ini.parse (a ++ [10]) = .ok c) (x2 e2 : Nat) (hp2 : Ini.parse b = .err x2 e2) :
    Calls Tryd.prog 5 #[.string ⟨a.toArray⟩, .string ⟨b.toArray⟩] w fun e w' => e = .returned (.bool true) ∧ Below w.heap.size w w' := by
  have HT := Lib.hid hT
  clear hT
  have haI : decide ((300 : Int) < (a.length : Int)) = false := by simp; omega
  have haJ : ¬ ((300 : Int) < (a.length : Int)) := by omega
  have hbI : decide ((300 : Int) < (b.length : Int)) = false := by simp; omega
  have hbJ : ¬ ((300 : Int) < (b.length : Int)) := by omega
  have HADD := Lib.hid (joins_add a)
  have hqq : ¬ (9223372036854775807 < a.length + 1) := by omega
  have HAL : Hid ((a ++ [10]).length ≤ 65536) := Lib.hid (by simp; omega)
  have HP1 := Lib.hid hp1
  have HF1 := Lib.hid (parse_fit hp1)
  clear hp1
  have k2 : ¬ ((e2 : Int) = 0) := by have := Ini.parse_ne _ _ _ hp2; omega
  have k2b : ((e2 : Int) != 0) = true := by simpa using k2
  have HP2 := Lib.hid hp2
  clear hp2
  go_enter Tryd.func5, Tryd.ntmps5
  go_wp2_with fail
  refine (awake_any w HT.out hw).mono ?_
  rintro e w1 ⟨rfl, hb1⟩
  have HB1 := Lib.hid hb1
  clear hb1
  go_wp2_with fail
  rw [HADD.out]
  refine (parse_any (a ++ [10]) HAL.out _ (tabs_below HT.out HB1.out hw) (Nat.le_trans hw HB1.out.size) _ HP1.out).mono ?_
  rintro e1 w2 ⟨hb, V, pbc, rfl, hp1⟩
  have HB2 : Hid (Below w.heap.size w w2) := Lib.hid (HB1.out.trans (hb.mono HB1.out.size))
  obtain ⟨Ac1, cc1, e1, hg⟩ := GAt.of_rows hp1.nodes hp1.rows
  obtain ⟨Ac2, cc2, e2, hs⟩ := hp1.spans.form
  obtain ⟨Ac3, cc3, e3, _⟩ := hp1.notes.form
  rw [e1, e2, e3]
  have HL2 := Lib.hid hb
  have HGc := Lib.hid hg
  have HSc := Lib.hid hs
  clear hb hp1 hg hs e1 e2 e3
  go_upto_region 7 with fail
  obtain ⟨w3, hw3⟩ : ∃ w3, w2.alloc (.cells #[.int .i64 3, .string ⟨(a ++ [10]).toArray⟩, .slice Ac1 V.vs.length cc1, .int .i64 0, .slice Ac2 c.spans.length cc2, .slice Ac3 c.notes.length cc3] 29) = w3 := ⟨_, rfl⟩
  have l3 : Below w2.heap.size w2 w3 := by rw [← hw3]; exact (Below.refl _ _).alloc (Nat.le_refl _) _
  have BXc : Hid (Blk w3 w2.heap.size 29 #[.int .i64 3, .string ⟨(a ++ [10]).toArray⟩, .slice Ac1 V.vs.length cc1, .int .i64 0, .slice Ac2 c.spans.length cc2, .slice Ac3 c.notes.length cc3]) := Lib.hid (by rw [← hw3]; exact Blk.new _ _ _)
  have HB3 : Hid (Below w.heap.size w w3) := Lib.hid (HB2.out.trans (l3.mono HB2.out.size))
  have HL3 := Lib.hid l3
  rw [hw3]
  clear hw3 l3
  go_wp2_with fail
  refine (parse_any b (by omega) _ (tabs_below HT.out HB3.out hw) (Nat.le_trans hw HB3.out.size) _ HP2.out).mono ?_
  rintro e1 w4 ⟨hb, rfl⟩
  have HB4 : Hid (Below w.heap.size w w4) := Lib.hid (HB3.out.trans (hb.mono HB3.out.size))
  have HL4 := Lib.hid hb
  unfold noDoc
  clear hb
  go_upto_region 8 with fail
  obtain ⟨w5, hw5⟩ : ∃ w5, w4.alloc (.cells #[.int .i64 0, .string ⟨#[]⟩, .slice none 0 0, .int .i64 0, .slice none 0 0, .slice none 0 0] 29) = w5 := ⟨_, rfl⟩
  have l5 : Below w4.heap.size w4 w5 := by rw [← hw5]; exact (Below.refl _ _).alloc (Nat.le_refl _) _
  have BXd : Hid (Blk w5 w4.heap.size 29 #[.int .i64 0, .string ⟨#[]⟩, .slice none 0 0, .int .i64 0, .slice none 0 0, .slice none 0 0]) := Lib.hid (by rw [← hw5]; exact Blk.new _ _ _)
  have HB5 : Hid (Below w.heap.size w w5) := Lib.hid (HB4.out.trans (l5.mono HB4.out.size))
  have HL5 := Lib.hid l5
  rw [hw5]
  clear hw5 l5
  go_wp2_with fail
  (try go_ret)
  exact ⟨rfl, HB5.out⟩
set_option maxRecDepth 100000 in
set_option maxHeartbeats 8000000 in
theorem joins_sc (a b : Ini.Str) (w : World) (hT : Lib.Utf8Tabs 0 1 w) (hw : 2 ≤ w.heap.size) (ha : a.length ≤ 300) (hb : b.length ≤ 300) (c : Ini.St) (hp1 : Ini.parse (a ++ [10]) = .ok c) (d : Ini.St) (hp2 : Ini.parse b = .ok d) (sc : secB c.nodes = true) :
    Calls Tryd.prog 5 #[.string ⟨a.toArray⟩, .string ⟨b.toArray⟩] w fun e w' => e = .returned (.bool true) ∧ Below w.heap.size w w' := by
  have HT := Lib.hid hT
  clear hT
  have SC := Lib.hid sc
  clear sc
  have haI : decide ((300 : Int) < (a.length : Int)) = false := by simp; omega
  have haJ : ¬ ((300 : Int) < (a.length : Int)) := by omega
  have hbI : decide ((300 : Int) < (b.length : Int)) = false := by simp; omega
  have hbJ : ¬ ((300 : Int) < (b.length : Int)) := by omega
  have HADD := Lib.hid (joins_add a)
  have hqq : ¬ (9223372036854775807 < a.length + 1) := by omega
  have HAL : Hid ((a ++ [10]).length ≤ 65536) := Lib.hid (by simp; omega)
  have HP1 := Lib.hid hp1
  have HF1 := Lib.hid (parse_fit hp1)
  clear hp1
  have HP2 := Lib.hid hp2
  have HF2 := Lib.hid (parse_fit hp2)
  clear hp2
  go_enter Tryd.func5, Tryd.ntmps5
  go_wp2_with fail
  refine (awake_any w HT.out hw).mono ?_
  rintro e w1 ⟨rfl, hb1⟩
  have HB1 := Lib.hid hb1
  clear hb1
  go_wp2_with fail
  rw [HADD.out]
  refine (parse_any (a ++ [10]) HAL.out _ (tabs_below HT.out HB1.out hw) (Nat.le_trans hw HB1.out.size) _ HP1.out).mono ?_
  rintro e1 w2 ⟨hb, V, pbc, rfl, hp1⟩
  have HB2 : Hid (Below w.heap.size w w2) := Lib.hid (HB1.out.trans (hb.mono HB1.out.size))
  obtain ⟨Ac1, cc1, e1, hg⟩ := GAt.of_rows hp1.nodes hp1.rows
  obtain ⟨Ac2, cc2, e2, hs⟩ := hp1.spans.form
  obtain ⟨Ac3, cc3, e3, _⟩ := hp1.notes.form
  rw [e1, e2, e3]
  have HL2 := Lib.hid hb
  have HGc := Lib.hid hg
  have HSc := Lib.hid hs
  clear hb hp1 hg hs e1 e2 e3
  go_upto_region 7 with fail
  obtain ⟨w3, hw3⟩ : ∃ w3, w2.alloc (.cells #[.int .i64 3, .string ⟨(a ++ [10]).toArray⟩, .slice Ac1 V.vs.length cc1, .int .i64 0, .slice Ac2 c.spans.length cc2, .slice Ac3 c.notes.length cc3] 29) = w3 := ⟨_, rfl⟩
  have l3 : Below w2.heap.size w2 w3 := by rw [← hw3]; exact (Below.refl _ _).alloc (Nat.le_refl _) _
  have BXc : Hid (Blk w3 w2.heap.size 29 #[.int .i64 3, .string ⟨(a ++ [10]).toArray⟩, .slice Ac1 V.vs.length cc1, .int .i64 0, .slice Ac2 c.spans.length cc2, .slice Ac3 c.notes.length cc3]) := Lib.hid (by rw [← hw3]; exact Blk.new _ _ _)
  have HB3 : Hid (Below w.heap.size w w3) := Lib.hid (HB2.out.trans (l3.mono HB2.out.size))
  have HL3 := Lib.hid l3
  rw [hw3]
  clear hw3 l3
  go_wp2_with fail
  refine (parse_any b (by omega) _ (tabs_below HT.out HB3.out hw) (Nat.le_trans hw HB3.out.size) _ HP2.out).mono ?_
  rintro e1 w4 ⟨hb, U, pbd, rfl, hp1⟩
  have HB4 : Hid (Below w.heap.size w w4) := Lib.hid (HB3.out.trans (hb.mono HB3.out.size))
  obtain ⟨Ad1, cd1, e1, hg⟩ := GAt.of_rows hp1.nodes hp1.rows
  obtain ⟨Ad2, cd2, e2, hs⟩ := hp1.spans.form
  obtain ⟨Ad3, cd3, e3, _⟩ := hp1.notes.form
  rw [e1, e2, e3]
  have HL4 := Lib.hid hb
  have HGd := Lib.hid hg
  have HSd := Lib.hid hs
  clear hb hp1 hg hs e1 e2 e3
  go_upto_region 8 with fail
  obtain ⟨w5, hw5⟩ : ∃ w5, w4.alloc (.cells #[.int .i64 3, .string ⟨b.toArray⟩, .slice Ad1 U.vs.length cd1, .int .i64 0, .slice Ad2 d.spans.length cd2, .slice Ad3 d.notes.length cd3] 29) = w5 := ⟨_, rfl⟩
  have l5 : Below w4.heap.size w4 w5 := by rw [← hw5]; exact (Below.refl _ _).alloc (Nat.le_refl _) _
  have BXd : Hid (Blk w5 w4.heap.size 29 #[.int .i64 3, .string ⟨b.toArray⟩, .slice Ad1 U.vs.length cd1, .int .i64 0, .slice Ad2 d.spans.length cd2, .slice Ad3 d.notes.length cd3]) := Lib.hid (by rw [← hw5]; exact Blk.new _ _ _)
  have HB5 : Hid (Below w.heap.size w w5) := Lib.hid (HB4.out.trans (l5.mono HB4.out.size))
  have HL5 := Lib.hid l5
  rw [hw5]
  clear hw5 l5
  have HL35 : Hid (Below w3.heap.size w3 w5) := Lib.hid (HL4.out.trans (HL5.out.mono HL4.out.size))
  have HL25 : Hid (Below w2.heap.size w2 w5) := Lib.hid (HL3.out.trans (HL35.out.mono HL3.out.size))
  have BXc5 := Lib.hid (BXc.out.below HL35.out BXc.out.lt)
  have HGc5 := Lib.hid ((HGc.out.below HL25.out).more HL25.out.size)
  have HGd5 := Lib.hid ((HGd.out.below HL5.out).more HL5.out.size)
  have HSd5 := Lib.hid ((HSd.out.below HL5.out).more HL5.out.size)
  clear BXc HGc HGd HSd HSc HL35 HL25
  have yc0 : w5.cell? ⟨w2.heap.size, 0, none⟩ = some (.int .i64 3) := BXc5.out.cell 0
  have yc1 : w5.cell? ⟨w2.heap.size, 1, none⟩ = some (.string ⟨(a ++ [10]).toArray⟩) := BXc5.out.cell 1
  have yc2 : w5.cell? ⟨w2.heap.size, 2, none⟩ = some (.slice Ac1 V.vs.length cc1) := BXc5.out.cell 2
  have yc3 : w5.cell? ⟨w2.heap.size, 3, none⟩ = some (.int .i64 0) := BXc5.out.cell 3
  have yc4 : w5.cell? ⟨w2.heap.size, 4, none⟩ = some (.slice Ac2 c.spans.length cc2) := BXc5.out.cell 4
  have yc5 : w5.cell? ⟨w2.heap.size, 5, none⟩ = some (.slice Ac3 c.notes.length cc3) := BXc5.out.cell 5
  go_wp2_with fail
  refine (sections_any (a ++ [10]) Ac1 Ac2 Ac3 cc1 c.spans.length cc2 c.notes.length cc3 V.vs c.nodes w5 HGc5.out (by have := HF1.out.nl; omega) HF1.out.pos true SC.out).mono ?_
  rintro e1 w6 ⟨rfl, hb6⟩
  have HB6 : Hid (Below w.heap.size w w6) := Lib.hid (HB5.out.trans (hb6.mono HB5.out.size))
  have HL6 := Lib.hid hb6
  clear hb6 yc0 yc1 yc2 yc3 yc4 yc5
  go_wp2_with fail
  (try go_ret)
  exact ⟨rfl, HB6.out⟩
set_option maxRecDepth 100000 in
set_option maxHeartbeats 8000000 in
theorem joins_sd (a b : Ini.Str) (w : World) (hT : Lib.Utf8Tabs 0 1 w) (hw : 2 ≤ w.heap.size) (ha : a.length ≤ 300) (hb : b.length ≤ 300) (c : Ini.St) (hp1 : Ini.parse (a ++ [10]) = .ok c) (d : Ini.St) (hp2 : Ini.parse b = .ok d) (sc : secB c.nodes = false) (sd : secB d.nodes = true) :
    Calls Tryd.prog 5 #[.string ⟨a.toArray⟩, .string ⟨b.toArray⟩] w fun e w' => e = .returned (.bool true) ∧ Below w.heap.size w w' := by
  have HT := Lib.hid hT
  clear hT
  have SC := Lib.hid sc
  have SD := Lib.hid sd
  clear sc sd
  have haI : decide ((300 : Int) < (a.length : Int)) = false := by simp; omega
  have haJ : ¬ ((300 : Int) < (a.length : Int)) := by omega
  have hbI : decide ((300 : Int) < (b.length : Int)) = false := by simp; omega
  have hbJ : ¬ ((300 : Int) < (b.length : Int)) := by omega
  have HADD := Lib.hid (joins_add a)
  have hqq : ¬ (9223372036854775807 < a.length + 1) := by omega
  have HAL : Hid ((a ++ [10]).length ≤ 65536) := Lib.hid (by simp; omega)
  have HP1 := Lib.hid hp1
  have HF1 := Lib.hid (parse_fit hp1)
  clear hp1
  have HP2 := Lib.hid hp2
  have HF2 := Lib.hid (parse_fit hp2)
  clear hp2
  go_enter Tryd.func5, Tryd.ntmps5
  go_wp2_with fail
  refine (awake_any w HT.out hw).mono ?_
  rintro e w1 ⟨rfl, hb1⟩
  have HB1 := Lib.hid hb1
  clear hb1
  go_wp2_with fail
  rw [HADD.out]
  refine (parse_any (a ++ [10]) HAL.out _ (tabs_below HT.out HB1.out hw) (Nat.le_trans hw HB1.out.size) _ HP1.out).mono ?_
  rintro e1 w2 ⟨hb, V, pbc, rfl, hp1⟩
  have HB2 : Hid (Below w.heap.size w w2) := Lib.hid (HB1.out.trans (hb.mono HB1.out.size))
  obtain ⟨Ac1, cc1, e1, hg⟩ := GAt.of_rows hp1.nodes hp1.rows
  obtain ⟨Ac2, cc2, e2, hs⟩ := hp1.spans.form
  obtain ⟨Ac3, cc3, e3, _⟩ := hp1.notes.form
  rw [e1, e2, e3]
  have HL2 := Lib.hid hb
  have HGc := Lib.hid hg
  have HSc := Lib.hid hs
  clear hb hp1 hg hs e1 e2 e3
  go_upto_region 7 with fail
  obtain ⟨w3, hw3⟩ : ∃ w3, w2.alloc (.cells #[.int .i64 3, .string ⟨(a ++ [10]).toArray⟩, .slice Ac1 V.vs.length cc1, .int .i64 0, .slice Ac2 c.spans.length cc2, .slice Ac3 c.notes.length cc3] 29) = w3 := ⟨_, rfl⟩
  have l3 : Below w2.heap.size w2 w3 := by rw [← hw3]; exact (Below.refl _ _).alloc (Nat.le_refl _) _
  have BXc : Hid (Blk w3 w2.heap.size 29 #[.int .i64 3, .string ⟨(a ++ [10]).toArray⟩, .slice Ac1 V.vs.length cc1, .int .i64 0, .slice Ac2 c.spans.length cc2, .slice Ac3 c.notes.length cc3]) := Lib.hid (by rw [← hw3]; exact Blk.new _ _ _)
  have HB3 : Hid (Below w.heap.size w w3) := Lib.hid (HB2.out.trans (l3.mono HB2.out.size))
  have HL3 := Lib.hid l3
  rw [hw3]
  clear hw3 l3
  go_wp2_with fail
  refine (parse_any b (by omega) _ (tabs_below HT.out HB3.out hw) (Nat.le_trans hw HB3.out.size) _ HP2.out).mono ?_
  rintro e1 w4 ⟨hb, U, pbd, rfl, hp1⟩
  have HB4 : Hid (Below w.heap.size w w4) := Lib.hid (HB3.out.trans (hb.mono HB3.out.size))
  obtain ⟨Ad1, cd1, e1, hg⟩ := GAt.of_rows hp1.nodes hp1.rows
  obtain ⟨Ad2, cd2, e2, hs⟩ := hp1.spans.form
  obtain ⟨Ad3, cd3, e3, _⟩ := hp1.notes.form
  rw [e1, e2, e3]
  have HL4 := Lib.hid hb
  have HGd := Lib.hid hg
  have HSd := Lib.hid hs
  clear hb hp1 hg hs e1 e2 e3
  go_upto_region 8 with fail
  obtain ⟨w5, hw5⟩ : ∃ w5, w4.alloc (.cells #[.int .i64 3, .string ⟨b.toArray⟩, .slice Ad1 U.vs.length cd1, .int .i64 0, .slice Ad2 d.spans.length cd2, .slice Ad3 d.notes.length cd3] 29) = w5 := ⟨_, rfl⟩
  have l5 : Below w4.heap.size w4 w5 := by rw [← hw5]; exact (Below.refl _ _).alloc (Nat.le_refl _) _
  have BXd : Hid (Blk w5 w4.heap.size 29 #[.int .i64 3, .string ⟨b.toArray⟩, .slice Ad1 U.vs.length cd1, .int .i64 0, .slice Ad2 d.spans.length cd2, .slice Ad3 d.notes.length cd3]) := Lib.hid (by rw [← hw5]; exact Blk.new _ _ _)
  have HB5 : Hid (Below w.heap.size w w5) := Lib.hid (HB4.out.trans (l5.mono HB4.out.size))
  have HL5 := Lib.hid l5
  rw [hw5]
  clear hw5 l5
  have HL35 : Hid (Below w3.heap.size w3 w5) := Lib.hid (HL4.out.trans (HL5.out.mono HL4.out.size))
  have HL25 : Hid (Below w2.heap.size w2 w5) := Lib.hid (HL3.out.trans (HL35.out.mono HL3.out.size))
  have BXc5 := Lib.hid (BXc.out.below HL35.out BXc.out.lt)
  have HGc5 := Lib.hid ((HGc.out.below HL25.out).more HL25.out.size)
  have HGd5 := Lib.hid ((HGd.out.below HL5.out).more HL5.out.size)
  have HSd5 := Lib.hid ((HSd.out.below HL5.out).more HL5.out.size)
  clear BXc HGc HGd HSd HSc HL35 HL25
  have yc0 : w5.cell? ⟨w2.heap.size, 0, none⟩ = some (.int .i64 3) := BXc5.out.cell 0
  have yc1 : w5.cell? ⟨w2.heap.size, 1, none⟩ = some (.string ⟨(a ++ [10]).toArray⟩) := BXc5.out.cell 1
  have yc2 : w5.cell? ⟨w2.heap.size, 2, none⟩ = some (.slice Ac1 V.vs.length cc1) := BXc5.out.cell 2
  have yc3 : w5.cell? ⟨w2.heap.size, 3, none⟩ = some (.int .i64 0) := BXc5.out.cell 3
  have yc4 : w5.cell? ⟨w2.heap.size, 4, none⟩ = some (.slice Ac2 c.spans.length cc2) := BXc5.out.cell 4
  have yc5 : w5.cell? ⟨w2.heap.size, 5, none⟩ = some (.slice Ac3 c.notes.length cc3) := BXc5.out.cell 5
  go_wp2_with fail
  refine (sections_any (a ++ [10]) Ac1 Ac2 Ac3 cc1 c.spans.length cc2 c.notes.length cc3 V.vs c.nodes w5 HGc5.out (by have := HF1.out.nl; omega) HF1.out.pos false SC.out).mono ?_
  rintro e1 w6 ⟨rfl, hb6⟩
  have HB6 : Hid (Below w.heap.size w w6) := Lib.hid (HB5.out.trans (hb6.mono HB5.out.size))
  have HL6 := Lib.hid hb6
  clear hb6 yc0 yc1 yc2 yc3 yc4 yc5
  have BXd6 := Lib.hid (BXd.out.below HL6.out BXd.out.lt)
  have BXc6 := Lib.hid (BXc5.out.below HL6.out BXc5.out.lt)
  have HGc6 := Lib.hid ((HGc5.out.below HL6.out).more HL6.out.size)
  have HGd6 := Lib.hid ((HGd5.out.below HL6.out).more HL6.out.size)
  have HSd6 := Lib.hid ((HSd5.out.below HL6.out).more HL6.out.size)
  clear BXc5 BXd HGc5 HGd5 HSd5
  have yd0 : w6.cell? ⟨w4.heap.size, 0, none⟩ = some (.int .i64 3) := BXd6.out.cell 0
  have yd1 : w6.cell? ⟨w4.heap.size, 1, none⟩ = some (.string ⟨b.toArray⟩) := BXd6.out.cell 1
  have yd2 : w6.cell? ⟨w4.heap.size, 2, none⟩ = some (.slice Ad1 U.vs.length cd1) := BXd6.out.cell 2
  have yd3 : w6.cell? ⟨w4.heap.size, 3, none⟩ = some (.int .i64 0) := BXd6.out.cell 3
  have yd4 : w6.cell? ⟨w4.heap.size, 4, none⟩ = some (.slice Ad2 d.spans.length cd2) := BXd6.out.cell 4
  have yd5 : w6.cell? ⟨w4.heap.size, 5, none⟩ = some (.slice Ad3 d.notes.length cd3) := BXd6.out.cell 5
  go_wp2_with fail
  refine (sections_any b Ad1 Ad2 Ad3 cd1 d.spans.length cd2 d.notes.length cd3 U.vs d.nodes w6 HGd6.out (by have := HF2.out.nl; omega) HF2.out.pos true SD.out).mono ?_
  rintro e1 w7 ⟨rfl, hb7⟩
  have HB7 : Hid (Below w.heap.size w w7) := Lib.hid (HB6.out.trans (hb7.mono HB6.out.size))
  have HL7 := Lib.hid hb7
  clear hb7 yd0 yd1 yd2 yd3 yd4 yd5
  go_wp2_with fail
  (try go_ret)
  exact ⟨rfl, HB7.out⟩
set_option maxRecDepth 100000 in
set_option maxHeartbeats 8000000 in
theorem joins_twice (a b : Ini.Str) (w : World) (hT : Lib.Utf8Tabs 0 1 w) (hw : 2 ≤ w.heap.size) (ha : a.length ≤ 300) (hb : b.length ≤ 300) (c : Ini.St) (hp1 : Ini.parse (a ++ [10]) = .ok c) (d : Ini.St) (hp2 : Ini.parse b = .ok d) (sc : secB c.nodes = false) (sd : secB d.nodes = false) (P Q : List (Ini.Str × Ini.Str)) (_K : List Nat) (fc : Ini.Flat [] P c) (fd : Ini.Flat [] Q d) (n1 : c.spans.length = P.length + 1) (n2 : d.spans.length = Q.length + 1) (hPl : P.length ≤ 301) (hQl : Q.length ≤ 300) (i0 : Nat) (hi0 : i0 < Q.length) (hin : Q[i0].1 ∈ P.map (·.1)) (hno : ∀ j (h : j < Q.length), j < i0 → Q[j].1 ∉ P.map (·.1)) (kf : Nat) (hkf : ∃ h : i0 + 1 < d.spans.length, (d.spans[i0 + 1]).keyFrom = kf) (hp3 : Ini.parse (a ++ [10] ++ b) = .err (kf + (a.length + 1)) 8) :
    Calls Tryd.prog 5 #[.string ⟨a.toArray⟩, .string ⟨b.toArray⟩] w fun e w' => e = .returned (.bool true) ∧ Below w.heap.size w w' := by
  have HT := Lib.hid hT
  clear hT
  have SC := Lib.hid sc
  have SD := Lib.hid sd
  have FC := Lib.hid fc.ents
  have FD := Lib.hid fd.ents
  have N1 := Lib.hid n1
  have N2 := Lib.hid n2
  have HCAT : Hid ((⟨(a ++ [10]).toArray⟩ : ByteArray) ++ ⟨b.toArray⟩ = ⟨(a ++ [10] ++ b).toArray⟩) := Lib.hid (ba_app _ _)
  have hq2 : ¬ (9223372036854775807 < a.length + 1 + b.length) := by omega
  have hq3 : ¬ (9223372036854775807 < (a ++ [10]).length + b.length) := by simp; omega
  have HAB : Hid ((a ++ [10] ++ b).length ≤ 65536) := Lib.hid (by simp; omega)
  clear sc sd fc fd n1 n2
  have hkB : kf ≤ 300 := by have := Ini.parse_off _ _ _ hp3; simp at this; omega
  have HP3 := Lib.hid hp3
  have HIN := Lib.hid hin
  have HNO := Lib.hid hno
  have HKF := Lib.hid hkf
  clear hp3 hin hno hkf
  have haI : decide ((300 : Int) < (a.length : Int)) = false := by simp; omega
  have haJ : ¬ ((300 : Int) < (a.length : Int)) := by omega
  have hbI : decide ((300 : Int) < (b.length : Int)) = false := by simp; omega
  have hbJ : ¬ ((300 : Int) < (b.length : Int)) := by omega
  have HADD := Lib.hid (joins_add a)
  have hqq : ¬ (9223372036854775807 < a.length + 1) := by omega
  have HAL : Hid ((a ++ [10]).length ≤ 65536) := Lib.hid (by simp; omega)
  have HP1 := Lib.hid hp1
  have HF1 := Lib.hid (parse_fit hp1)
  clear hp1
  have HP2 := Lib.hid hp2
  have HF2 := Lib.hid (parse_fit hp2)
  clear hp2
  go_enter Tryd.func5, Tryd.ntmps5
  go_wp2_with fail
  refine (awake_any w HT.out hw).mono ?_
  rintro e w1 ⟨rfl, hb1⟩
  have HB1 := Lib.hid hb1
  clear hb1
  go_wp2_with fail
  rw [HADD.out]
  refine (parse_any (a ++ [10]) HAL.out _ (tabs_below HT.out HB1.out hw) (Nat.le_trans hw HB1.out.size) _ HP1.out).mono ?_
  rintro e1 w2 ⟨hb, V, pbc, rfl, hp1⟩
  have HB2 : Hid (Below w.heap.size w w2) := Lib.hid (HB1.out.trans (hb.mono HB1.out.size))
  obtain ⟨Ac1, cc1, e1, hg⟩ := GAt.of_rows hp1.nodes hp1.rows
  obtain ⟨Ac2, cc2, e2, hs⟩ := hp1.spans.form
  obtain ⟨Ac3, cc3, e3, _⟩ := hp1.notes.form
  rw [e1, e2, e3]
  have HL2 := Lib.hid hb
  have HGc := Lib.hid hg
  have HSc := Lib.hid hs
  clear hb hp1 hg hs e1 e2 e3
  go_upto_region 7 with fail
  obtain ⟨w3, hw3⟩ : ∃ w3, w2.alloc (.cells #[.int .i64 3, .string ⟨(a ++ [10]).toArray⟩, .slice Ac1 V.vs.length cc1, .int .i64 0, .slice Ac2 c.spans.length cc2, .slice Ac3 c.notes.length cc3] 29) = w3 := ⟨_, rfl⟩
  have l3 : Below w2.heap.size w2 w3 := by rw [← hw3]; exact (Below.refl _ _).alloc (Nat.le_refl _) _
  have BXc : Hid (Blk w3 w2.heap.size 29 #[.int .i64 3, .string ⟨(a ++ [10]).toArray⟩, .slice Ac1 V.vs.length cc1, .int .i64 0, .slice Ac2 c.spans.length cc2, .slice Ac3 c.notes.length cc3]) := Lib.hid (by rw [← hw3]; exact Blk.new _ _ _)
  have HB3 : Hid (Below w.heap.size w w3) := Lib.hid (HB2.out.trans (l3.mono HB2.out.size))
  have HL3 := Lib.hid l3
  rw [hw3]
  clear hw3 l3
  go_wp2_with fail
  refine (parse_any b (by omega) _ (tabs_below HT.out HB3.out hw) (Nat.le_trans hw HB3.out.size) _ HP2.out).mono ?_
  rintro e1 w4 ⟨hb, U, pbd, rfl, hp1⟩
  have HB4 : Hid (Below w.heap.size w w4) := Lib.hid (HB3.out.trans (hb.mono HB3.out.size))
  obtain ⟨Ad1, cd1, e1, hg⟩ := GAt.of_rows hp1.nodes hp1.rows
  obtain ⟨Ad2, cd2, e2, hs⟩ := hp1.spans.form
  obtain ⟨Ad3, cd3, e3, _⟩ := hp1.notes.form
  rw [e1, e2, e3]
  have HL4 := Lib.hid hb
  have HGd := Lib.hid hg
  have HSd := Lib.hid hs
  clear hb hp1 hg hs e1 e2 e3
  go_upto_region 8 with fail
  obtain ⟨w5, hw5⟩ : ∃ w5, w4.alloc (.cells #[.int .i64 3, .string ⟨b.toArray⟩, .slice Ad1 U.vs.length cd1, .int .i64 0, .slice Ad2 d.spans.length cd2, .slice Ad3 d.notes.length cd3] 29) = w5 := ⟨_, rfl⟩
  have l5 : Below w4.heap.size w4 w5 := by rw [← hw5]; exact (Below.refl _ _).alloc (Nat.le_refl _) _
  have BXd : Hid (Blk w5 w4.heap.size 29 #[.int .i64 3, .string ⟨b.toArray⟩, .slice Ad1 U.vs.length cd1, .int .i64 0, .slice Ad2 d.spans.length cd2, .slice Ad3 d.notes.length cd3]) := Lib.hid (by rw [← hw5]; exact Blk.new _ _ _)
  have HB5 : Hid (Below w.heap.size w w5) := Lib.hid (HB4.out.trans (l5.mono HB4.out.size))
  have HL5 := Lib.hid l5
  rw [hw5]
  clear hw5 l5
  have HL35 : Hid (Below w3.heap.size w3 w5) := Lib.hid (HL4.out.trans (HL5.out.mono HL4.out.size))
  have HL25 : Hid (Below w2.heap.size w2 w5) := Lib.hid (HL3.out.trans (HL35.out.mono HL3.out.size))
  have BXc5 := Lib.hid (BXc.out.below HL35.out BXc.out.lt)
  have HGc5 := Lib.hid ((HGc.out.below HL25.out).more HL25.out.size)
  have HGd5 := Lib.hid ((HGd.out.below HL5.out).more HL5.out.size)
  have HSd5 := Lib.hid ((HSd.out.below HL5.out).more HL5.out.size)
  clear BXc HGc HGd HSd HSc HL35 HL25
  have yc0 : w5.cell? ⟨w2.heap.size, 0, none⟩ = some (.int .i64 3) := BXc5.out.cell 0
  have yc1 : w5.cell? ⟨w2.heap.size, 1, none⟩ = some (.string ⟨(a ++ [10]).toArray⟩) := BXc5.out.cell 1
  have yc2 : w5.cell? ⟨w2.heap.size, 2, none⟩ = some (.slice Ac1 V.vs.length cc1) := BXc5.out.cell 2
  have yc3 : w5.cell? ⟨w2.heap.size, 3, none⟩ = some (.int .i64 0) := BXc5.out.cell 3
  have yc4 : w5.cell? ⟨w2.heap.size, 4, none⟩ = some (.slice Ac2 c.spans.length cc2) := BXc5.out.cell 4
  have yc5 : w5.cell? ⟨w2.heap.size, 5, none⟩ = some (.slice Ac3 c.notes.length cc3) := BXc5.out.cell 5
  go_wp2_with fail
  refine (sections_any (a ++ [10]) Ac1 Ac2 Ac3 cc1 c.spans.length cc2 c.notes.length cc3 V.vs c.nodes w5 HGc5.out (by have := HF1.out.nl; omega) HF1.out.pos false SC.out).mono ?_
  rintro e1 w6 ⟨rfl, hb6⟩
  have HB6 : Hid (Below w.heap.size w w6) := Lib.hid (HB5.out.trans (hb6.mono HB5.out.size))
  have HL6 := Lib.hid hb6
  clear hb6 yc0 yc1 yc2 yc3 yc4 yc5
  have BXd6 := Lib.hid (BXd.out.below HL6.out BXd.out.lt)
  have BXc6 := Lib.hid (BXc5.out.below HL6.out BXc5.out.lt)
  have HGc6 := Lib.hid ((HGc5.out.below HL6.out).more HL6.out.size)
  have HGd6 := Lib.hid ((HGd5.out.below HL6.out).more HL6.out.size)
  have HSd6 := Lib.hid ((HSd5.out.below HL6.out).more HL6.out.size)
  clear BXc5 BXd HGc5 HGd5 HSd5
  have yd0 : w6.cell? ⟨w4.heap.size, 0, none⟩ = some (.int .i64 3) := BXd6.out.cell 0
  have yd1 : w6.cell? ⟨w4.heap.size, 1, none⟩ = some (.string ⟨b.toArray⟩) := BXd6.out.cell 1
  have yd2 : w6.cell? ⟨w4.heap.size, 2, none⟩ = some (.slice Ad1 U.vs.length cd1) := BXd6.out.cell 2
  have yd3 : w6.cell? ⟨w4.heap.size, 3, none⟩ = some (.int .i64 0) := BXd6.out.cell 3
  have yd4 : w6.cell? ⟨w4.heap.size, 4, none⟩ = some (.slice Ad2 d.spans.length cd2) := BXd6.out.cell 4
  have yd5 : w6.cell? ⟨w4.heap.size, 5, none⟩ = some (.slice Ad3 d.notes.length cd3) := BXd6.out.cell 5
  go_wp2_with fail
  refine (sections_any b Ad1 Ad2 Ad3 cd1 d.spans.length cd2 d.notes.length cd3 U.vs d.nodes w6 HGd6.out (by have := HF2.out.nl; omega) HF2.out.pos false SD.out).mono ?_
  rintro e1 w7 ⟨rfl, hb7⟩
  have HB7 : Hid (Below w.heap.size w w7) := Lib.hid (HB6.out.trans (hb7.mono HB6.out.size))
  have HL7 := Lib.hid hb7
  clear hb7 yd0 yd1 yd2 yd3 yd4 yd5
  have BXc7 := Lib.hid (BXc6.out.below HL7.out BXc6.out.lt)
  have BXd7 := Lib.hid (BXd6.out.below HL7.out BXd6.out.lt)
  have HGc7 := Lib.hid ((HGc6.out.below HL7.out).more HL7.out.size)
  have HGd7 := Lib.hid ((HGd6.out.below HL7.out).more HL7.out.size)
  have HSd7 := Lib.hid ((HSd6.out.below HL7.out).more HL7.out.size)
  clear BXc6 BXd6 HGc6 HGd6 HSd6
  go_wp2_with fail
  rw [HCAT.out]
  refine (parse_any (a ++ [10] ++ b) HAB.out _ (tabs_below HT.out HB7.out hw) (Nat.le_trans hw HB7.out.size) _ HP3.out).mono ?_
  rintro e1 w8 ⟨hb, rfl⟩
  have HB8 : Hid (Below w.heap.size w w8) := Lib.hid (HB7.out.trans (hb.mono HB7.out.size))
  have HL8 := Lib.hid hb
  unfold noDoc
  clear hb
  go_upto_region 11 with fail
  obtain ⟨w9, hw9⟩ : ∃ w9, w8.alloc (.cells #[.int .i64 0, .string ⟨#[]⟩, .slice none 0 0, .int .i64 0, .slice none 0 0, .slice none 0 0] 29) = w9 := ⟨_, rfl⟩
  have l9 : Below w8.heap.size w8 w9 := by rw [← hw9]; exact (Below.refl _ _).alloc (Nat.le_refl _) _
  have BXx : Hid (Blk w9 w8.heap.size 29 #[.int .i64 0, .string ⟨#[]⟩, .slice none 0 0, .int .i64 0, .slice none 0 0, .slice none 0 0]) := Lib.hid (by rw [← hw9]; exact Blk.new _ _ _)
  have HB9 : Hid (Below w.heap.size w w9) := Lib.hid (HB8.out.trans (l9.mono HB8.out.size))
  have HL9 := Lib.hid l9
  rw [hw9]
  clear hw9 l9
  have HL79 : Hid (Below w7.heap.size w7 w9) := Lib.hid (HL8.out.trans (HL9.out.mono HL8.out.size))
  have BXc9 := Lib.hid (BXc7.out.below HL79.out BXc7.out.lt)
  have BXd9 := Lib.hid (BXd7.out.below HL79.out BXd7.out.lt)
  have HGc9 := Lib.hid ((HGc7.out.below HL79.out).more HL79.out.size)
  have HGd9 := Lib.hid ((HGd7.out.below HL79.out).more HL79.out.size)
  have HSd9 := Lib.hid ((HSd7.out.below HL79.out).more HL79.out.size)
  clear BXc7 BXd7 HGc7 HGd7 HSd7
  have HENc : Hid (∀ W, Below w9.heap.size w9 W → Calls Tryd.prog 15 #[.agg #[.int .i64 3, .string ⟨(a ++ [10]).toArray⟩, .slice Ac1 V.vs.length cc1, .int .i64 0, .slice Ac2 c.spans.length cc2, .slice Ac3 c.notes.length cc3]] W (fun e w' => Below w9.heap.size w9 w' ∧ Below W.heap.size W w' ∧ ∃ v, e = .returned v ∧ OwnRow pairL w' W.heap.size 43 v P)) := Lib.hid (fun W hW =>
    (entries_any (a ++ [10]) Ac1 Ac2 Ac3 cc1 c.spans.length cc2 c.notes.length cc3 V.vs c.nodes P W ((HGc9.out.below hW).more hW.size) (by have := HF1.out.nl; omega) FC.out (by omega)).mono (fun e w' h => ⟨hW.trans (h.1.mono hW.size), h.1, h.2⟩))
  have HENd : Hid (∀ W, Below w9.heap.size w9 W → Calls Tryd.prog 15 #[.agg #[.int .i64 3, .string ⟨b.toArray⟩, .slice Ad1 U.vs.length cd1, .int .i64 0, .slice Ad2 d.spans.length cd2, .slice Ad3 d.notes.length cd3]] W (fun e w' => Below w9.heap.size w9 w' ∧ Below W.heap.size W w' ∧ ∃ v, e = .returned v ∧ OwnRow pairL w' W.heap.size 43 v Q)) := Lib.hid (fun W hW =>
    (entries_any b Ad1 Ad2 Ad3 cd1 d.spans.length cd2 d.notes.length cd3 U.vs d.nodes Q W ((HGd9.out.below hW).more hW.size) (by have := HF2.out.nl; omega) FD.out (by omega)).mono (fun e w' h => ⟨hW.trans (h.1.mono hW.size), h.1, h.2⟩))
  have HS : Hid (∀ W, Below w9.heap.size w9 W → W.cell? ⟨w2.heap.size, 0, none⟩ = some (.int .i64 3) ∧ W.cell? ⟨w2.heap.size, 1, none⟩ = some (.string ⟨(a ++ [10]).toArray⟩) ∧ W.cell? ⟨w2.heap.size, 2, none⟩ = some (.slice Ac1 V.vs.length cc1) ∧ W.cell? ⟨w2.heap.size, 3, none⟩ = some (.int .i64 0) ∧ W.cell? ⟨w2.heap.size, 4, none⟩ = some (.slice Ac2 c.spans.length cc2) ∧ W.cell? ⟨w2.heap.size, 5, none⟩ = some (.slice Ac3 c.notes.length cc3) ∧ W.cell? ⟨w4.heap.size, 0, none⟩ = some (.int .i64 3) ∧ W.cell? ⟨w4.heap.size, 1, none⟩ = some (.string ⟨b.toArray⟩) ∧ W.cell? ⟨w4.heap.size, 2, none⟩ = some (.slice Ad1 U.vs.length cd1) ∧ W.cell? ⟨w4.heap.size, 3, none⟩ = some (.int .i64 0) ∧ W.cell? ⟨w4.heap.size, 4, none⟩ = some (.slice Ad2 d.spans.length cd2) ∧ W.cell? ⟨w4.heap.size, 5, none⟩ = some (.slice Ad3 d.notes.length cd3)) := Lib.hid (fun W hW => by
    have bc := BXc9.out.below hW BXc9.out.lt
    have bd := BXd9.out.below hW BXd9.out.lt
    exact ⟨bc.cell 0, bc.cell 1, bc.cell 2, bc.cell 3, bc.cell 4, bc.cell 5, bd.cell 0, bd.cell 1, bd.cell 2, bd.cell 3, bd.cell 4, bd.cell 5⟩)
  obtain ⟨yc0, yc1, yc2, yc3, yc4, yc5, yd0, yd1, yd2, yd3, yd4, yd5⟩ := HS.out w9 (Below.refl _ _)
  go_cut [14, 15] (fun s14 s15 wx => JRows w9 wx s14 s15 P Q)
  case first =>
    go_region_held3 (fun w' => w'.cell? ⟨w2.heap.size, 0, none⟩ = some (.int .i64 3) ∧ w'.cell? ⟨w2.heap.size, 1, none⟩ = some (.string ⟨(a ++ [10]).toArray⟩) ∧ w'.cell? ⟨w2.heap.size, 2, none⟩ = some (.slice Ac1 V.vs.length cc1) ∧ w'.cell? ⟨w2.heap.size, 3, none⟩ = some (.int .i64 0) ∧ w'.cell? ⟨w2.heap.size, 4, none⟩ = some (.slice Ac2 c.spans.length cc2) ∧ w'.cell? ⟨w2.heap.size, 5, none⟩ = some (.slice Ac3 c.notes.length cc3) ∧ w'.cell? ⟨w4.heap.size, 0, none⟩ = some (.int .i64 3) ∧ w'.cell? ⟨w4.heap.size, 1, none⟩ = some (.string ⟨b.toArray⟩) ∧ w'.cell? ⟨w4.heap.size, 2, none⟩ = some (.slice Ad1 U.vs.length cd1) ∧ w'.cell? ⟨w4.heap.size, 3, none⟩ = some (.int .i64 0) ∧ w'.cell? ⟨w4.heap.size, 4, none⟩ = some (.slice Ad2 d.spans.length cd2) ∧ w'.cell? ⟨w4.heap.size, 5, none⟩ = some (.slice Ad3 d.notes.length cd3))
      (first | go_keep | (exact HS.out _ (by assumption)))
      (first
        | (go_at_call 15; (with_reducible refine (HENc.out _ ?_).mono ?_); (first | assumption | exact Below.refl _ _ | exact (Below.refl _ _).drew); rintro e1 wc1 ⟨hc9, hcW, vp, rfl, hop⟩)
        | (go_at_call 15; (with_reducible refine (HENd.out _ ?_).mono ?_); (first | assumption | exact Below.refl _ _ | exact (Below.refl _ _).drew); rintro e1 wd1 ⟨hd9, hdW, vq, rfl, hoq⟩))
    all_goals
      go_wp2_with fail
      go_meet
    all_goals first
      | exact ⟨(hop.later hdW).lower (Nat.le_refl _), hoq.lower hc9.size, fun g h1 h2 => absurd (hop.lt g h1).2 (Nat.not_lt.2 (hoq.lt g h2).1), hd9⟩
      | exact ⟨hop.lower hd9.size, (hoq.later hcW).lower (Nat.le_refl _), fun g h1 h2 => absurd (hoq.lt g h2).2 (Nat.not_lt.2 (hop.lt g h1).1), hc9⟩
  case rest =>
    rename_i wOld
    obtain ⟨hp, hq, hne, hb10⟩ := hcut
    have HB10 : Hid (Below w.heap.size w wc) := Lib.hid (HB9.out.trans (hb10.mono HB9.out.size))
    have BXd10 := Lib.hid (BXd9.out.below hb10 BXd9.out.lt)
    have HSd10 := Lib.hid ((HSd9.out.below hb10).more hb10.size)
    obtain ⟨Ap, cp, rfl, hpr⟩ := hp.form
    obtain ⟨Aq, cq, rfl, hqr⟩ := hq.form
    have HPR := Lib.hid hpr
    have HQR := Lib.hid hqr
    have HP9 := Lib.hid hp
    have HNE := Lib.hid hne
    have HL10 := Lib.hid hb10
    clear hp hq hne hb10 hpr hqr yc0 yc1 yc2 yc3 yc4 yc5 yd0 yd1 yd2 yd3 yd4 yd5 HENc HENd HS HGc9 HGd9 BXd9 HSd9
    go_wp2_with fail
    go_loopw [16] (fun s16 wr => ∃ k n : Nat, k ≤ i0 ∧ s16 = .int .i64 k ∧ wr = wc.drewN n) (fun s16 _ => Q.length - (intOf s16).toNat)
    case atStart => exact ⟨0, 0, by omega, rfl, rfl⟩
    case round =>
      obtain ⟨k, n, hk, rfl, rfl⟩ := hrel
      have hkQ : k < Q.length := by omega
      have hkI : (k : Int) < (Q.length : Int) := by omega
      go_wp2_with fail
      go_loopw [17] (fun s17 wr => ∃ m n2 : Nat, m ≤ P.length ∧ s17 = .int .i64 m ∧ wr = wc.drewN n2 ∧ Hid (∀ j (h : j < P.length), j < m → P[j].1 ≠ Q[k].1)) (fun s17 _ => P.length - (intOf s17).toNat)
      case atStart => exact ⟨0, n, by omega, rfl, rfl, Lib.hid (fun j h h2 => by omega)⟩
      case round =>
        obtain ⟨m, n2, hm, rfl, rfl, hnone⟩ := hrel
        by_cases hmP : m < P.length
        · have hmI : (m : Int) < (P.length : Int) := by omega
          obtain ⟨ap, rfl, _, p0, _⟩ := pair_at HPR.out hmP
          obtain ⟨aq, rfl, _, q0, _⟩ := pair_at HQR.out hkQ
          obtain ⟨x, hx⟩ : ∃ x, P[m] = x := ⟨_, rfl⟩
          obtain ⟨y, hy⟩ : ∃ y, Q[k] = y := ⟨_, rfl⟩
          rw [hx] at p0
          rw [hy] at q0
          obtain ⟨u, hu⟩ : ∃ u : List UInt8, x.1 = u := ⟨_, rfl⟩
          obtain ⟨v, hv⟩ : ∃ v : List UInt8, y.1 = v := ⟨_, rfl⟩
          rw [hu] at p0
          rw [hv] at q0
          have HX := Lib.hid (show P[m].1 = u by rw [hx, hu])
          have HY := Lib.hid (show Q[k].1 = v by rw [hy, hv])
          clear hx hy hu hv
          go_wp2_with fail
          by_cases hxy : v = u
          · have hki : k = i0 := by
              rcases Nat.lt_or_ge k i0 with hlt | hge
              · exact absurd (List.mem_map.2 ⟨P[m], List.getElem_mem _, by rw [HX.out, HY.out, hxy]⟩) (HNO.out k hkQ hlt)
              · omega
            obtain ⟨hs1, hs2⟩ := HKF.out
            obtain ⟨sp, rfl, _, _, _, _, _, _, s5, _⟩ := span_at HSd10.out hs1
            rw [hs2] at s5
            have s3 : wc.cell? ⟨w4.heap.size, 3, none⟩ = some (.int .i64 0) := BXd10.out.cell 3
            have s4 : wc.cell? ⟨w4.heap.size, 4, none⟩ = some (.slice (some sp) d.spans.length cd2) := BXd10.out.cell 4
            have hi1 : ((i0 : Int) + 1) < (d.spans.length : Int) := by omega
            have hi2 : IntKind.i64.wrap ((i0 : Int) + 1) = (i0 : Int) + 1 := IntWalk.i64_in _ (by omega)
            have hi3 : ((i0 : Int) + 1).toNat = i0 + 1 := by omega
            have t1 : ((⟨v.toArray⟩ : ByteArray) == ⟨u.toArray⟩) = true := by
              show (v.toArray == u.toArray) = true
              rw [hxy, beq_self_eq_true]
            have t2 : (v == u) = true := by rw [hxy]; simp
            have t3 : ((kf : Int) + ((a.length : Int) + 1) == (a.length : Int) + 1 + (kf : Int)) = true := by rw [beq_iff_eq]; omega
            obtain rfl : i0 = k := hki.symm
            go_quiet (fail)
            go_wp2_with fail
            all_goals (try go_ret)
            all_goals exact ⟨rfl, below_drewN HB10.out _⟩
          · have t1 : ((⟨v.toArray⟩ : ByteArray) == ⟨u.toArray⟩) = false := by
              show (v.toArray == u.toArray) = false
              rw [beq_eq_false_iff_ne]
              exact fun e => hxy (List.toArray_inj e)
            have t2 : (v == u) = false := by simpa using hxy
            have HXY := Lib.hid hxy
            clear hxy
            go_quiet (fail)
            go_wp2_with fail
            go_roundw
            case rel => exact ⟨m + 1, _, by omega, by go_num, rfl, Lib.hid (fun j h h2 => by
              by_cases e : j = m
              · subst e; rw [HX.out, HY.out]; exact fun e2 => HXY.out e2.symm
              · exact hnone.out j h (by omega))⟩
            case measure => simp [intOf]; omega
        · have hmI : ¬ ((m : Int) < (P.length : Int)) := by omega
          have hk0 : k < i0 := by
            rcases Nat.lt_or_ge k i0 with hlt | hge
            · exact hlt
            · have hki : k = i0 := by omega
              subst hki
              obtain ⟨e, he, hee⟩ := List.mem_map.1 HIN.out
              obtain ⟨j, hj, rfl⟩ := List.mem_iff_getElem.1 he
              exact absurd hee (hnone.out j hj (by omega))
          clear hnone
          go_wp2_with fail
          go_roundw
          case rel => exact ⟨k + 1, n2, by omega, by go_num, rfl⟩
          case measure => simp [intOf]; omega
set_option maxRecDepth 100000 in
set_option maxHeartbeats 8000000 in
theorem joins_fine (a b : Ini.Str) (w : World) (hT : Lib.Utf8Tabs 0 1 w) (hw : 2 ≤ w.heap.size) (ha : a.length ≤ 300) (hb : b.length ≤ 300) (c : Ini.St) (hp1 : Ini.parse (a ++ [10]) = .ok c) (d : Ini.St) (hp2 : Ini.parse b = .ok d) (sc : secB c.nodes = false) (sd : secB d.nodes = false) (P Q : List (Ini.Str × Ini.Str)) (_K : List Nat) (fc : Ini.Flat [] P c) (fd : Ini.Flat [] Q d) (n1 : c.spans.length = P.length + 1) (n2 : d.spans.length = Q.length + 1) (hPl : P.length ≤ 301) (hQl : Q.length ≤ 300) (T3 : Ini.Str) (hT3 : a ++ [10] ++ b = T3) (x : Ini.St) (hp3 : Ini.parse T3 = .ok x) (fx : Ini.Flat [] (P ++ Q) x) (n3 : x.spans.length = P.length + Q.length + 1) (hno : ∀ j (h : j < Q.length), Q[j].1 ∉ P.map (·.1)) :
    Calls Tryd.prog 5 #[.string ⟨a.toArray⟩, .string ⟨b.toArray⟩] w fun e w' => e = .returned (.bool true) ∧ Below w.heap.size w w' := by
  have HT := Lib.hid hT
  clear hT
  have SC := Lib.hid sc
  have SD := Lib.hid sd
  have FC := Lib.hid fc.ents
  have FD := Lib.hid fd.ents
  have N1 := Lib.hid n1
  have N2 := Lib.hid n2
  have HCAT : Hid ((⟨(a ++ [10]).toArray⟩ : ByteArray) ++ ⟨b.toArray⟩ = ⟨T3.toArray⟩) := Lib.hid (by rw [ba_app, hT3])
  have hq2 : ¬ (9223372036854775807 < a.length + 1 + b.length) := by omega
  have hq3 : ¬ (9223372036854775807 < (a ++ [10]).length + b.length) := by simp; omega
  have HAB : Hid (T3.length ≤ 65536) := Lib.hid (by rw [← hT3]; simp; omega)
  clear sc sd fc fd n1 n2
  have HP3 := Lib.hid hp3
  have FX := Lib.hid fx.ents
  have N3 := Lib.hid n3
  have HF3 := Lib.hid (parse_fit hp3)
  have HNO := Lib.hid hno
  clear hp3 fx n3 hno hT3
  have haI : decide ((300 : Int) < (a.length : Int)) = false := by simp; omega
  have haJ : ¬ ((300 : Int) < (a.length : Int)) := by omega
  have hbI : decide ((300 : Int) < (b.length : Int)) = false := by simp; omega
  have hbJ : ¬ ((300 : Int) < (b.length : Int)) := by omega
  have HADD := Lib.hid (joins_add a)
  have hqq : ¬ (9223372036854775807 < a.length + 1) := by omega
  have HAL : Hid ((a ++ [10]).length ≤ 65536) := Lib.hid (by simp; omega)
  have HP1 := Lib.hid hp1
  have HF1 := Lib.hid (parse_fit hp1)
  clear hp1
  have HP2 := Lib.hid hp2
  have HF2 := Lib.hid (parse_fit hp2)
  clear hp2
  go_enter Tryd.func5, Tryd.ntmps5
  go_wp2_with fail
  refine (awake_any w HT.out hw).mono ?_
  rintro e w1 ⟨rfl, hb1⟩
  have HB1 := Lib.hid hb1
  clear hb1
  go_wp2_with fail
  rw [HADD.out]
  refine (parse_any (a ++ [10]) HAL.out _ (tabs_below HT.out HB1.out hw) (Nat.le_trans hw HB1.out.size) _ HP1.out).mono ?_
  rintro e1 w2 ⟨hb, V, pbc, rfl, hp1⟩
  have HB2 : Hid (Below w.heap.size w w2) := Lib.hid (HB1.out.trans (hb.mono HB1.out.size))
  obtain ⟨Ac1, cc1, e1, hg⟩ := GAt.of_rows hp1.nodes hp1.rows
  obtain ⟨Ac2, cc2, e2, hs⟩ := hp1.spans.form
  obtain ⟨Ac3, cc3, e3, _⟩ := hp1.notes.form
  rw [e1, e2, e3]
  have HL2 := Lib.hid hb
  have HGc := Lib.hid hg
  have HSc := Lib.hid hs
  clear hb hp1 hg hs e1 e2 e3
  go_upto_region 7 with fail
  obtain ⟨w3, hw3⟩ : ∃ w3, w2.alloc (.cells #[.int .i64 3, .string ⟨(a ++ [10]).toArray⟩, .slice Ac1 V.vs.length cc1, .int .i64 0, .slice Ac2 c.spans.length cc2, .slice Ac3 c.notes.length cc3] 29) = w3 := ⟨_, rfl⟩
  have l3 : Below w2.heap.size w2 w3 := by rw [← hw3]; exact (Below.refl _ _).alloc (Nat.le_refl _) _
  have BXc : Hid (Blk w3 w2.heap.size 29 #[.int .i64 3, .string ⟨(a ++ [10]).toArray⟩, .slice Ac1 V.vs.length cc1, .int .i64 0, .slice Ac2 c.spans.length cc2, .slice Ac3 c.notes.length cc3]) := Lib.hid (by rw [← hw3]; exact Blk.new _ _ _)
  have HB3 : Hid (Below w.heap.size w w3) := Lib.hid (HB2.out.trans (l3.mono HB2.out.size))
  have HL3 := Lib.hid l3
  rw [hw3]
  clear hw3 l3
  go_wp2_with fail
  refine (parse_any b (by omega) _ (tabs_below HT.out HB3.out hw) (Nat.le_trans hw HB3.out.size) _ HP2.out).mono ?_
  rintro e1 w4 ⟨hb, U, pbd, rfl, hp1⟩
  have HB4 : Hid (Below w.heap.size w w4) := Lib.hid (HB3.out.trans (hb.mono HB3.out.size))
  obtain ⟨Ad1, cd1, e1, hg⟩ := GAt.of_rows hp1.nodes hp1.rows
  obtain ⟨Ad2, cd2, e2, hs⟩ := hp1.spans.form
  obtain ⟨Ad3, cd3, e3, _⟩ := hp1.notes.form
  rw [e1, e2, e3]
  have HL4 := Lib.hid hb
  have HGd := Lib.hid hg
  have HSd := Lib.hid hs
  clear hb hp1 hg hs e1 e2 e3
  go_upto_region 8 with fail
  obtain ⟨w5, hw5⟩ : ∃ w5, w4.alloc (.cells #[.int .i64 3, .string ⟨b.toArray⟩, .slice Ad1 U.vs.length cd1, .int .i64 0, .slice Ad2 d.spans.length cd2, .slice Ad3 d.notes.length cd3] 29) = w5 := ⟨_, rfl⟩
  have l5 : Below w4.heap.size w4 w5 := by rw [← hw5]; exact (Below.refl _ _).alloc (Nat.le_refl _) _
  have BXd : Hid (Blk w5 w4.heap.size 29 #[.int .i64 3, .string ⟨b.toArray⟩, .slice Ad1 U.vs.length cd1, .int .i64 0, .slice Ad2 d.spans.length cd2, .slice Ad3 d.notes.length cd3]) := Lib.hid (by rw [← hw5]; exact Blk.new _ _ _)
  have HB5 : Hid (Below w.heap.size w w5) := Lib.hid (HB4.out.trans (l5.mono HB4.out.size))
  have HL5 := Lib.hid l5
  rw [hw5]
  clear hw5 l5
  have HL35 : Hid (Below w3.heap.size w3 w5) := Lib.hid (HL4.out.trans (HL5.out.mono HL4.out.size))
  have HL25 : Hid (Below w2.heap.size w2 w5) := Lib.hid (HL3.out.trans (HL35.out.mono HL3.out.size))
  have BXc5 := Lib.hid (BXc.out.below HL35.out BXc.out.lt)
  have HGc5 := Lib.hid ((HGc.out.below HL25.out).more HL25.out.size)
  have HGd5 := Lib.hid ((HGd.out.below HL5.out).more HL5.out.size)
  have HSd5 := Lib.hid ((HSd.out.below HL5.out).more HL5.out.size)
  clear BXc HGc HGd HSd HSc HL35 HL25
  have yc0 : w5.cell? ⟨w2.heap.size, 0, none⟩ = some (.int .i64 3) := BXc5.out.cell 0
  have yc1 : w5.cell? ⟨w2.heap.size, 1, none⟩ = some (.string ⟨(a ++ [10]).toArray⟩) := BXc5.out.cell 1
  have yc2 : w5.cell? ⟨w2.heap.size, 2, none⟩ = some (.slice Ac1 V.vs.length cc1) := BXc5.out.cell 2
  have yc3 : w5.cell? ⟨w2.heap.size, 3, none⟩ = some (.int .i64 0) := BXc5.out.cell 3
  have yc4 : w5.cell? ⟨w2.heap.size, 4, none⟩ = some (.slice Ac2 c.spans.length cc2) := BXc5.out.cell 4
  have yc5 : w5.cell? ⟨w2.heap.size, 5, none⟩ = some (.slice Ac3 c.notes.length cc3) := BXc5.out.cell 5
  go_wp2_with fail
  refine (sections_any (a ++ [10]) Ac1 Ac2 Ac3 cc1 c.spans.length cc2 c.notes.length cc3 V.vs c.nodes w5 HGc5.out (by have := HF1.out.nl; omega) HF1.out.pos false SC.out).mono ?_
  rintro e1 w6 ⟨rfl, hb6⟩
  have HB6 : Hid (Below w.heap.size w w6) := Lib.hid (HB5.out.trans (hb6.mono HB5.out.size))
  have HL6 := Lib.hid hb6
  clear hb6 yc0 yc1 yc2 yc3 yc4 yc5
  have BXd6 := Lib.hid (BXd.out.below HL6.out BXd.out.lt)
  have BXc6 := Lib.hid (BXc5.out.below HL6.out BXc5.out.lt)
  have HGc6 := Lib.hid ((HGc5.out.below HL6.out).more HL6.out.size)
  have HGd6 := Lib.hid ((HGd5.out.below HL6.out).more HL6.out.size)
  have HSd6 := Lib.hid ((HSd5.out.below HL6.out).more HL6.out.size)
  clear BXc5 BXd HGc5 HGd5 HSd5
  have yd0 : w6.cell? ⟨w4.heap.size, 0, none⟩ = some (.int .i64 3) := BXd6.out.cell 0
  have yd1 : w6.cell? ⟨w4.heap.size, 1, none⟩ = some (.string ⟨b.toArray⟩) := BXd6.out.cell 1
  have yd2 : w6.cell? ⟨w4.heap.size, 2, none⟩ = some (.slice Ad1 U.vs.length cd1) := BXd6.out.cell 2
  have yd3 : w6.cell? ⟨w4.heap.size, 3, none⟩ = some (.int .i64 0) := BXd6.out.cell 3
  have yd4 : w6.cell? ⟨w4.heap.size, 4, none⟩ = some (.slice Ad2 d.spans.length cd2) := BXd6.out.cell 4
  have yd5 : w6.cell? ⟨w4.heap.size, 5, none⟩ = some (.slice Ad3 d.notes.length cd3) := BXd6.out.cell 5
  go_wp2_with fail
  refine (sections_any b Ad1 Ad2 Ad3 cd1 d.spans.length cd2 d.notes.length cd3 U.vs d.nodes w6 HGd6.out (by have := HF2.out.nl; omega) HF2.out.pos false SD.out).mono ?_
  rintro e1 w7 ⟨rfl, hb7⟩
  have HB7 : Hid (Below w.heap.size w w7) := Lib.hid (HB6.out.trans (hb7.mono HB6.out.size))
  have HL7 := Lib.hid hb7
  clear hb7 yd0 yd1 yd2 yd3 yd4 yd5
  have BXc7 := Lib.hid (BXc6.out.below HL7.out BXc6.out.lt)
  have BXd7 := Lib.hid (BXd6.out.below HL7.out BXd6.out.lt)
  have HGc7 := Lib.hid ((HGc6.out.below HL7.out).more HL7.out.size)
  have HGd7 := Lib.hid ((HGd6.out.below HL7.out).more HL7.out.size)
  have HSd7 := Lib.hid ((HSd6.out.below HL7.out).more HL7.out.size)
  clear BXc6 BXd6 HGc6 HGd6 HSd6
  go_wp2_with fail
  rw [HCAT.out]
  refine (parse_any T3 HAB.out _ (tabs_below HT.out HB7.out hw) (Nat.le_trans hw HB7.out.size) _ HP3.out).mono ?_
  rintro e1 w8 ⟨hb, X, pbx, rfl, hp1⟩
  have HB8 : Hid (Below w.heap.size w w8) := Lib.hid (HB7.out.trans (hb.mono HB7.out.size))
  obtain ⟨Ax1, cx1, e1, hg⟩ := GAt.of_rows hp1.nodes hp1.rows
  obtain ⟨Ax2, cx2, e2, hs⟩ := hp1.spans.form
  obtain ⟨Ax3, cx3, e3, _⟩ := hp1.notes.form
  rw [e1, e2, e3]
  have HL8 := Lib.hid hb
  have HGx := Lib.hid hg
  have HSx := Lib.hid hs
  clear hb hp1 hg hs e1 e2 e3
  go_upto_region 11 with fail
  obtain ⟨w9, hw9⟩ : ∃ w9, w8.alloc (.cells #[.int .i64 3, .string ⟨T3.toArray⟩, .slice Ax1 X.vs.length cx1, .int .i64 0, .slice Ax2 x.spans.length cx2, .slice Ax3 x.notes.length cx3] 29) = w9 := ⟨_, rfl⟩
  have l9 : Below w8.heap.size w8 w9 := by rw [← hw9]; exact (Below.refl _ _).alloc (Nat.le_refl _) _
  have BXx : Hid (Blk w9 w8.heap.size 29 #[.int .i64 3, .string ⟨T3.toArray⟩, .slice Ax1 X.vs.length cx1, .int .i64 0, .slice Ax2 x.spans.length cx2, .slice Ax3 x.notes.length cx3]) := Lib.hid (by rw [← hw9]; exact Blk.new _ _ _)
  have HB9 : Hid (Below w.heap.size w w9) := Lib.hid (HB8.out.trans (l9.mono HB8.out.size))
  have HL9 := Lib.hid l9
  rw [hw9]
  clear hw9 l9
  have BX9lt : Hid (w8.heap.size < w9.heap.size) := Lib.hid BXx.out.lt
  have HGx9 := Lib.hid ((HGx.out.below HL9.out).more HL9.out.size)
  clear HGx HSx
  have HL79 : Hid (Below w7.heap.size w7 w9) := Lib.hid (HL8.out.trans (HL9.out.mono HL8.out.size))
  have BXc9 := Lib.hid (BXc7.out.below HL79.out BXc7.out.lt)
  have BXd9 := Lib.hid (BXd7.out.below HL79.out BXd7.out.lt)
  have HGc9 := Lib.hid ((HGc7.out.below HL79.out).more HL79.out.size)
  have HGd9 := Lib.hid ((HGd7.out.below HL79.out).more HL79.out.size)
  have HSd9 := Lib.hid ((HSd7.out.below HL79.out).more HL79.out.size)
  clear BXc7 BXd7 HGc7 HGd7 HSd7
  have HENc : Hid (∀ W, Below w9.heap.size w9 W → Calls Tryd.prog 15 #[.agg #[.int .i64 3, .string ⟨(a ++ [10]).toArray⟩, .slice Ac1 V.vs.length cc1, .int .i64 0, .slice Ac2 c.spans.length cc2, .slice Ac3 c.notes.length cc3]] W (fun e w' => Below w9.heap.size w9 w' ∧ Below W.heap.size W w' ∧ ∃ v, e = .returned v ∧ OwnRow pairL w' W.heap.size 43 v P)) := Lib.hid (fun W hW =>
    (entries_any (a ++ [10]) Ac1 Ac2 Ac3 cc1 c.spans.length cc2 c.notes.length cc3 V.vs c.nodes P W ((HGc9.out.below hW).more hW.size) (by have := HF1.out.nl; omega) FC.out (by omega)).mono (fun e w' h => ⟨hW.trans (h.1.mono hW.size), h.1, h.2⟩))
  have HENd : Hid (∀ W, Below w9.heap.size w9 W → Calls Tryd.prog 15 #[.agg #[.int .i64 3, .string ⟨b.toArray⟩, .slice Ad1 U.vs.length cd1, .int .i64 0, .slice Ad2 d.spans.length cd2, .slice Ad3 d.notes.length cd3]] W (fun e w' => Below w9.heap.size w9 w' ∧ Below W.heap.size W w' ∧ ∃ v, e = .returned v ∧ OwnRow pairL w' W.heap.size 43 v Q)) := Lib.hid (fun W hW =>
    (entries_any b Ad1 Ad2 Ad3 cd1 d.spans.length cd2 d.notes.length cd3 U.vs d.nodes Q W ((HGd9.out.below hW).more hW.size) (by have := HF2.out.nl; omega) FD.out (by omega)).mono (fun e w' h => ⟨hW.trans (h.1.mono hW.size), h.1, h.2⟩))
  have HS : Hid (∀ W, Below w9.heap.size w9 W → W.cell? ⟨w2.heap.size, 0, none⟩ = some (.int .i64 3) ∧ W.cell? ⟨w2.heap.size, 1, none⟩ = some (.string ⟨(a ++ [10]).toArray⟩) ∧ W.cell? ⟨w2.heap.size, 2, none⟩ = some (.slice Ac1 V.vs.length cc1) ∧ W.cell? ⟨w2.heap.size, 3, none⟩ = some (.int .i64 0) ∧ W.cell? ⟨w2.heap.size, 4, none⟩ = some (.slice Ac2 c.spans.length cc2) ∧ W.cell? ⟨w2.heap.size, 5, none⟩ = some (.slice Ac3 c.notes.length cc3) ∧ W.cell? ⟨w4.heap.size, 0, none⟩ = some (.int .i64 3) ∧ W.cell? ⟨w4.heap.size, 1, none⟩ = some (.string ⟨b.toArray⟩) ∧ W.cell? ⟨w4.heap.size, 2, none⟩ = some (.slice Ad1 U.vs.length cd1) ∧ W.cell? ⟨w4.heap.size, 3, none⟩ = some (.int .i64 0) ∧ W.cell? ⟨w4.heap.size, 4, none⟩ = some (.slice Ad2 d.spans.length cd2) ∧ W.cell? ⟨w4.heap.size, 5, none⟩ = some (.slice Ad3 d.notes.length cd3)) := Lib.hid (fun W hW => by
    have bc := BXc9.out.below hW BXc9.out.lt
    have bd := BXd9.out.below hW BXd9.out.lt
    exact ⟨bc.cell 0, bc.cell 1, bc.cell 2, bc.cell 3, bc.cell 4, bc.cell 5, bd.cell 0, bd.cell 1, bd.cell 2, bd.cell 3, bd.cell 4, bd.cell 5⟩)
  obtain ⟨yc0, yc1, yc2, yc3, yc4, yc5, yd0, yd1, yd2, yd3, yd4, yd5⟩ := HS.out w9 (Below.refl _ _)
  go_cut [14, 15] (fun s14 s15 wx => JRows w9 wx s14 s15 P Q)
  case first =>
    go_region_held3 (fun w' => w'.cell? ⟨w2.heap.size, 0, none⟩ = some (.int .i64 3) ∧ w'.cell? ⟨w2.heap.size, 1, none⟩ = some (.string ⟨(a ++ [10]).toArray⟩) ∧ w'.cell? ⟨w2.heap.size, 2, none⟩ = some (.slice Ac1 V.vs.length cc1) ∧ w'.cell? ⟨w2.heap.size, 3, none⟩ = some (.int .i64 0) ∧ w'.cell? ⟨w2.heap.size, 4, none⟩ = some (.slice Ac2 c.spans.length cc2) ∧ w'.cell? ⟨w2.heap.size, 5, none⟩ = some (.slice Ac3 c.notes.length cc3) ∧ w'.cell? ⟨w4.heap.size, 0, none⟩ = some (.int .i64 3) ∧ w'.cell? ⟨w4.heap.size, 1, none⟩ = some (.string ⟨b.toArray⟩) ∧ w'.cell? ⟨w4.heap.size, 2, none⟩ = some (.slice Ad1 U.vs.length cd1) ∧ w'.cell? ⟨w4.heap.size, 3, none⟩ = some (.int .i64 0) ∧ w'.cell? ⟨w4.heap.size, 4, none⟩ = some (.slice Ad2 d.spans.length cd2) ∧ w'.cell? ⟨w4.heap.size, 5, none⟩ = some (.slice Ad3 d.notes.length cd3))
      (first | go_keep | (exact HS.out _ (by assumption)))
      (first
        | (go_at_call 15; (with_reducible refine (HENc.out _ ?_).mono ?_); (first | assumption | exact Below.refl _ _ | exact (Below.refl _ _).drew); rintro e1 wc1 ⟨hc9, hcW, vp, rfl, hop⟩)
        | (go_at_call 15; (with_reducible refine (HENd.out _ ?_).mono ?_); (first | assumption | exact Below.refl _ _ | exact (Below.refl _ _).drew); rintro e1 wd1 ⟨hd9, hdW, vq, rfl, hoq⟩))
    all_goals
      go_wp2_with fail
      go_meet
    all_goals first
      | exact ⟨(hop.later hdW).lower (Nat.le_refl _), hoq.lower hc9.size, fun g h1 h2 => absurd (hop.lt g h1).2 (Nat.not_lt.2 (hoq.lt g h2).1), hd9⟩
      | exact ⟨hop.lower hd9.size, (hoq.later hcW).lower (Nat.le_refl _), fun g h1 h2 => absurd (hoq.lt g h2).2 (Nat.not_lt.2 (hop.lt g h1).1), hc9⟩
  case rest =>
    rename_i wOld
    obtain ⟨hp, hq, hne, hb10⟩ := hcut
    have HB10 : Hid (Below w.heap.size w wc) := Lib.hid (HB9.out.trans (hb10.mono HB9.out.size))
    have BXc10 := Lib.hid (BXc9.out.below hb10 BXc9.out.lt)
    have BXd10 := Lib.hid (BXd9.out.below hb10 BXd9.out.lt)
    have BXx10 := Lib.hid (BXx.out.below hb10 BXx.out.lt)
    have HGx10 := Lib.hid ((HGx9.out.below hb10).more hb10.size)
    obtain ⟨Ap, cp, rfl, hpr⟩ := hp.form
    obtain ⟨Aq, cq, rfl, hqr⟩ := hq.form
    have HPR := Lib.hid hpr
    have HQR := Lib.hid hqr
    have HP9 := Lib.hid hp
    have HNE := Lib.hid hne
    have HL10 := Lib.hid hb10
    clear hp hq hne hb10 hpr hqr yc0 yc1 yc2 yc3 yc4 yc5 yd0 yd1 yd2 yd3 yd4 yd5 HENc HENd HS HGc9 HGd9 BXc9 BXd9 BXx HSd9
    go_wp2_with fail
    go_loopw [16] (fun s16 wr => ∃ k n : Nat, k ≤ Q.length ∧ s16 = .int .i64 k ∧ wr = wc.drewN n) (fun s16 _ => Q.length - (intOf s16).toNat)
    case atStart => exact ⟨0, 0, by omega, rfl, rfl⟩
    case round =>
      obtain ⟨k, n, hk, rfl, rfl⟩ := hrel
      by_cases hkQ : k < Q.length
      · have hkI : (k : Int) < (Q.length : Int) := by omega
        go_wp2_with fail
        go_loopw [17] (fun s17 wr => ∃ m n2 : Nat, m ≤ P.length ∧ s17 = .int .i64 m ∧ wr = wc.drewN n2) (fun s17 _ => P.length - (intOf s17).toNat)
        case atStart => exact ⟨0, n, by omega, rfl, rfl⟩
        case round =>
          obtain ⟨m, n2, hm, rfl, rfl⟩ := hrel
          by_cases hmP : m < P.length
          · have hmI : (m : Int) < (P.length : Int) := by omega
            obtain ⟨ap, rfl, _, p0, _⟩ := pair_at HPR.out hmP
            obtain ⟨aq, rfl, _, q0, _⟩ := pair_at HQR.out hkQ
            obtain ⟨u, hu⟩ : ∃ u : List UInt8, P[m].1 = u := ⟨_, rfl⟩
            obtain ⟨v, hv⟩ : ∃ v : List UInt8, Q[k].1 = v := ⟨_, rfl⟩
            rw [hu] at p0
            rw [hv] at q0
            have hxy : ¬ v = u := fun e => HNO.out k hkQ (List.mem_map.2 ⟨P[m], List.getElem_mem _, by rw [hu, hv, e]⟩)
            have t1 : ((⟨v.toArray⟩ : ByteArray) == ⟨u.toArray⟩) = false := by
              show (v.toArray == u.toArray) = false
              rw [beq_eq_false_iff_ne]
              exact fun e => hxy (List.toArray_inj e)
            have t2 : (v == u) = false := by simpa using hxy
            clear hxy hu hv
            go_wp2_with fail
            go_quiet (fail)
            go_wp2_with fail
            go_roundw
            case rel => exact ⟨m + 1, _, by omega, by go_num, rfl⟩
            case measure => simp [intOf]; omega
          · have hmI : ¬ ((m : Int) < (P.length : Int)) := by omega
            go_wp2_with fail
            go_roundw
            case rel => exact ⟨k + 1, n2, by omega, by go_num, rfl⟩
            case measure => simp [intOf]; omega
      · have hkI : ¬ ((k : Int) < (Q.length : Int)) := by omega
        obtain ⟨wn, hwn⟩ : ∃ wn, wc.drewN n = wn := ⟨_, rfl⟩
        have HBn : Hid (Below w.heap.size w wn) := Lib.hid (by rw [← hwn]; exact below_drewN HB10.out n)
        have HPn : Hid (OwnRow pairL wn w9.heap.size 43 (.slice Ap P.length cp) P) := Lib.hid (by rw [← hwn]; exact HP9.out.drewN n)
        have HQn : Hid (RowAt pairL wn wn.heap.size Aq Q) := Lib.hid (by rw [← hwn]; exact HQR.out.drewN n)
        have BXcn : Hid (Blk wn w2.heap.size 29 _) := Lib.hid (by rw [← hwn]; exact BXc10.out)
        have BXdn : Hid (Blk wn w4.heap.size 29 _) := Lib.hid (by rw [← hwn]; exact BXd10.out)
        have BXxn : Hid (Blk wn w8.heap.size 29 _) := Lib.hid (by rw [← hwn]; exact BXx10.out)
        have HLn : Hid (Below w9.heap.size w9 wn) := Lib.hid (by rw [← hwn]; exact below_drewN HL10.out n)
        have lt9 : Hid (w8.heap.size < w9.heap.size) := Lib.hid BX9lt.out
        rw [hwn]
        clear hwn HB10 HP9 HPR HQR BXc10 BXd10 BXx10 HL10
        have hc3 : wn.cell? ⟨w2.heap.size, 4, none⟩ = some (.slice Ac2 c.spans.length cc2) := BXcn.out.cell 4
        have hd3 : wn.cell? ⟨w4.heap.size, 4, none⟩ = some (.slice Ad2 d.spans.length cd2) := BXdn.out.cell 4
        have hx3 : wn.cell? ⟨w8.heap.size, 4, none⟩ = some (.slice Ax2 x.spans.length cx2) := BXxn.out.cell 4
        have hcB : c.spans.length ≤ 1000 := by have := N1.out; omega
        have hdB : d.spans.length ≤ 1000 := by have := N2.out; omega
        have hxB : x.spans.length ≤ 1000 := by have := N3.out; omega
        have hsb : ((x.spans.length : Int) != (c.spans.length : Int) + (d.spans.length : Int) - 1) = false := by
          have := N1.out; have := N2.out; have := N3.out
          rw [bne_eq_false_iff_eq]; omega
        have hsn : (x.spans.length : Int) = (c.spans.length : Int) + (d.spans.length : Int) - 1 := by
          have := N1.out; have := N2.out; have := N3.out
          omega
        have HSN := Lib.hid hsn
        clear hsn
        go_upto_region 22 with fail
        clear hc3 hd3 hx3 hsb
        obtain ⟨M, hM⟩ : ∃ M, P ++ Q = M := ⟨_, rfl⟩
        have HM := Lib.hid hM
        have HML : Hid (M.length ≤ 100000) := Lib.hid (by rw [← hM]; simp; omega)
        have FXM : Hid (Ents x.nodes M) := Lib.hid (by rw [← hM]; exact FX.out)
        clear hM
        go_wp2_with (at_builtin; go_must (refine wpList_append_row _ rfl (.tmp 126) (.tmp 127) 41 43 32 rfl pairT w9.heap.size (.slice Ap P.length cp) P rfl HPn.out _ _ _ Q rfl HQn.out ?_ ?_ ?_))
        · omega
        · exact HLn.out.size
        intro v' w11 hown2 hg2 _
        rw [HM.out] at hown2
        obtain ⟨Al, cl, rfl, hrl⟩ := hown2.form
        have hbel : Below w9.heap.size wn w11 := HPn.out.grown_below hg2 HLn.out.size
        have HL11 : Hid (Below w9.heap.size w9 w11) := Lib.hid (HLn.out.trans hbel)
        have HB11 : Hid (Below w.heap.size w w11) := Lib.hid (HBn.out.trans (hbel.mono HB9.out.size))
        have BXx11 := Lib.hid (BXxn.out.below hbel lt9.out)
        have HRL := Lib.hid hrl
        have yx0 : w11.cell? ⟨w8.heap.size, 0, none⟩ = some (.int .i64 3) := BXx11.out.cell 0
        have yx1 : w11.cell? ⟨w8.heap.size, 1, none⟩ = some (.string ⟨T3.toArray⟩) := BXx11.out.cell 1
        have yx2 : w11.cell? ⟨w8.heap.size, 2, none⟩ = some (.slice Ax1 X.vs.length cx1) := BXx11.out.cell 2
        have yx3 : w11.cell? ⟨w8.heap.size, 3, none⟩ = some (.int .i64 0) := BXx11.out.cell 3
        have yx4 : w11.cell? ⟨w8.heap.size, 4, none⟩ = some (.slice Ax2 x.spans.length cx2) := BXx11.out.cell 4
        have yx5 : w11.cell? ⟨w8.heap.size, 5, none⟩ = some (.slice Ax3 x.notes.length cx3) := BXx11.out.cell 5
        have HEN := Lib.hid (entries_any T3 Ax1 Ax2 Ax3 cx1 x.spans.length cx2 x.notes.length cx3 X.vs x.nodes M w11 ((HGx9.out.below HL11.out).more HL11.out.size) (by have := HF3.out.nl; omega) FXM.out HML.out)
        clear hown2 hg2 hbel hrl
        go_wp2_with fail
        refine HEN.out.mono ?_
        rintro e1 w12 ⟨hb12, v2, rfl, hown3⟩
        have HB12 : Hid (Below w.heap.size w w12) := Lib.hid (HB11.out.trans (hb12.mono HB11.out.size))
        obtain ⟨Am, cm, rfl, hrm⟩ := hown3.form
        have HRM := Lib.hid hrm
        have HRL2 := Lib.hid (HRL.out.below hb12)
        clear hb12 hown3 hrm yx0 yx1 yx2 yx3 yx4 yx5
        go_wp2_with fail
        go_loopw [20] (fun s20 wr => ∃ k n : Nat, k ≤ M.length ∧ s20 = .int .i64 k ∧ wr = w12.drewN n) (fun s20 _ => M.length - (intOf s20).toNat)
        case atStart => exact ⟨0, 0, by omega, rfl, rfl⟩
        case round =>
          obtain ⟨k2, n3, hk2, rfl, rfl⟩ := hrel
          have HMB : M.length ≤ 100000 := HML.out
          by_cases hlt : k2 < M.length
          · have hltI : (k2 : Int) < (M.length : Int) := by omega
            obtain ⟨al, rfl, _, p0, p1⟩ := pair_at HRL2.out hlt
            obtain ⟨am, rfl, _, q0, q1⟩ := pair_at HRM.out hlt
            obtain ⟨⟨e1, e2⟩, he⟩ : ∃ e, M[k2] = e := ⟨_, rfl⟩
            rw [he] at p0 p1 q0 q1
            have heqp : ∀ W, (Op.equalIn 10000 43 (.agg #[.string ⟨e1.toArray⟩, .string ⟨e2.toArray⟩]) (.agg #[.string ⟨e1.toArray⟩, .string ⟨e2.toArray⟩])).run Tryd.prog W = .ok true W := eq_pair (e1, e2) (e1, e2) true (by simp)
            clear he
            go_wp2_with fail
            go_quiet (fail)
            go_wp2_with fail
            go_roundw
            case rel => exact ⟨k2 + 1, _, by omega, by go_num, rfl⟩
            case measure => simp [intOf]; omega
          · have hltI : ¬ ((k2 : Int) < (M.length : Int)) := by omega
            go_wp2_with fail
            (try go_ret)
            exact ⟨rfl, below_drewN HB12.out _⟩
theorem least (p : Nat → Prop) (h : ∃ n, p n) : ∃ n, p n ∧ ∀ m, m < n → ¬ p m := by
  obtain ⟨n, hn⟩ := h
  induction n using Nat.strongRecOn with
  | ind n ih =>
    by_cases h : ∃ m, m < n ∧ p m
    · obtain ⟨m, h1, h2⟩ := h
      exact ih m h1 h2
    · exact ⟨n, hn, fun m h1 h2 => h ⟨m, h1, h2⟩⟩
set_option maxHeartbeats 400000 in
theorem joins_any (a b : Ini.Str) (w : World) (hT : Lib.Utf8Tabs 0 1 w) (hw : 2 ≤ w.heap.size) :
    Calls Tryd.prog 5 #[.string ⟨a.toArray⟩, .string ⟨b.toArray⟩] w fun e w' => e = .returned (.bool true) ∧ Below w.heap.size w w' := by
  by_cases ha : a.length ≤ 300
  · by_cases hb : b.length ≤ 300
    · cases hp1 : Ini.parse (a ++ [10]) with
      | err x1 e1 =>
        cases hp2 : Ini.parse b with
        | err x2 e2 => exact joins_ee a b w hT hw ha hb x1 e1 hp1 x2 e2 hp2
        | ok d => exact joins_eo a b w hT hw ha hb x1 e1 hp1 d hp2
      | ok c =>
        cases hp2 : Ini.parse b with
        | err x2 e2 => exact joins_oe a b w hT hw ha hb c hp1 x2 e2 hp2
        | ok d =>
          cases sc : secB c.nodes with
          | true => exact joins_sc a b w hT hw ha hb c hp1 d hp2 sc
          | false =>
            cases sd : secB d.nodes with
            | true => exact joins_sd a b w hT hw ha hb c hp1 d hp2 sc sd
            | false =>
              obtain ⟨P, Q, K, fc, fd, n1, n2, hPl, hQl, hQK, hK, hok, herr⟩ := Ini.joins_law ha hb hp1 hp2 (secB_no sc) (secB_no sd)
              by_cases hcom : ∃ i, ∃ h : i < Q.length, Q[i].1 ∈ P.map (·.1)
              · obtain ⟨i0, ⟨hi0, hin⟩, hmin⟩ := least _ hcom
                have hno : ∀ j (h : j < Q.length), j < i0 → Q[j].1 ∉ P.map (·.1) := fun j h hj hm => hmin j hj ⟨h, hm⟩
                have hp3 := herr i0 hi0 (by omega) hin (fun j h3 hj => hno j h3 hj)
                have hs : i0 + 1 < d.spans.length := by omega
                refine joins_twice a b w hT hw ha hb c hp1 d hp2 sc sd P Q K fc fd n1 n2 hPl hQl i0 hi0 hin hno (K[i0]'(by omega)) ⟨hs, ?_⟩ hp3
                have h1 : (Ini.kfs d)[i0 + 1]? = some (d.spans[i0 + 1]).keyFrom := by unfold Ini.kfs; rw [List.getElem?_map, List.getElem?_eq_getElem hs]; rfl
                rw [hK, List.getElem?_cons_succ, List.getElem?_eq_getElem (by omega)] at h1
                injection h1 with h1
                exact h1.symm
              · have hno : ∀ j (h : j < Q.length), Q[j].1 ∉ P.map (·.1) := fun j h hm => hcom ⟨j, h, hm⟩
                obtain ⟨x, hx, fx, n3⟩ := hok (fun e he => by
                  obtain ⟨j, hj, rfl⟩ := List.mem_iff_getElem.1 he
                  exact hno j hj)
                exact joins_fine a b w hT hw ha hb c hp1 d hp2 sc sd P Q K fc fd n1 n2 hPl hQl _ rfl x hx fx n3 hno
    · exact joins_long2 a b w hT hw ha hb
  · exact joins_long1 a b w hT hw ha
end Go.Proofs.YtegdemnfjmaicaaDoor
