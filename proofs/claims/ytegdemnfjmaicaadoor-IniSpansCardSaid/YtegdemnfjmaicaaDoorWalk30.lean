/- Walks: IniSpans, whole. -/
import Derived.Test.YtegdemnfjmaicaaDoorWalk27
import Derived.Test.YtegdemnfjmaicaaDoorWalk29
import Derived.Test.YtegdemnfjmaicaaDoorPlainP
import Derived.IntWalk
namespace Go.Proofs.YtegdemnfjmaicaaDoor
open Go.RowKit
set_option maxRecDepth 100000 in
set_option maxHeartbeats 4000000 in
theorem span_long (src : Ini.Str) (b : Nat) (w : World) (hT : Lib.Utf8Tabs 0 1 w) (hw : 2 ≤ w.heap.size) (hl : ¬ src.length ≤ 500) :
    Calls Tryd.prog 6 #[.string ⟨src.toArray⟩, .int .u8 b] w fun e w' => e = .returned (.bool true) ∧ Below w.heap.size w w' := by
  have HT := Lib.hid hT
  clear hT
  have hlI : (500 : Int) < (src.length : Int) := by omega
  go_enter Tryd.func6, Tryd.ntmps6
  go_wp2_with fail
  refine (awake_any w HT.out hw).mono ?_
  rintro e w1 ⟨rfl, hb1⟩
  have HB1 := Lib.hid hb1
  clear hb1
  go_wp2_with fail
  go_ret
  exact ⟨rfl, HB1.out⟩
set_option maxRecDepth 100000 in
set_option maxHeartbeats 4000000 in
theorem span_err (src : Ini.Str) (b : Nat) (w : World) (hT : Lib.Utf8Tabs 0 1 w) (hw : 2 ≤ w.heap.size) (hl : src.length ≤ 500) (x e : Nat) (hp : Ini.parse src = .err x e) :
    Calls Tryd.prog 6 #[.string ⟨src.toArray⟩, .int .u8 b] w fun e w' => e = .returned (.bool true) ∧ Below w.heap.size w w' := by
  have HT := Lib.hid hT
  clear hT
  have hlI : ¬ ((500 : Int) < (src.length : Int)) := by omega
  have hne := Ini.parse_ne _ _ _ hp
  have HP := Lib.hid hp
  have k1 : ¬ ((e : Int) = 0) := by omega
  have k1b : ((e : Int) != 0) = true := by simpa using k1
  clear hp hne
  go_enter Tryd.func6, Tryd.ntmps6
  go_wp2_with fail
  refine (awake_any w HT.out hw).mono ?_
  rintro e w1 ⟨rfl, hb1⟩
  have HB1 := Lib.hid hb1
  clear hb1
  go_wp2_with fail
  refine (parse_any src (by omega) _ (tabs_below HT.out HB1.out hw) (Nat.le_trans hw HB1.out.size) _ HP.out).mono ?_
  rintro e1 w3 ⟨hb3, rfl⟩
  have HB3 : Hid (Below w.heap.size w w3) := Lib.hid (HB1.out.trans (hb3.mono HB1.out.size))
  unfold noDoc
  clear hb3
  go_wp2_with fail
  (try go_ret)
  exact ⟨rfl, HB3.out.alloc HB3.out.size _⟩
set_option maxRecDepth 100000 in
set_option maxHeartbeats 8000000 in
theorem span_go (src : Ini.Str) (b : Nat) (w : World) (hT : Lib.Utf8Tabs 0 1 w) (hw : 2 ≤ w.heap.size) (hl : src.length ≤ 500) (hb256 : b ≤ 255) (st : Ini.St) (hp : Ini.parse src = .ok st) :
    Calls Tryd.prog 6 #[.string ⟨src.toArray⟩, .int .u8 b] w fun e w' => e = .returned (.bool true) ∧ Below w.heap.size w w' := by
  have HT := Lib.hid hT
  clear hT
  have hlI : ¬ ((500 : Int) < (src.length : Int)) := by omega
  have hpos := Ini.spans_pos hl hp
  have HF := Lib.hid (parse_fit hp)
  have HP := Lib.hid hp
  have HLAW := Lib.hid (Ini.spans_law hl hp)
  obtain ⟨n, hn⟩ : ∃ n, st.spans.length = n := ⟨_, rfl⟩
  rw [hn] at hpos
  have HN := Lib.hid hn
  obtain ⟨k, hk⟩ : ∃ k, b % n = k := ⟨_, rfl⟩
  have hkn : k < n := by rw [← hk]; exact Nat.mod_lt _ hpos
  have hkI : (b : Int).tmod (n : Int) = (k : Int) := by rw [← hk]; rfl
  have hn0 : ¬ ((n : Int) = 0) := by omega
  have hn0N : ¬ (n = 0) := by omega
  have hkM : (b : Int) % (n : Int) = (k : Int) := by rw [← hk]; rfl
  have hwb : IntKind.i64.wrap (b : Int) = (b : Int) := IntWalk.i64_in _ (by omega)
  clear hp hn hk
  go_enter Tryd.func6, Tryd.ntmps6
  go_wp2_with fail
  refine (awake_any w HT.out hw).mono ?_
  rintro e w1 ⟨rfl, hb1⟩
  have HB1 := Lib.hid hb1
  clear hb1
  go_wp2_with fail
  refine (parse_any src (by omega) _ (tabs_below HT.out HB1.out hw) (Nat.le_trans hw HB1.out.size) _ HP.out).mono ?_
  rintro e1 w3 ⟨hb3, V, pb, rfl, hp1⟩
  have HB3 : Hid (Below w.heap.size w w3) := Lib.hid (HB1.out.trans (hb3.mono HB1.out.size))
  obtain ⟨A1, c1, e1, hg⟩ := GAt.of_rows hp1.nodes hp1.rows
  obtain ⟨A2, c2, e2, hsr⟩ := hp1.spans.form
  obtain ⟨A3, c3, e3, hnr⟩ := hp1.notes.form
  rw [e1, e2, e3, HN.out]
  have HG := Lib.hid hg
  have HSR := Lib.hid hsr
  clear hb3 hp1 hg e1 e2 e3 hnr hsr
  go_upto_region 6 with fail
  obtain ⟨w4, hw4⟩ : ∃ w4, w3.alloc (.cells #[.int .i64 3, .string ⟨src.toArray⟩, .slice A1 V.vs.length c1, .int .i64 0, .slice A2 n c2, .slice A3 st.notes.length c3] 29) = w4 := ⟨_, rfl⟩
  have l4 : Below w3.heap.size w3 w4 := by rw [← hw4]; exact (Below.refl _ _).alloc (Nat.le_refl _) _
  have B4 : Hid (Blk w4 w3.heap.size 29 #[.int .i64 3, .string ⟨src.toArray⟩, .slice A1 V.vs.length c1, .int .i64 0, .slice A2 n c2, .slice A3 st.notes.length c3]) := Lib.hid (by rw [← hw4]; exact Blk.new _ _ _)
  have HB4 : Hid (Below w.heap.size w w4) := Lib.hid (HB3.out.trans (l4.mono HB3.out.size))
  have HG4 := Lib.hid ((HG.out.below l4).more l4.size)
  have hsr4 := (HSR.out.below l4).more l4.size
  obtain ⟨ad, rfl, hab, s0, s1, s2, s3, s4, s5, s6, s7, s8⟩ := span_at hsr4 (k := k) (by rw [HN.out]; exact hkn)
  obtain ⟨x, hx⟩ : ∃ x, st.spans[k]'(by rw [HN.out]; exact hkn) = x := ⟨_, rfl⟩
  have hmem : x ∈ st.spans := by rw [← hx]; exact List.getElem_mem _
  rw [hx] at s0 s1 s2 s3 s4 s5 s6 s8
  have p4 : w4.cell? ⟨w3.heap.size, 4, none⟩ = some (.slice (some ad) n c2) := B4.out.cell 4
  have hknI : (k : Int) < (n : Int) := by omega
  have hk0I : (0 : Int) ≤ (k : Int) := by omega
  rw [hw4]
  have HMEM := Lib.hid hmem
  clear hw4 l4 HG hx hsr4 HSR hmem
  go_wp2_with fail
  go_cut [8] (fun s8 wx => ∃ g8, s8 = .pointer (some ⟨g8, 0, none⟩) ∧ Blk wx g8 45 #[.int .i64 x.node, .int .i64 x.parent, .int .i64 x.entry, .int .i64 x.from_, .int .i64 x.to_, .int .i64 x.keyFrom, .int .i64 x.keyTo, .bool false, .bool x.whole] ∧ Below w4.heap.size w4 wx)
  case first =>
    go_region_held3 (fun w' => w'.cell? ⟨w3.heap.size, 4, none⟩ = some (.slice (some ad) n c2) ∧ w'.cell? (ad.add (k * 9)) = some (.int .i64 (x.node : Int)) ∧
      w'.cell? { block := (ad.add (k * 9)).block, off := (ad.add (k * 9)).off + 1 } = some (.int .i64 x.parent) ∧ w'.cell? { block := (ad.add (k * 9)).block, off := (ad.add (k * 9)).off + 2 } = some (.int .i64 (x.entry : Int)) ∧
    w'.cell? { block := (ad.add (k * 9)).block, off := (ad.add (k * 9)).off + 3 } = some (.int .i64 (x.from_ : Int)) ∧ w'.cell? { block := (ad.add (k * 9)).block, off := (ad.add (k * 9)).off + 4 } = some (.int .i64 (x.to_ : Int)) ∧
    w'.cell? { block := (ad.add (k * 9)).block, off := (ad.add (k * 9)).off + 5 } = some (.int .i64 (x.keyFrom : Int)) ∧ w'.cell? { block := (ad.add (k * 9)).block, off := (ad.add (k * 9)).off + 6 } = some (.int .i64 (x.keyTo : Int)) ∧
    w'.cell? { block := (ad.add (k * 9)).block, off := (ad.add (k * 9)).off + 7 } = some (.bool false) ∧ w'.cell? { block := (ad.add (k * 9)).block, off := (ad.add (k * 9)).off + 8 } = some (.bool x.whole))
      (first | go_keep | (simp [go_sem])) (fail)
    all_goals
      go_wp2_with fail
      go_meet
    all_goals exact ⟨_, rfl, Blk.new _ _ _, (((Below.refl _ _).alloc (Nat.le_refl _) _).drew)⟩
  case rest =>
    rename_i wOld
    obtain ⟨g8, rfl, b8, hbc⟩ := hcut
    clear s0 s1 s2 s3 s4 s5 s6 s7 s8 p4
    have HBC : Hid (Below w.heap.size w wc) := Lib.hid (HB4.out.trans (hbc.mono HB4.out.size))
    have B4c := Lib.hid (B4.out.below hbc B4.out.lt)
    have HG5 := Lib.hid ((HG4.out.below hbc).more hbc.size)
    have B8 := Lib.hid b8
    have t8 : wc.cell? ⟨g8, 8, none⟩ = some (.bool x.whole) := b8.cell 8
    clear hbc b8 HG4
    cases hwh : x.whole with
    | false =>
      rw [hwh] at t8
      clear hwh
      go_wp2_with fail
      (try go_ret)
      exact ⟨rfl, HBC.out⟩
    | true =>
      rw [hwh] at t8
      obtain ⟨h1, h2, nd, h3, ⟨st2, h4, h5⟩, h6⟩ := HLAW.out x HMEM.out hwh
      obtain ⟨q, hq⟩ : ∃ q, Ini.sgm src x.from_ x.to_ = q := ⟨_, rfl⟩
      rw [hq] at h4 h6
      obtain ⟨hnl, hne⟩ := List.getElem?_eq_some_iff.1 h3
      have hvl : x.node < V.vs.length := by have := HG5.out.len; omega
      obtain ⟨an, rfl, han, _, n1, _⟩ := node_at HG5.out.row hvl
      rw [(HG5.out.kind x.node hvl hnl).2, hne] at n1
      have m2 : wc.cell? ⟨w3.heap.size, 2, none⟩ = some (.slice (some an) V.vs.length c1) := B4c.out.cell 2
      have t0 : wc.cell? ⟨g8, 0, none⟩ = some (.int .i64 x.node) := B8.out.cell 0
      have t3 : wc.cell? ⟨g8, 3, none⟩ = some (.int .i64 x.from_) := B8.out.cell 3
      have t4 : wc.cell? ⟨g8, 4, none⟩ = some (.int .i64 x.to_) := B8.out.cell 4
      have hvI : (x.node : Int) < (V.vs.length : Int) := by omega
      have h1I : (x.from_ : Int) ≤ (x.to_ : Int) := by omega
      have h2I : (x.to_ : Int) ≤ (src.length : Int) := by omega
      have hex : (⟨src.toArray⟩ : ByteArray).extract x.from_ x.to_ = ⟨q.toArray⟩ := by rw [extract_seg, ← hq]; rfl
      have hql : q.length ≤ 500 := by rw [← hq]; unfold Ini.sgm; rw [List.length_drop, List.length_take]; omega
      have hagain : (⟨#[107, 9, 61, 32, 32]⟩ : ByteArray) ++ ⟨q.toArray⟩ ++ ⟨#[32]⟩ = ⟨(Ini.again q).toArray⟩ := by
        rw [show (⟨#[107, 9, 61, 32, 32]⟩ : ByteArray) = ⟨([107, 9, 61, 32, 32] : Ini.Str).toArray⟩ from rfl, show (⟨#[32]⟩ : ByteArray) = ⟨([32] : Ini.Str).toArray⟩ from rfl, ba_app, ba_app]
        rfl
      have hal : (Ini.again q).length ≤ 65536 := by simp [Ini.again]; omega
      have HAG := Lib.hid hagain
      have HAL := Lib.hid hal
      have HP2 := Lib.hid h4
      have HN2 := Lib.hid h5
      have HH6 := Lib.hid h6
      obtain ⟨t, ht⟩ : ∃ t, nd.text = t := ⟨_, rfl⟩
      rw [ht] at n1
      have HTX := Lib.hid ht
      clear hagain hal h4 h5 h6 ht hne hnl hq h3 hwh
      go_upto_region 13 with fail
      clear t0 t3 t4 t8 m2 n1
      go_wp2_with fail
      rw [HAG.out]
      refine (parse_any (Ini.again q) HAL.out _ (tabs_below HT.out HBC.out hw) (Nat.le_trans hw HBC.out.size) _ HP2.out).mono ?_
      rintro e1 w5 ⟨hb5, V', pb', rfl, hp1⟩
      have HB5 : Hid (Below w.heap.size w w5) := Lib.hid (HBC.out.trans (hb5.mono HBC.out.size))
      obtain ⟨A4, c4, e1, hg⟩ := GAt.of_rows hp1.nodes hp1.rows
      obtain ⟨A5, c5, e2, _⟩ := hp1.spans.form
      obtain ⟨A6, c6, e3, _⟩ := hp1.notes.form
      rw [e1, e2, e3]
      have HGB := Lib.hid hg
      clear hb5 hp1 hg e1 e2 e3
      go_upto_region 14 with fail
      obtain ⟨w6, hw6⟩ : ∃ w6, w5.alloc (.cells #[.int .i64 3, .string ⟨(Ini.again q).toArray⟩, .slice A4 V'.vs.length c4, .int .i64 0, .slice A5 st2.spans.length c5, .slice A6 st2.notes.length c6] 29) = w6 := ⟨_, rfl⟩
      have l6 : Below w5.heap.size w5 w6 := by rw [← hw6]; exact (Below.refl _ _).alloc (Nat.le_refl _) _
      have b6 : Blk w6 w5.heap.size 29 #[.int .i64 3, .string ⟨(Ini.again q).toArray⟩, .slice A4 V'.vs.length c4, .int .i64 0, .slice A5 st2.spans.length c5, .slice A6 st2.notes.length c6] := by rw [← hw6]; exact Blk.new _ _ _
      have HB6 : Hid (Below w.heap.size w w6) := Lib.hid (HB5.out.trans (l6.mono HB5.out.size))
      have y0 : w6.cell? ⟨w5.heap.size, 0, none⟩ = some (.int .i64 3) := b6.cell 0
      have y1 : w6.cell? ⟨w5.heap.size, 1, none⟩ = some (.string ⟨(Ini.again q).toArray⟩) := b6.cell 1
      have y2 : w6.cell? ⟨w5.heap.size, 2, none⟩ = some (.slice A4 V'.vs.length c4) := b6.cell 2
      have y3 : w6.cell? ⟨w5.heap.size, 3, none⟩ = some (.int .i64 0) := b6.cell 3
      have y4 : w6.cell? ⟨w5.heap.size, 4, none⟩ = some (.slice A5 st2.spans.length c5) := b6.cell 4
      have y5 : w6.cell? ⟨w5.heap.size, 5, none⟩ = some (.slice A6 st2.notes.length c6) := b6.cell 5
      have HEN := Lib.hid (entries_any (Ini.again q) A4 A5 A6 c4 st2.spans.length c5 st2.notes.length c6 V'.vs st2.nodes [([107], t)] w6 ((HGB.out.below l6).more l6.size) (by rw [HN2.out]; simp)
        (by rw [HN2.out, HTX.out]; exact ⟨by simp, rfl, rfl, fun i hi h1 h2 => by
          have : i = 0 := by simp at hi; exact hi
          subst this
          exact ⟨rfl, rfl⟩⟩) (by simp))
      first | rw [hw6] | skip
      clear hw6 l6 b6
      go_wp2_with fail
      refine HEN.out.mono ?_
      rintro e1 w7 ⟨hb7, v, rfl, hown⟩
      have HB7 : Hid (Below w.heap.size w w7) := Lib.hid (HB6.out.trans (hb7.mono HB6.out.size))
      obtain ⟨Av, cv, rfl, hrow⟩ := hown.form
      obtain ⟨av, rfl, _, r0, r1⟩ := hrow.get (k := 0) (by simp)
      have r0 : w7.cell? av = some (.string ⟨#[107]⟩) := by have := r0 (.string ⟨#[107]⟩) rfl; simpa [Addr.add] using this
      have r1 : w7.cell? { block := av.block, off := av.off + 1 } = some (.string ⟨t.toArray⟩) := by have := r1 1 (.string ⟨t.toArray⟩) (by omega) rfl; simpa [Addr.add] using this
      clear hb7 hown hrow y0 y1 y2 y3 y4 y5
      have heqp : ∀ W, (Op.equalIn 10000 43 (.agg #[.string ⟨#[107]⟩, .string ⟨t.toArray⟩]) (.agg #[.string ⟨#[107]⟩, .string ⟨t.toArray⟩])).run Tryd.prog W = .ok true W := eq_pair ([107], t) ([107], t) true (by simp)
      go_upto_region 15 with fail
      go_upto_region 17 with fail
      clear r0 r1 heqp
      rcases HH6.out with h34 | hqt
      · obtain ⟨y, hy⟩ : ∃ y, q = 34 :: y := by
          cases q with
          | nil => cases h34
          | cons d y => simp at h34; exact ⟨y, by rw [h34]⟩
        have hq0 : 0 < q.length := by rw [hy]; simp
        have hqc : q[0] = 34 := by simp [hy]
        have hqI : (0 : Int) < (q.length : Int) := by omega
        have p1 := byte_is q 0 hq0 34 34 34 rfl hqc rfl
        have p1b := byte_isb q 0 hq0 34 34 34 rfl hqc rfl
        clear hy hqc h34
        go_wp2_with fail
        all_goals (try go_ret)
        all_goals exact ⟨rfl, HB7.out⟩
      · have hqt : q = t := by rw [← HTX.out]; exact hqt
        subst hqt
        by_cases hq0 : 0 < q.length
        · have hqI : (0 : Int) < (q.length : Int) := by omega
          by_cases hqc : q[0] = 34
          · have p1 := byte_is q 0 hq0 34 34 34 rfl hqc rfl
            have p1b := byte_isb q 0 hq0 34 34 34 rfl hqc rfl
            clear hqc
            go_wp2_with fail
            all_goals (try go_ret)
            all_goals exact ⟨rfl, HB7.out⟩
          · have p1 := byte_not q 0 hq0 _ 34 34 rfl rfl hqc
            have p1b := byte_nob q 0 hq0 _ 34 34 rfl rfl hqc
            clear hqc
            go_wp2_with fail
            all_goals (try go_ret)
            all_goals exact ⟨rfl, HB7.out⟩
        · have hqI : ¬ ((0 : Int) < (q.length : Int)) := by omega
          have hqb : decide ((0 : Int) < (q.length : Int)) = false := by simpa using hqI
          go_wp2_with fail
          all_goals (try go_ret)
          all_goals exact ⟨rfl, HB7.out⟩
set_option maxHeartbeats 400000 in
theorem span_any (src : Ini.Str) (b : Nat) (hb : b ≤ 255) (w : World) (hT : Lib.Utf8Tabs 0 1 w) (hw : 2 ≤ w.heap.size) :
    Calls Tryd.prog 6 #[.string ⟨src.toArray⟩, .int .u8 b] w fun e w' => e = .returned (.bool true) ∧ Below w.heap.size w w' := by
  by_cases hl : src.length ≤ 500
  · cases hp : Ini.parse src with
    | err x e => exact span_err src b w hT hw hl x e hp
    | ok st => exact span_go src b w hT hw hl hb st hp
  · exact span_long src b w hT hw hl
end Go.Proofs.YtegdemnfjmaicaaDoor
