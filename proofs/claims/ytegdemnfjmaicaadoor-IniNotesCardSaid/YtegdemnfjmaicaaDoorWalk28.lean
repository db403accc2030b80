/- Walks: IniNotes. -/
import Derived.Test.YtegdemnfjmaicaaDoorPlainN
import Derived.Test.YtegdemnfjmaicaaDoorWalk27
namespace Go.Proofs.YtegdemnfjmaicaaDoor
open Go.RowKit
theorem note_at {w : World} {B : Nat} {A : Option Addr} {l : List Ini.Note} {k : Nat} (h : RowAt noteL w B A l) (hk : k < l.length) : ∃ ad, A = some ad ∧ ad.block < B ∧ w.cell? (ad.add (k * 3)) = some (.int .i64 (l[k].from_ : Int)) ∧
    w.cell? { block := (ad.add (k * 3)).block, off := (ad.add (k * 3)).off + 1 } = some (.int .i64 (l[k].to_ : Int)) ∧ w.cell? { block := (ad.add (k * 3)).block, off := (ad.add (k * 3)).off + 2 } = some (.string ⟨l[k].text.toArray⟩) := by
  obtain ⟨ad, h1, h2, h3, h4⟩ := h.get hk
  exact ⟨ad, h1, h2, h3 _ rfl, h4 1 _ (by omega) rfl, h4 2 _ (by omega) rfl⟩
theorem Ini.Cut.count {r t : Ini.Str} {a : Nat} {ns : List Ini.Note} (h : Ini.Cut r a ns t) : ns.length ≤ r.length := by
  induction h with
  | nil => exact Nat.zero_le _
  | cons n hf ht hx hq hz h ih =>
    obtain ⟨c, y, rfl, _⟩ := hq
    simp only [List.length_append, List.length_cons] at ih ⊢
    omega
/-- what one note gives. -/
theorem cut_step {src t R T : Ini.Str} {at_ k : Nat} {ns : List Ini.Note} (hat : at_ ≤ src.length) (hk : k < ns.length) (hc : Ini.Cut (src.drop at_) at_ (ns.drop k) t) (hT : R ++ t = T) :
    ∃ (f e : Nat) (q t' : Ini.Str) (c : UInt8) (y : Ini.Str), ns[k].from_ = f ∧ ns[k].to_ = e ∧ ns[k].text = q ∧ at_ ≤ f ∧ f < e ∧ e ≤ src.length ∧ seg src f e = q ∧ q = c :: y ∧ (c = 59 ∨ c = 35) ∧
      (∀ h : e < src.length, src[e] = 10 ∨ src[e] = 13) ∧ Ini.Cut (src.drop e) e (ns.drop (k + 1)) t' ∧ (R ++ seg src at_ f) ++ t' = T := by
  rw [List.drop_eq_getElem_cons hk] at hc
  generalize hr : src.drop at_ = r at hc
  generalize hn : ns[k] = n at hc
  cases hc with
  | @cons p q z t _ ns n hf ht hx hq hz h =>
    obtain ⟨c, y, e1, e2⟩ := hq
    have hl : src.length = at_ + p.length + q.length + z.length := by
      have := congrArg List.length hr
      simp only [List.length_drop, List.length_append] at this
      omega
    have hs : src = src.take at_ ++ (p ++ q ++ z) := by rw [← hr]; simp
    have hta : (src.take at_).length = at_ := by rw [List.length_take]; omega
    have hd : ∀ j, src.drop (at_ + j) = (p ++ q ++ z).drop j := by
      intro j
      rw [← hr, List.drop_drop]
    have hz2 : src.drop (at_ + p.length + q.length) = z := by
      rw [show at_ + p.length + q.length = at_ + (p ++ q).length from by simp; omega, hd]
      simp
    refine ⟨_, _, q, t, c, y, rfl, rfl, hx, ?_, ?_, ?_, ?_, e1, e2, ?_, ?_, ?_⟩
    · omega
    · rw [hf, ht, e1]; simp
    · omega
    · rw [hf, ht]
      unfold seg
      rw [List.drop_take, show at_ + p.length + q.length - (at_ + p.length) = q.length from by omega, hd]
      simp
    · intro hlt
      have h0 : src.drop n.to_ = z := by rw [ht]; exact hz2
      have h1 : src[n.to_] = z[0]'(by rw [← h0]; simp; omega) := by simp [← h0]
      rcases hz with rfl | ⟨c, y, rfl, hcy⟩
      · have := congrArg List.length h0
        simp at this; omega
      · rw [h1]; exact hcy
    · rw [ht, hz2]; exact h
    · rw [← hT, hf]
      unfold seg
      rw [List.drop_take, show at_ + p.length - at_ = p.length from by omega, hr]
      simp
set_option maxRecDepth 100000 in
set_option maxHeartbeats 4000000 in
theorem notes_long (src : Ini.Str) (w : World) (hT : Lib.Utf8Tabs 0 1 w) (hw : 2 ≤ w.heap.size) (hl : ¬ src.length ≤ 500) :
    Calls Tryd.prog 8 #[.string ⟨src.toArray⟩] w fun e w' => e = .returned (.bool true) ∧ Below w.heap.size w w' := by
  have HT := Lib.hid hT
  clear hT
  have hlI : (500 : Int) < (src.length : Int) := by omega
  go_enter Tryd.func8, Tryd.ntmps8
  go_wp2_with fail
  refine (awake_any w HT.out hw).mono ?_
  rintro e w1 ⟨rfl, hb1⟩
  have HB1 := Lib.hid hb1
  clear hb1
  go_wp2_with fail
  go_ret
  exact ⟨rfl, HB1.out⟩
set_option maxRecDepth 100000 in
set_option maxHeartbeats 8000000 in
theorem notes_go (src : Ini.Str) (w : World) (hT : Lib.Utf8Tabs 0 1 w) (hw : 2 ≤ w.heap.size) (hl : src.length ≤ 500) :
    Calls Tryd.prog 8 #[.string ⟨src.toArray⟩] w fun e w' => e = .returned (.bool true) ∧ Below w.heap.size w w' := by
  have HT := Lib.hid hT
  clear hT
  have hlI : ¬ ((500 : Int) < (src.length : Int)) := by omega
  go_enter Tryd.func8, Tryd.ntmps8
  go_wp2_with fail
  refine (awake_any w HT.out hw).mono ?_
  rintro e w1 ⟨rfl, hb1⟩
  have HB1 := Lib.hid hb1
  clear hb1
  cases hp : Ini.parse src with
  | err x e =>
    have hne := Ini.parse_ne _ _ _ hp
    have HP := Lib.hid hp
    have k1 : ¬ ((e : Int) = 0) := by omega
    have k1b : ((e : Int) != 0) = true := by simpa using k1
    clear hp hne
    go_wp2_with fail
    refine (parse_any src (by omega) _ (tabs_below HT.out HB1.out hw) (Nat.le_trans hw HB1.out.size) _ HP.out).mono ?_
    rintro e1 w3 ⟨hb3, rfl⟩
    have HB3 : Hid (Below w.heap.size w w3) := Lib.hid (HB1.out.trans (hb3.mono HB1.out.size))
    unfold noDoc
    clear hb3
    go_wp2_with fail
    (try go_ret)
    exact ⟨rfl, HB3.out.alloc HB3.out.size _⟩
  | ok st =>
    obtain ⟨T, st', hcut, hTl, hp2, hnodes, hnn⟩ := Ini.parse_notes (by omega) hp
    have HF := Lib.hid (parse_fit hp)
    have HF' := Lib.hid (parse_fit hp2)
    have HP := Lib.hid hp
    have HP2 := Lib.hid hp2
    have HN := Lib.hid hnodes
    have HNN := Lib.hid hnn
    have hcnt := hcut.count
    have HCUT := Lib.hid hcut
    clear hp hp2 hnodes hnn hcut
    go_wp2_with fail
    refine (parse_any src (by omega) _ (tabs_below HT.out HB1.out hw) (Nat.le_trans hw HB1.out.size) _ HP.out).mono ?_
    rintro e1 w3 ⟨hb3, V, pb, rfl, hp1⟩
    have HB3 : Hid (Below w.heap.size w w3) := Lib.hid (HB1.out.trans (hb3.mono HB1.out.size))
    obtain ⟨A1, c1, e1, hg⟩ := GAt.of_rows hp1.nodes hp1.rows
    obtain ⟨A2, c2, e2, _⟩ := hp1.spans.form
    obtain ⟨A3, c3, e3, hnr⟩ := hp1.notes.form
    rw [e1, e2, e3]
    have HG := Lib.hid hg
    have HNR := Lib.hid hnr
    clear hb3 hp1 hg e1 e2 e3 hnr
    go_upto_region 6 with fail
    obtain ⟨w4, hw4⟩ : ∃ w4, w3.alloc (.cells #[.int .i64 3, .string ⟨src.toArray⟩, .slice A1 V.vs.length c1, .int .i64 0, .slice A2 st.spans.length c2, .slice A3 st.notes.length c3] 29) = w4 := ⟨_, rfl⟩
    have l4 : Below w3.heap.size w3 w4 := by rw [← hw4]; exact (Below.refl _ _).alloc (Nat.le_refl _) _
    have B4 : Hid (Blk w4 w3.heap.size 29 #[.int .i64 3, .string ⟨src.toArray⟩, .slice A1 V.vs.length c1, .int .i64 0, .slice A2 st.spans.length c2, .slice A3 st.notes.length c3]) := Lib.hid (by rw [← hw4]; exact Blk.new _ _ _)
    have HB4 : Hid (Below w.heap.size w w4) := Lib.hid (HB3.out.trans (l4.mono HB3.out.size))
    have HG4 := Lib.hid ((HG.out.below l4).more l4.size)
    have HNR4 := Lib.hid ((HNR.out.below l4).more l4.size)
    rw [hw4]
    clear hw4 l4 HG HNR
    go_wp2_with fail
    go_loopw [6, 7, 8] (fun s6 s7 s8 wr => ∃ (k at_ : Nat) (R t : Ini.Str), k ≤ st.notes.length ∧ s8 = .int .i64 k ∧ s7 = .int .i64 at_ ∧ s6 = .string ⟨R.toArray⟩ ∧ at_ ≤ src.length ∧ Hid (Ini.Cut (src.drop at_) at_ (st.notes.drop k) t) ∧ Hid (R ++ t = T) ∧ Below w4.heap.size w4 wr)
      (fun _ _ s8 _ => (st.notes.length - intOf s8).toNat)
    case atStart => exact ⟨0, 0, [], T, by omega, rfl, rfl, rfl, by omega, HCUT, Lib.hid rfl, Below.refl _ _⟩
    case round =>
      obtain ⟨k, at_, R, t, hk, rfl, rfl, rfl, hat, hcut, hRT, hb⟩ := hrel
      have HBW := Lib.hid hb
      have x5 : wr.cell? ⟨w3.heap.size, 5, none⟩ = some (.slice A3 st.notes.length c3) := (B4.out.below hb B4.out.lt).cell 5
      by_cases hlt : k < st.notes.length
      · obtain ⟨ad, rfl, hab, d0, d1, d2⟩ := note_at ((HNR4.out.below hb).more hb.size) hlt
        obtain ⟨f, e, q, t', c, y, n1, n2, n3, f1, f2, f3, hseg, hq, hc, hend, hcut', hT'⟩ := cut_step hat hlt hcut.out hRT.out
        rw [n1] at d0
        rw [n2] at d1
        rw [n3] at d2
        have hkI : (k : Int) < (st.notes.length : Int) := by omega
        have hex : (⟨src.toArray⟩ : ByteArray).extract f e = ⟨q.toArray⟩ := by rw [extract_seg, hseg]
        have h4 : (q == ((⟨src.toArray⟩ : ByteArray).extract f e).toList) = true := by rw [hex]; simp
        have hq0 : 0 < q.length := by rw [hq]; simp
        have hqc : q[0] = c := by simp [hq]
        have HCUT' := Lib.hid hcut'
        have HT' := Lib.hid hT'
        have HHE := Lib.hid hend
        clear hb n1 n2 n3 hcut hRT hcut' hT' hend hq hseg
        go_upto_region 14 with fail
        obtain ⟨w5, hw5⟩ : ∃ w5, wr.alloc (.cells #[.int .i64 f, .int .i64 e, .string ⟨q.toArray⟩] 54) = w5 := ⟨_, rfl⟩
        have b5 : Blk w5 wr.heap.size 54 #[.int .i64 f, .int .i64 e, .string ⟨q.toArray⟩] := by rw [← hw5]; exact Blk.new _ _ _
        have HB5 : Hid (Below w4.heap.size w4 w5) := Lib.hid (by rw [← hw5]; exact HBW.out.alloc HBW.out.size _)
        have r0 : w5.cell? ⟨wr.heap.size, 0, none⟩ = some (.int .i64 f) := b5.cell 0
        have r1 : w5.cell? ⟨wr.heap.size, 1, none⟩ = some (.int .i64 e) := b5.cell 1
        have r2 : w5.cell? ⟨wr.heap.size, 2, none⟩ = some (.string ⟨q.toArray⟩) := b5.cell 2
        rw [hw5]
        have h1 : ¬ ((f : Int) < (at_ : Int)) := by omega
        have h2 : ¬ ((src.length : Int) < (e : Int)) := by omega
        have h3 : ¬ ((e : Int) ≤ (f : Int)) := by omega
        have f1I : (at_ : Int) ≤ (f : Int) := by omega
        have f2I : (f : Int) < (e : Int) := by omega
        have f4I : (f : Int) ≤ (e : Int) := by omega
        have g1 : decide ((f : Int) < (at_ : Int)) = false := by simpa using f1I
        have g2 : decide ((src.length : Int) < (e : Int)) = false := by simp; omega
        have g3 : decide ((e : Int) ≤ (f : Int)) = false := by simp; omega
        have f3I : (e : Int) ≤ (src.length : Int) := by omega
        clear hw5 b5 d0 d1 d2 x5
        go_cut [78] (fun s78 wx => s78 = .bool false ∧ ∃ n, wx = w5.drewN n)
        case first =>
          rcases hc with rfl | rfl
          · have p1 := byte_is q 0 hq0 59 59 59 rfl hqc rfl
            have p1b := byte_isb q 0 hq0 59 59 59 rfl hqc rfl
            clear hqc
            go_quiet (fail)
            go_wp2_with fail
            go_meet
            exact ⟨rfl, _, rfl⟩
          · have p1 := byte_not q 0 hq0 35 59 59 rfl hqc (by decide)
            have p1b := byte_nob q 0 hq0 35 59 59 rfl hqc (by decide)
            have p2 := byte_is q 0 hq0 35 35 35 rfl hqc rfl
            have p2b := byte_isb q 0 hq0 35 35 35 rfl hqc rfl
            clear hqc
            go_quiet (fail)
            go_wp2_with fail
            go_meet
            exact ⟨rfl, _, rfl⟩
        case rest =>
          obtain ⟨rfl, n, rfl⟩ := hcut
          clear h4 hq0 hqc hex g1 g2 g3 h1 h2 h3 r2
          go_upto_region 16 with fail
          go_cut [97] (fun s97 wx => s97 = .bool false ∧ wx = w5.drewN n)
          case first =>
            by_cases hlt2 : e < src.length
            · have hltI : (e : Int) < (src.length : Int) := by omega
              rcases HHE.out hlt2 with hv | hv
              · have p1 := byte_is src e hlt2 10 10 10 rfl hv rfl
                have p1b := byte_isb src e hlt2 10 10 10 rfl hv rfl
                clear hv
                go_wp2_with fail
                go_meet
                exact ⟨rfl, rfl⟩
              · have p1 := byte_not src e hlt2 13 10 10 rfl hv (by decide)
                have p1b := byte_nob src e hlt2 13 10 10 rfl hv (by decide)
                have p2 := byte_is src e hlt2 13 13 13 rfl hv rfl
                have p2b := byte_isb src e hlt2 13 13 13 rfl hv rfl
                clear hv
                go_wp2_with fail
                go_meet
                exact ⟨rfl, rfl⟩
            · have hltI : ¬ ((e : Int) < (src.length : Int)) := by omega
              have hltb : decide ((e : Int) < (src.length : Int)) = false := by simpa using hltI
              go_wp2_with fail
              go_meet
              exact ⟨rfl, rfl⟩
          case rest =>
            obtain ⟨rfl, rfl⟩ := hcut
            obtain ⟨Pc, hPc⟩ : ∃ Pc, seg src at_ f = Pc := ⟨_, rfl⟩
            have hex2 : (⟨src.toArray⟩ : ByteArray).extract at_ f = ⟨Pc.toArray⟩ := by rw [extract_seg, hPc]
            have HPC := Lib.hid hPc
            have qq : ¬ (9223372036854775807 < R.length + Pc.length) := by
              have := congrArg List.length HT'.out
              simp only [List.length_append] at this
              rw [hPc] at this
              omega
            clear hPc
            go_wp2_with fail
            go_roundw
            case rel => exact ⟨k + 1, e, R ++ Pc, t', by omega, by go_num, rfl, by rw [ba_app], f3, HCUT', Lib.hid (by have := HT'.out; rw [HPC.out] at this; exact this), below_drewN HB5.out _⟩
            case measure => simp [intOf]; omega
      · have hkE : k = st.notes.length := by omega
        have hcf := hcut.out
        rw [hkE, List.drop_length] at hcf
        have hte : t = src.drop at_ := by
          generalize src.drop at_ = rr at hcf
          cases hcf; rfl
        have hex2 : (⟨src.toArray⟩ : ByteArray).extract at_ src.length = ⟨t.toArray⟩ := by
          rw [extract_seg, hte]; unfold seg; rw [List.take_length]
        have happ : (⟨R.toArray⟩ : ByteArray) ++ ⟨t.toArray⟩ = ⟨T.toArray⟩ := by rw [ba_app, hRT.out]
        have qq : ¬ (9223372036854775807 < R.length + t.length) := by
          have := congrArg List.length hRT.out
          simp only [List.length_append] at this
          omega
        have hatI : (at_ : Int) ≤ (src.length : Int) := by omega
        have hkI : ¬ ((k : Int) < (st.notes.length : Int)) := by omega
        have HAPP := Lib.hid happ
        have HBR : Hid (Below w.heap.size w wr) := Lib.hid (HB4.out.trans (HBW.out.mono HB4.out.size))
        have HTL := Lib.hid hTl
        clear hcf hte hcut hRT hb happ hkE hTl
        go_wp2_with fail
        rw [HAPP.out]
        have B4r := Lib.hid (B4.out.below HBW.out B4.out.lt)
        have HG4r := Lib.hid ((HG4.out.below HBW.out).more HBW.out.size)
        refine (parse_any T (by have := HTL.out; omega) _ (tabs_below HT.out HBR.out hw) (Nat.le_trans hw HBR.out.size) _ HP2.out).mono ?_
        rintro e1 w5 ⟨hb5, V', pb', rfl, hp1⟩
        have HB5 : Hid (Below w.heap.size w w5) := Lib.hid (HBR.out.trans (hb5.mono HBR.out.size))
        have B5 := Lib.hid (B4r.out.below hb5 B4r.out.lt)
        have HG5 := Lib.hid ((HG4r.out.below hb5).more hb5.size)
        obtain ⟨A4, c4, e1, hg⟩ := GAt.of_rows hp1.nodes hp1.rows
        obtain ⟨A5, c5, e2, _⟩ := hp1.spans.form
        obtain ⟨A6, c6, e3, _⟩ := hp1.notes.form
        rw [HNN.out] at e3
        rw [e1, e2, e3]
        have HGB := Lib.hid hg
        clear hb5 hp1 hg e1 e2 e3 HG4 B4 B4r HG4r x5
        go_upto_region 21 with fail
        obtain ⟨w6, hw6⟩ : ∃ w6, w5.alloc (.cells #[.int .i64 3, .string ⟨T.toArray⟩, .slice A4 V'.vs.length c4, .int .i64 0, .slice A5 st'.spans.length c5, .slice A6 0 c6] 29) = w6 := ⟨_, rfl⟩
        have l6 : Below w5.heap.size w5 w6 := by rw [← hw6]; exact (Below.refl _ _).alloc (Nat.le_refl _) _
        have b6 : Blk w6 w5.heap.size 29 #[.int .i64 3, .string ⟨T.toArray⟩, .slice A4 V'.vs.length c4, .int .i64 0, .slice A5 st'.spans.length c5, .slice A6 0 c6] := by rw [← hw6]; exact Blk.new _ _ _
        have HB6 : Hid (Below w.heap.size w w6) := Lib.hid (HB5.out.trans (l6.mono HB5.out.size))
        have b5 : Blk w6 w3.heap.size 29 _ := B5.out.below l6 B5.out.lt
        have x2 : w6.cell? ⟨w3.heap.size, 2, none⟩ = some (.slice A1 V.vs.length c1) := b5.cell 2
        have x3 : w6.cell? ⟨w3.heap.size, 3, none⟩ = some (.int .i64 0) := b5.cell 3
        have y2 : w6.cell? ⟨w5.heap.size, 2, none⟩ = some (.slice A4 V'.vs.length c4) := b6.cell 2
        have y3 : w6.cell? ⟨w5.heap.size, 3, none⟩ = some (.int .i64 0) := b6.cell 3
        have y5 : w6.cell? ⟨w5.heap.size, 5, none⟩ = some (.slice A6 0 c6) := b6.cell 5
        have HSG : Hid (Calls Tryd.prog 13 #[.agg #[.slice A1 V.vs.length c1, .int .i64 0], .agg #[.slice A4 V'.vs.length c4, .int .i64 0]] w6 fun e w' => e = .returned (.bool true) ∧ Below w6.heap.size w6 w') := Lib.hid
          (samegraph_any A1 A4 c1 c4 V.vs V'.vs st.nodes st'.nodes w6 ((HG5.out.below l6).more l6.size) ((HGB.out.below l6).more l6.size) (by have := HF.out.nl; omega) true (by rw [HN.out]; simp) HF.out.lists)
        first | rw [hw6] | skip
        clear hw6 l6 b5 b6
        go_wp2_with fail
        refine HSG.out.mono ?_
        rintro e1 w7 ⟨rfl, hb7⟩
        have HB7 : Hid (Below w.heap.size w w7) := Lib.hid (HB6.out.trans (hb7.mono HB6.out.size))
        clear hb7
        go_wp2_with fail
        (try go_ret)
        exact ⟨rfl, HB7.out⟩
set_option maxHeartbeats 400000 in
theorem notes_any (src : Ini.Str) (w : World) (hT : Lib.Utf8Tabs 0 1 w) (hw : 2 ≤ w.heap.size) :
    Calls Tryd.prog 8 #[.string ⟨src.toArray⟩] w fun e w' => e = .returned (.bool true) ∧ Below w.heap.size w w' := by
  by_cases hl : src.length ≤ 500
  · exact notes_go src w hT hw hl
  · exact notes_long src w hT hw hl
end Go.Proofs.YtegdemnfjmaicaaDoor
