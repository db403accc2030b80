/- Walks: the reference's entry. -/
import Derived.Test.YtegdemnfjmaicaaDoorWalk41Z
import Derived.Test.YtegdemnfjmaicaaDoorWalk12
namespace Go.Proofs.YtegdemnfjmaicaaDoor
open Go.RowKit
set_option maxRecDepth 100000 in
set_option maxHeartbeats 4000000 in
theorem rentry_any (B rb a tz : Nat) (V : PV) (s : Ini.Str) (st : Ini.St) (w : World) (h : RAt B V w rb s st) (hf : Fit st) (he : V.e_ = .int .i64 0) (h0 : ∃ h : st.span < st.spans.length, (st.spans[st.span]).node = st.node)
    (ha : a < tz) (ht : tz ≤ s.length) (hs : s.length ≤ 1073741823) (R : Ini.Res Ini.St) (hR : Ini.entry st (seg s a tz) a = R) :
    Calls Tryd.prog 34 #[.pointer (some ⟨rb, 0, none⟩), .int .i64 a, .int .i64 tz] w fun e w' => Below B w w' ∧ e = .returned (.tuple #[]) ∧ RLPost B V rb s R w' := by
  obtain ⟨o, t, ke, hX⟩ : ∃ o t ke, rn (seg s a tz) a tz 61 = (o, t, ke) := ⟨_, _, _, rfl⟩
  obtain ⟨p, hp⟩ : ∃ p, ke + Ini.nB (seg s ke tz) = p := ⟨_, rfl⟩
  obtain ⟨fr, hfr⟩ : ∃ fr, p + 1 + Ini.nB (seg s (p + 1) tz) = fr := ⟨_, rfl⟩
  obtain ⟨o2, v, la, hV⟩ : ∃ o2 v la, rv (seg s fr tz) fr tz = (o2, v, la) := ⟨_, _, _, rfl⟩
  obtain ⟨⟨k1, k2, k3⟩, g1, g2, g3⟩ := entry_rn st s a tz ke p fr la o o2 t v ha ht hX hp hfr hV
  rw [hR] at g1 g2 g3
  have hpz : p ≤ tz := by have := nB_le (seg s ke tz); rw [seg_len s _ tz ht] at this; omega
  have HG1 := Lib.hid g1
  have HG2 := Lib.hid g2
  have HG3 := Lib.hid g3
  have HK3 := Lib.hid k3
  have HFR := Lib.hid hfr
  have HX := Lib.hid hX
  have HP := Lib.hid hp
  have HV := Lib.hid hV
  have HA := Lib.hid h
  have HF := Lib.hid hf
  have HE := Lib.hid he
  have H0 := Lib.hid h0
  have hsrc := h.src
  clear g1 g2 g3 k3 hfr hX hp hV h hf he h0 hR
  have hname := rname_any B rb a tz 61 V s st w HA.out (by omega) ht hs true HE.out o t ke HX.out
  have e61 : (((61 : UInt8).toNat : Nat) : Int) = 61 := rfl
  rw [e61] at hname
  have HN := Lib.hid hname
  clear hname e61
  go_enter Tryd.func34, Tryd.ntmps34
  go_wp2_with fail
  refine HN.out.mono ?_
  rintro e w3 ⟨hb3, rfl, h3⟩
  have HB3 := Lib.hid hb3
  have HA3 := Lib.hid h3
  have HZ3 := Lib.hid (E0_fail true V HE.out o HK3.out)
  clear hb3 h3 hsrc HN
  go_wp2_with fail
  refine (rblanks_any ke tz s k2 ht (by omega) _ p HP.out).mono ?_
  rintro e w4 ⟨rfl, rfl⟩
  by_cases hyes : ∃ h : p < s.length, p < tz ∧ s[p] = 61
  · have HYES := Lib.hid hyes
    obtain ⟨hfz, ⟨hl1, hl2⟩, g4, g5, g6⟩ := HG3.out hyes
    have HG4 := Lib.hid g4
    have HG5 := Lib.hid g5
    have HG6 := Lib.hid g6
    clear g4 g5 g6
    obtain ⟨hps, hpt, h93⟩ := hyes
    have hptI : (p : Int) < (tz : Int) := by omega
    have hpsI : (p : Int) < (s.length : Int) := by omega
    have hpge : ¬ ((tz : Int) ≤ (p : Int)) := by omega
    have hpgeb : decide ((tz : Int) ≤ (p : Int)) = false := by simpa using hpge
    have p1 := byte_is s p hps _ 61 61 rfl h93 rfl
    have p1b := byte_isb s p hps _ 61 61 rfl h93 rfl
    have p1c := bne_of_isb p1b
    clear h93
    go_wp2_with fail
    refine (rblanks_any (p + 1) tz s (by omega) ht (by omega) _ fr HFR.out).mono ?_
    rintro e w5 ⟨rfl, rfl⟩
    clear p1 p1b p1c
    obtain ⟨tr, htr⟩ : ∃ tr, fr + Ini.nT (seg s fr tz) = tr := ⟨_, rfl⟩
    have htr2 : fr ≤ tr ∧ tr ≤ tz := by have := Ini.nT_le (seg s fr tz); rw [seg_len s _ tz ht] at this; omega
    have HTR := Lib.hid htr
    go_wp2_with fail
    refine (rtrim_any fr tz s hfz ht (by omega) _ tr HTR.out).mono ?_
    rintro e w5 ⟨rfl, rfl⟩
    obtain ⟨T, hT⟩ : ∃ T, seg s fr tr = T := ⟨_, rfl⟩
    have hex : (⟨s.toArray⟩ : ByteArray).extract fr tr = ⟨T.toArray⟩ := by rw [extract_seg, hT]
    have x1 : (fr : Int) ≤ (tr : Int) := by omega
    have x2 : (tr : Int) ≤ (s.length : Int) := by omega
    have HT := Lib.hid hT
    clear hT htr
    by_cases hq : ∃ h : fr < s.length, fr < tz ∧ s[fr] = 34
    · have HQ := Lib.hid hq
      obtain ⟨hfs, hft, h34⟩ := hq
      have hftI : (fr : Int) < (tz : Int) := by omega
      have hfsI : (fr : Int) < (s.length : Int) := by omega
      have p1 := byte_is s fr hfs _ 34 34 rfl h34 rfl
      have p1b := byte_isb s fr hfs _ 34 34 rfl h34 rfl
      clear h34
      obtain ⟨RQ, hRQ⟩ : ∃ RQ, Ini.quoted (seg s fr tz) fr = RQ := ⟨_, rfl⟩
      have HRQ := Lib.hid hRQ
      clear hRQ
      go_wp2_with fail
      refine (rquoted_any B rb fr tz _ s st _ HA3.out hft ht hs _ HZ3.out RQ HRQ.out).mono ?_
      rintro e w5 ⟨hb5, hq5⟩
      have HBX : Hid (Below B w3 w5) := Lib.hid hb5
      clear hb5
      cases RQ with
      | err x c =>
        obtain ⟨rfl, h5⟩ := hq5
        have hve : o2 = some (x, c) ∧ [] = v ∧ tz = la := by
          have e := HV.out
          unfold rv at e
          rw [if_pos ((seg_head s fr tz ht 34).2 HQ.out), HRQ.out] at e
          simp only [Prod.mk.injEq] at e
          exact ⟨e.1.symm, e.2.1, e.2.2⟩
        obtain ⟨ho2, rfl, rfl⟩ := hve
        have HO2 := Lib.hid ho2
        have HAO : Hid (RAt B (failO (true && o.isNone) (failO true V o) o2) w5 rb s st) := Lib.hid (by rw [ho2]; exact h5)
        clear h5 ho2
        go_wp2_with fail
        refine (rblanks_any tz tz s (by omega) ht (by omega) _ tz (by rw [seg_nil s _ _ (Nat.le_refl _)]; rfl)).mono ?_
        rintro e w6 ⟨rfl, rfl⟩
        have hEE : (o = none ∧ o2 = none) ∨ ∃ x : Nat × Nat, x.2 ≠ 0 ∧ R = .err x.1 x.2 ∧ RAt B (failV true V x.1 x.2) w5 rb s st := by
          have ha := HAO.out
          cases o with
          | some x => exact .inr ⟨x, HK3.out x rfl, HG1.out x rfl, by cases o2 <;> exact ha⟩
          | none => cases o2 with
            | some y => exact .inr ⟨y, HG4.out y rfl, HG5.out rfl y rfl, ha⟩
            | none => exact .inl ⟨rfl, rfl⟩
        rcases hEE with ⟨_, ho2⟩ | ⟨x, hx2, hRx, hAx⟩
        · rw [HO2.out] at ho2; cases ho2
        · have c8 : w5.cell? ⟨rb, 8, none⟩ = some (.int .i64 (x.2 : Int)) := hAx.blk.cell 8
          obtain ⟨c, hc⟩ : ∃ c, x.2 = c := ⟨_, rfl⟩
          rw [hc] at c8
          have hc0 : c ≠ 0 := by rw [← hc]; exact hx2
          have z1 : ¬ ((c : Int) = 0) := by omega
          have z1b : ((c : Int) == 0) = false := by simpa using z1
          have z1c := bne_of_nob z1b
          have HCC := Lib.hid hc
          have HRX := Lib.hid hRx
          have HAX := Lib.hid hAx
          clear hc hRx hAx hx2
          go_wp2_with fail
          refine bodyPost_ret (v := .tuple #[]) (by simp [results, Tryd.results34, go_sem]) rfl ?_
          rw [HRX.out]
          exact ⟨HB3.out.trans HBX.out, rfl, by rw [HCC.out]; exact hc0, _, _, HAX.out, rfl, rfl⟩
      | ok pq =>
        obtain ⟨t2, i2⟩ := pq
        obtain ⟨rfl, h5⟩ := hq5
        obtain ⟨bb1, bb2⟩ := quoted_bounds s fr tz hft ht t2 i2 HRQ.out
        obtain ⟨q, hqe⟩ : ∃ q, i2 + Ini.nB (seg s i2 tz) = q := ⟨_, rfl⟩
        have HQE := Lib.hid hqe
        have H5 := Lib.hid h5
        have hve : rv (seg s fr tz) fr tz = (if q < tz then some (q, 4) else none, t2, i2) := by
          unfold rv
          rw [if_pos ((seg_head s fr tz ht 34).2 HQ.out), HRQ.out]
          have e : (seg s fr tz).drop (i2 - fr) = seg s i2 tz := by rw [seg_drop]; congr 1; omega
          have hl := seg_len s i2 tz ht
          have hn := nB_le (seg s i2 tz)
          simp only [e, hqe]
          have : (Ini.nB (seg s i2 tz) < (seg s i2 tz).length) ↔ q < tz := by omega
          simp only [this]
        rw [HV.out, Prod.mk.injEq, Prod.mk.injEq] at hve
        obtain ⟨ho2, hv2, hla2⟩ := hve
        have hv2 := hv2.symm
        have hla2 := hla2.symm
        subst hv2
        subst hla2
        clear h5 hqe
        go_wp2_with fail
        refine (rblanks_any i2 tz s bb2 ht (by omega) _ q HQE.out).mono ?_
        rintro e w6 ⟨rfl, rfl⟩
        by_cases hqt : q < tz
        · have hqI : (q : Int) < (tz : Int) := by omega
          rw [if_pos hqt] at ho2
          have HO2 := Lib.hid ho2
          clear hqt ho2
          go_wp2_with fail
          refine (rfail_any B rb q 4 _ s st _ H5.out _ HZ3.out).mono ?_
          rintro e w6 ⟨rfl, hb6, h6⟩
          have HAO : Hid (RAt B (failO (true && o.isNone) (failO true V o) o2) w6 rb s st) := Lib.hid (by rw [HO2.out]; exact h6)
          have HBX : Hid (Below B w3 w6) := Lib.hid (HBX.out.trans hb6)
          clear hb6 h6
          have hEE : (o = none ∧ o2 = none) ∨ ∃ x : Nat × Nat, x.2 ≠ 0 ∧ R = .err x.1 x.2 ∧ RAt B (failV true V x.1 x.2) w6 rb s st := by
            have ha := HAO.out
            cases o with
            | some x => exact .inr ⟨x, HK3.out x rfl, HG1.out x rfl, by cases o2 <;> exact ha⟩
            | none => cases o2 with
              | some y => exact .inr ⟨y, HG4.out y rfl, HG5.out rfl y rfl, ha⟩
              | none => exact .inl ⟨rfl, rfl⟩
          rcases hEE with ⟨_, ho2⟩ | ⟨x, hx2, hRx, hAx⟩
          · rw [HO2.out] at ho2; cases ho2
          · have c8 : w6.cell? ⟨rb, 8, none⟩ = some (.int .i64 (x.2 : Int)) := hAx.blk.cell 8
            obtain ⟨c, hc⟩ : ∃ c, x.2 = c := ⟨_, rfl⟩
            rw [hc] at c8
            have hc0 : c ≠ 0 := by rw [← hc]; exact hx2
            have z1 : ¬ ((c : Int) = 0) := by omega
            have z1b : ((c : Int) == 0) = false := by simpa using z1
            have z1c := bne_of_nob z1b
            have HCC := Lib.hid hc
            have HRX := Lib.hid hRx
            have HAX := Lib.hid hAx
            clear hc hRx hAx hx2
            go_wp2_with fail
            refine bodyPost_ret (v := .tuple #[]) (by simp [results, Tryd.results34, go_sem]) rfl ?_
            rw [HRX.out]
            exact ⟨HB3.out.trans HBX.out, rfl, by rw [HCC.out]; exact hc0, _, _, HAX.out, rfl, rfl⟩
        · have hqI : ¬ ((q : Int) < (tz : Int)) := by omega
          have hqb : decide ((q : Int) < (tz : Int)) = false := by simpa using hqI
          rw [if_neg hqt] at ho2
          have HAO : Hid (RAt B (failO (true && o.isNone) (failO true V o) o2) w5 rb s st) := Lib.hid (by rw [ho2]; exact H5.out)
          clear hqt ho2
          have hEE : (o = none ∧ o2 = none) ∨ ∃ x : Nat × Nat, x.2 ≠ 0 ∧ R = .err x.1 x.2 ∧ RAt B (failV true V x.1 x.2) w5 rb s st := by
            have ha := HAO.out
            cases o with
            | some x => exact .inr ⟨x, HK3.out x rfl, HG1.out x rfl, by cases o2 <;> exact ha⟩
            | none => cases o2 with
              | some y => exact .inr ⟨y, HG4.out y rfl, HG5.out rfl y rfl, ha⟩
              | none => exact .inl ⟨rfl, rfl⟩
          rcases hEE with ⟨ho, ho2⟩ | ⟨x, hx2, hRx, hAx⟩
          · subst ho
            subst ho2
            have HAV : Hid (RAt B V w5 rb s st) := Lib.hid HAO.out
            have c8 : w5.cell? ⟨rb, 8, none⟩ = some (.int .i64 0) := by rw [HAV.out.blk.cell 8]; show some V.e_ = _; rw [HE.out]
            have r6 : w5.cell? ⟨rb, 6, none⟩ = some (.int .i64 st.span) := HAV.out.blk.cell 6
            obtain ⟨R1, hR1⟩ : ∃ R1, Ini.add st st.node st.span t ⟨5, t2, [], []⟩ ⟨0, 0, 0, fr, i2, a, ke, true⟩ = R1 := ⟨_, rfl⟩
            have hRR := HG6.out rfl rfl
            rw [hR1] at hRR
            have HRR := Lib.hid hRR
            have HR1 := Lib.hid hR1
            have HADD := Lib.hid (radd_any B rb st.span st.node V s t t2 st 5 fr i2 a ke true w5 HAV.out HF.out HE.out H0.out.1 H0.out.2 HF.out.node R1 HR1.out)
            clear hR1 hRR
            go_wp2_with fail
            refine HADD.out.mono ?_
            rintro e w7 ⟨hb7, rfl, h7⟩
            have HB7 := Lib.hid hb7
            have hnx : ∃ V3 st3, RAt B V3 w7 rb s st3 ∧ st3.span = st.span ∧ (st.span < st3.spans.length) ∧ (st.span > 0 → ∀ w', RAt B V3 w' rb s { st3 with spans := Ini.setTo st3.spans st.span i2 } → RLPost B V rb s R w') ∧ (¬ st.span > 0 → RLPost B V rb s R w7) := by
              cases R1 with
              | err x c =>
                have hc := add_err_ne HF.out.node HR1.out
                refine ⟨_, st, h7, rfl, HF.out.span, fun _ w' hw => ?_, fun _ => ?_⟩
                · rw [HRR.out]; exact ⟨hc, _, _, hw, rfl, rfl⟩
                · rw [HRR.out]; exact ⟨hc, _, _, h7, rfl, rfl⟩
              | ok st' =>
                obtain ⟨V', h5, h6, h8⟩ := h7
                obtain ⟨_, hspan, _, _⟩ := add_ok_span HF.out.node HR1.out
                have hl := add_ok_len HF.out.node HR1.out
                refine ⟨V', st', h5, hspan, by have := HF.out.span; omega, fun hsp w' hw => ?_, fun hsp => ?_⟩
                · rw [HRR.out]
                  simp only [if_pos hsp]
                  exact ⟨V', hw, h6, h8.trans HE.out⟩
                · rw [HRR.out]
                  simp only [if_neg hsp]
                  exact ⟨V', h5, h6, h8.trans HE.out⟩
            obtain ⟨V3, st3, h3, hspan, hsl, hp1, hp2⟩ := hnx
            have r6 : w7.cell? ⟨rb, 6, none⟩ = some (.int .i64 st.span) := by rw [← hspan]; exact h3.blk.cell 6
            have HP1 := Lib.hid hp1
            have HP2 := Lib.hid hp2
            by_cases hsp : st.span > 0
            · obtain ⟨g, cap, cs, r4, hG, hcs, hbg, hnx⟩ := h3.setTo st.span i2 hsl
              have gc : w7.cell? ⟨g, st.span * 9 + 4, none⟩ = some (cs[st.span * 9 + 4]'hcs) := by rw [hG.cell, Array.getElem?_eq_getElem]
              have gf : ∀ i, w7.frozen? ⟨g, i, none⟩ = false := hG.frozen
              have hspI : (st.span : Int) > 0 := by omega
              have hslI : (st.span : Int) < (st3.spans.length : Int) := by omega
              have HNX := Lib.hid hnx
              have HSP := Lib.hid hsp
              clear hb7 h7 h3 hspan hsl hp1 hp2 hG hnx hsp
              go_wp2_with fail
              go_region
              all_goals
                go_wp2_with fail
                (try go_end0)
                exact ⟨((HB3.out.trans HBX.out).trans (HB7.out.setCell (p := ⟨g, st.span * 9 + 4, none⟩) hbg _)).drew, rfl, HP1.out HSP.out _ (HNX.out.later (Below.refl _ _).drew)⟩
            · have hspI : ¬ ((st.span : Int) > 0) := by omega
              have hspb : decide ((0 : Int) < (st.span : Int)) = false := by simp; omega
              have HSP := Lib.hid hsp
              clear hb7 h7 h3 hspan hsl hp1 hp2 hsp
              go_wp2_with fail
              (try go_end0)
              exact ⟨(HB3.out.trans HBX.out).trans HB7.out, rfl, HP2.out HSP.out⟩
          · have c8 : w5.cell? ⟨rb, 8, none⟩ = some (.int .i64 (x.2 : Int)) := hAx.blk.cell 8
            obtain ⟨c, hc⟩ : ∃ c, x.2 = c := ⟨_, rfl⟩
            rw [hc] at c8
            have hc0 : c ≠ 0 := by rw [← hc]; exact hx2
            have z1 : ¬ ((c : Int) = 0) := by omega
            have z1b : ((c : Int) == 0) = false := by simpa using z1
            have z1c := bne_of_nob z1b
            have HCC := Lib.hid hc
            have HRX := Lib.hid hRx
            have HAX := Lib.hid hAx
            clear hc hRx hAx hx2
            go_wp2_with fail
            refine bodyPost_ret (v := .tuple #[]) (by simp [results, Tryd.results34, go_sem]) rfl ?_
            rw [HRX.out]
            exact ⟨HB3.out.trans HBX.out, rfl, by rw [HCC.out]; exact hc0, _, _, HAX.out, rfl, rfl⟩
    · have hve : o2 = none ∧ T = v ∧ tr = la := by
        have e := HV.out
        unfold rv at e
        rw [if_neg (fun e => hq ((seg_head s fr tz ht 34).1 e))] at e
        simp only [Prod.mk.injEq] at e
        refine ⟨e.1.symm, ?_, HTR.out.symm.trans e.2.2⟩
        rw [← e.2.1, ← HT.out]
        unfold seg
        rw [List.take_drop, List.take_take, Nat.min_eq_left (by have := HTR.out; unfold seg at this; omega)]
        rw [← HTR.out]
        rfl
      obtain ⟨ho2, rfl, rfl⟩ := hve
      have HAO : Hid (RAt B (failO (true && o.isNone) (failO true V o) o2) w3 rb s st) := Lib.hid (by rw [ho2]; exact HA3.out)
      have HBX : Hid (Below B w3 w3) := Lib.hid (Below.refl _ _)
      clear ho2
      by_cases hft : fr < tz
      · have hfs : fr < s.length := by omega
        have h34 : s[fr] ≠ 34 := fun e => hq ⟨hfs, hft, e⟩
        have hftI : (fr : Int) < (tz : Int) := by omega
        have hfsI : (fr : Int) < (s.length : Int) := by omega
        have p1 := byte_not s fr hfs _ 34 34 rfl rfl h34
        have p1b := byte_nob s fr hfs _ 34 34 rfl rfl h34
        clear h34 hq
        have hEE : (o = none ∧ o2 = none) ∨ ∃ x : Nat × Nat, x.2 ≠ 0 ∧ R = .err x.1 x.2 ∧ RAt B (failV true V x.1 x.2) w3 rb s st := by
          have ha := HAO.out
          cases o with
          | some x => exact .inr ⟨x, HK3.out x rfl, HG1.out x rfl, by cases o2 <;> exact ha⟩
          | none => cases o2 with
            | some y => exact .inr ⟨y, HG4.out y rfl, HG5.out rfl y rfl, ha⟩
            | none => exact .inl ⟨rfl, rfl⟩
        rcases hEE with ⟨ho, ho2⟩ | ⟨x, hx2, hRx, hAx⟩
        · subst ho
          subst ho2
          have HAV : Hid (RAt B V w3 rb s st) := Lib.hid HAO.out
          have c8 : w3.cell? ⟨rb, 8, none⟩ = some (.int .i64 0) := by rw [HAV.out.blk.cell 8]; show some V.e_ = _; rw [HE.out]
          have r6 : w3.cell? ⟨rb, 6, none⟩ = some (.int .i64 st.span) := HAV.out.blk.cell 6
          obtain ⟨R1, hR1⟩ : ∃ R1, Ini.add st st.node st.span t ⟨5, T, [], []⟩ ⟨0, 0, 0, fr, tr, a, ke, true⟩ = R1 := ⟨_, rfl⟩
          have hRR := HG6.out rfl rfl
          rw [hR1] at hRR
          have HRR := Lib.hid hRR
          have HR1 := Lib.hid hR1
          have HADD := Lib.hid (radd_any B rb st.span st.node V s t T st 5 fr tr a ke true w3 HAV.out HF.out HE.out H0.out.1 H0.out.2 HF.out.node R1 HR1.out)
          clear hR1 hRR
          go_wp2_with fail
          refine HADD.out.mono ?_
          rintro e w7 ⟨hb7, rfl, h7⟩
          have HB7 := Lib.hid hb7
          have hnx : ∃ V3 st3, RAt B V3 w7 rb s st3 ∧ st3.span = st.span ∧ (st.span < st3.spans.length) ∧ (st.span > 0 → ∀ w', RAt B V3 w' rb s { st3 with spans := Ini.setTo st3.spans st.span tr } → RLPost B V rb s R w') ∧ (¬ st.span > 0 → RLPost B V rb s R w7) := by
            cases R1 with
            | err x c =>
              have hc := add_err_ne HF.out.node HR1.out
              refine ⟨_, st, h7, rfl, HF.out.span, fun _ w' hw => ?_, fun _ => ?_⟩
              · rw [HRR.out]; exact ⟨hc, _, _, hw, rfl, rfl⟩
              · rw [HRR.out]; exact ⟨hc, _, _, h7, rfl, rfl⟩
            | ok st' =>
              obtain ⟨V', h5, h6, h8⟩ := h7
              obtain ⟨_, hspan, _, _⟩ := add_ok_span HF.out.node HR1.out
              have hl := add_ok_len HF.out.node HR1.out
              refine ⟨V', st', h5, hspan, by have := HF.out.span; omega, fun hsp w' hw => ?_, fun hsp => ?_⟩
              · rw [HRR.out]
                simp only [if_pos hsp]
                exact ⟨V', hw, h6, h8.trans HE.out⟩
              · rw [HRR.out]
                simp only [if_neg hsp]
                exact ⟨V', h5, h6, h8.trans HE.out⟩
          obtain ⟨V3, st3, h3, hspan, hsl, hp1, hp2⟩ := hnx
          have r6 : w7.cell? ⟨rb, 6, none⟩ = some (.int .i64 st.span) := by rw [← hspan]; exact h3.blk.cell 6
          have HP1 := Lib.hid hp1
          have HP2 := Lib.hid hp2
          by_cases hsp : st.span > 0
          · obtain ⟨g, cap, cs, r4, hG, hcs, hbg, hnx⟩ := h3.setTo st.span tr hsl
            have gc : w7.cell? ⟨g, st.span * 9 + 4, none⟩ = some (cs[st.span * 9 + 4]'hcs) := by rw [hG.cell, Array.getElem?_eq_getElem]
            have gf : ∀ i, w7.frozen? ⟨g, i, none⟩ = false := hG.frozen
            have hspI : (st.span : Int) > 0 := by omega
            have hslI : (st.span : Int) < (st3.spans.length : Int) := by omega
            have HNX := Lib.hid hnx
            have HSP := Lib.hid hsp
            clear hb7 h7 h3 hspan hsl hp1 hp2 hG hnx hsp
            go_wp2_with fail
            go_region
            all_goals
              go_wp2_with fail
              (try go_end0)
              exact ⟨((HB3.out.trans HBX.out).trans (HB7.out.setCell (p := ⟨g, st.span * 9 + 4, none⟩) hbg _)).drew, rfl, HP1.out HSP.out _ (HNX.out.later (Below.refl _ _).drew)⟩
          · have hspI : ¬ ((st.span : Int) > 0) := by omega
            have hspb : decide ((0 : Int) < (st.span : Int)) = false := by simp; omega
            have HSP := Lib.hid hsp
            clear hb7 h7 h3 hspan hsl hp1 hp2 hsp
            go_wp2_with fail
            (try go_end0)
            exact ⟨(HB3.out.trans HBX.out).trans HB7.out, rfl, HP2.out HSP.out⟩
        · have c8 : w3.cell? ⟨rb, 8, none⟩ = some (.int .i64 (x.2 : Int)) := hAx.blk.cell 8
          obtain ⟨c, hc⟩ : ∃ c, x.2 = c := ⟨_, rfl⟩
          rw [hc] at c8
          have hc0 : c ≠ 0 := by rw [← hc]; exact hx2
          have z1 : ¬ ((c : Int) = 0) := by omega
          have z1b : ((c : Int) == 0) = false := by simpa using z1
          have z1c := bne_of_nob z1b
          have HCC := Lib.hid hc
          have HRX := Lib.hid hRx
          have HAX := Lib.hid hAx
          clear hc hRx hAx hx2
          go_wp2_with fail
          refine bodyPost_ret (v := .tuple #[]) (by simp [results, Tryd.results34, go_sem]) rfl ?_
          rw [HRX.out]
          exact ⟨HB3.out.trans HBX.out, rfl, by rw [HCC.out]; exact hc0, _, _, HAX.out, rfl, rfl⟩
      · have hftI : ¬ ((fr : Int) < (tz : Int)) := by omega
        have hftb : decide ((fr : Int) < (tz : Int)) = false := by simpa using hftI
        clear hq
        have hEE : (o = none ∧ o2 = none) ∨ ∃ x : Nat × Nat, x.2 ≠ 0 ∧ R = .err x.1 x.2 ∧ RAt B (failV true V x.1 x.2) w3 rb s st := by
          have ha := HAO.out
          cases o with
          | some x => exact .inr ⟨x, HK3.out x rfl, HG1.out x rfl, by cases o2 <;> exact ha⟩
          | none => cases o2 with
            | some y => exact .inr ⟨y, HG4.out y rfl, HG5.out rfl y rfl, ha⟩
            | none => exact .inl ⟨rfl, rfl⟩
        rcases hEE with ⟨ho, ho2⟩ | ⟨x, hx2, hRx, hAx⟩
        · subst ho
          subst ho2
          have HAV : Hid (RAt B V w3 rb s st) := Lib.hid HAO.out
          have c8 : w3.cell? ⟨rb, 8, none⟩ = some (.int .i64 0) := by rw [HAV.out.blk.cell 8]; show some V.e_ = _; rw [HE.out]
          have r6 : w3.cell? ⟨rb, 6, none⟩ = some (.int .i64 st.span) := HAV.out.blk.cell 6
          obtain ⟨R1, hR1⟩ : ∃ R1, Ini.add st st.node st.span t ⟨5, T, [], []⟩ ⟨0, 0, 0, fr, tr, a, ke, true⟩ = R1 := ⟨_, rfl⟩
          have hRR := HG6.out rfl rfl
          rw [hR1] at hRR
          have HRR := Lib.hid hRR
          have HR1 := Lib.hid hR1
          have HADD := Lib.hid (radd_any B rb st.span st.node V s t T st 5 fr tr a ke true w3 HAV.out HF.out HE.out H0.out.1 H0.out.2 HF.out.node R1 HR1.out)
          clear hR1 hRR
          go_wp2_with fail
          refine HADD.out.mono ?_
          rintro e w7 ⟨hb7, rfl, h7⟩
          have HB7 := Lib.hid hb7
          have hnx : ∃ V3 st3, RAt B V3 w7 rb s st3 ∧ st3.span = st.span ∧ (st.span < st3.spans.length) ∧ (st.span > 0 → ∀ w', RAt B V3 w' rb s { st3 with spans := Ini.setTo st3.spans st.span tr } → RLPost B V rb s R w') ∧ (¬ st.span > 0 → RLPost B V rb s R w7) := by
            cases R1 with
            | err x c =>
              have hc := add_err_ne HF.out.node HR1.out
              refine ⟨_, st, h7, rfl, HF.out.span, fun _ w' hw => ?_, fun _ => ?_⟩
              · rw [HRR.out]; exact ⟨hc, _, _, hw, rfl, rfl⟩
              · rw [HRR.out]; exact ⟨hc, _, _, h7, rfl, rfl⟩
            | ok st' =>
              obtain ⟨V', h5, h6, h8⟩ := h7
              obtain ⟨_, hspan, _, _⟩ := add_ok_span HF.out.node HR1.out
              have hl := add_ok_len HF.out.node HR1.out
              refine ⟨V', st', h5, hspan, by have := HF.out.span; omega, fun hsp w' hw => ?_, fun hsp => ?_⟩
              · rw [HRR.out]
                simp only [if_pos hsp]
                exact ⟨V', hw, h6, h8.trans HE.out⟩
              · rw [HRR.out]
                simp only [if_neg hsp]
                exact ⟨V', h5, h6, h8.trans HE.out⟩
          obtain ⟨V3, st3, h3, hspan, hsl, hp1, hp2⟩ := hnx
          have r6 : w7.cell? ⟨rb, 6, none⟩ = some (.int .i64 st.span) := by rw [← hspan]; exact h3.blk.cell 6
          have HP1 := Lib.hid hp1
          have HP2 := Lib.hid hp2
          by_cases hsp : st.span > 0
          · obtain ⟨g, cap, cs, r4, hG, hcs, hbg, hnx⟩ := h3.setTo st.span tr hsl
            have gc : w7.cell? ⟨g, st.span * 9 + 4, none⟩ = some (cs[st.span * 9 + 4]'hcs) := by rw [hG.cell, Array.getElem?_eq_getElem]
            have gf : ∀ i, w7.frozen? ⟨g, i, none⟩ = false := hG.frozen
            have hspI : (st.span : Int) > 0 := by omega
            have hslI : (st.span : Int) < (st3.spans.length : Int) := by omega
            have HNX := Lib.hid hnx
            have HSP := Lib.hid hsp
            clear hb7 h7 h3 hspan hsl hp1 hp2 hG hnx hsp
            go_wp2_with fail
            go_region
            all_goals
              go_wp2_with fail
              (try go_end0)
              exact ⟨((HB3.out.trans HBX.out).trans (HB7.out.setCell (p := ⟨g, st.span * 9 + 4, none⟩) hbg _)).drew, rfl, HP1.out HSP.out _ (HNX.out.later (Below.refl _ _).drew)⟩
          · have hspI : ¬ ((st.span : Int) > 0) := by omega
            have hspb : decide ((0 : Int) < (st.span : Int)) = false := by simp; omega
            have HSP := Lib.hid hsp
            clear hb7 h7 h3 hspan hsl hp1 hp2 hsp
            go_wp2_with fail
            (try go_end0)
            exact ⟨(HB3.out.trans HBX.out).trans HB7.out, rfl, HP2.out HSP.out⟩
        · have c8 : w3.cell? ⟨rb, 8, none⟩ = some (.int .i64 (x.2 : Int)) := hAx.blk.cell 8
          obtain ⟨c, hc⟩ : ∃ c, x.2 = c := ⟨_, rfl⟩
          rw [hc] at c8
          have hc0 : c ≠ 0 := by rw [← hc]; exact hx2
          have z1 : ¬ ((c : Int) = 0) := by omega
          have z1b : ((c : Int) == 0) = false := by simpa using z1
          have z1c := bne_of_nob z1b
          have HCC := Lib.hid hc
          have HRX := Lib.hid hRx
          have HAX := Lib.hid hAx
          clear hc hRx hAx hx2
          go_wp2_with fail
          refine bodyPost_ret (v := .tuple #[]) (by simp [results, Tryd.results34, go_sem]) rfl ?_
          rw [HRX.out]
          exact ⟨HB3.out.trans HBX.out, rfl, by rw [HCC.out]; exact hc0, _, _, HAX.out, rfl, rfl⟩
  · have HNO := Lib.hid hyes
    have HR : Hid (R = .err (orO o p 4).1 (orO o p 4).2) := Lib.hid (by
      cases o with
      | none => exact HG2.out rfl HNO.out
      | some x => exact HG1.out x rfl)
    have hfin : ∀ w', Below B w3 w' → RAt B (failV (true && o.isNone) (failO true V o) p 4) w' rb s st → Below B w w' ∧ RLPost B V rb s R w' := by
      intro w' hb hr
      rw [failO_twice] at hr
      rw [HR.out]
      exact ⟨HB3.out.trans hb, orO_ne o HK3.out p 4 (by decide), _, _, hr, rfl, rfl⟩
    have HFIN := Lib.hid hfin
    clear hfin
    by_cases hpt : p < tz
    · have hps : p < s.length := by omega
      have h93 : s[p] ≠ 61 := fun e => hyes ⟨hps, hpt, e⟩
      have hptI : (p : Int) < (tz : Int) := by omega
      have hpsI : (p : Int) < (s.length : Int) := by omega
      have hpge : ¬ ((tz : Int) ≤ (p : Int)) := by omega
      have hpgeb : decide ((tz : Int) ≤ (p : Int)) = false := by simpa using hpge
      have p1 := byte_not s p hps _ 61 61 rfl rfl h93
      have p1b := byte_nob s p hps _ 61 61 rfl rfl h93
      have p1c := bne_of_nob p1b
      clear h93 hyes
      go_wp2_with fail
      refine (rfail_any B rb p 4 _ s st _ HA3.out _ HZ3.out).mono ?_
      rintro e w5 ⟨rfl, hb5, h5⟩
      have H5 := Lib.hid (HFIN.out _ hb5 h5)
      clear hb5 h5
      go_wp2_with fail
      refine bodyPost_ret (v := .tuple #[]) (by simp [results, Tryd.results34, go_sem]) rfl ?_
      exact ⟨H5.out.1, rfl, H5.out.2⟩
    · have hpge : (tz : Int) ≤ (p : Int) := by omega
      clear hyes
      go_wp2_with fail
      refine (rfail_any B rb p 4 _ s st _ HA3.out _ HZ3.out).mono ?_
      rintro e w5 ⟨rfl, hb5, h5⟩
      have H5 := Lib.hid (HFIN.out _ hb5 h5)
      clear hb5 h5
      go_wp2_with fail
      refine bodyPost_ret (v := .tuple #[]) (by simp [results, Tryd.results34, go_sem]) rfl ?_
      exact ⟨H5.out.1, rfl, H5.out.2⟩
end Go.Proofs.YtegdemnfjmaicaaDoor
