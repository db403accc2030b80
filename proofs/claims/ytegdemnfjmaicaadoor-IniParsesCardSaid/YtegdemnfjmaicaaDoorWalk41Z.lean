/- Walks: the reference's section. Walks: the reference's section, walked. The reference's entry, plain. -/
import Derived.Test.YtegdemnfjmaicaaDoorWalk40
namespace Go.Proofs.YtegdemnfjmaicaaDoor
open Go.RowKit
theorem radd_any (B rb par node : Nat) (V : PV) (s key text : Ini.Str) (st : Ini.St) (kind sf sz skf skt : Nat) (wh : Bool) (w : World) (h : RAt B V w rb s st) (hf : Fit st) (he : V.e_ = .int .i64 0)
    (hp : par < st.spans.length) (hpn : (st.spans[par]).node = node) (hn : node < st.nodes.length) (R : Ini.Res Ini.St) (hR : Ini.add st node par key ⟨kind, text, [], []⟩ ⟨0, 0, 0, sf, sz, skf, skt, wh⟩ = R) :
    Calls Tryd.prog 46 #[.pointer (some ⟨rb, 0, none⟩), .int .i64 par, .string ⟨key.toArray⟩, .agg (ncells kind text), .agg (scells 0 0 0 sf sz skf skt wh)] w fun e w' => Below B w w' ∧ e = .returned (.tuple #[]) ∧ RAPost B V rb s st R w' := by
  cases hk : Ini.keyIn st.nodes node key with
  | true =>
    have e : R = .err skf 8 := by rw [← hR]; exact add_twice hk
    subst e
    exact radd_twice B rb par node V s key text st kind sf sz skf skt wh w h hf he hp hpn hn hk
  | false =>
    by_cases hm : st.nodes.length + 2 > 4096
    · have e : R = .err skf 7 := by rw [← hR]; exact add_many hk hm
      subst e
      exact radd_many B rb par node V s key text st kind sf sz skf skt wh w h hf he hp hpn hn hk hm
    · have e : R = .ok (addSt st node par key kind text sf sz skf skt wh hn) := by rw [← hR]; exact add_ok hk hm hn rfl
      subst e
      exact radd_ok B rb par node V s key text st kind sf sz skf skt wh w h hf he hp hpn hn hk hm
/-- what a line leaves: the reader after it, or its first failure. -/
def RLPost (B : Nat) (V : PV) (rb : Nat) (s : Ini.Str) (R : Ini.Res Ini.St) (w' : World) : Prop := match R with
  | .err x c => c ≠ 0 ∧ ∃ V' st', RAt B V' w' rb s st' ∧ V'.at_ = .int .i64 (x : Int) ∧ V'.e_ = .int .i64 (c : Int)
  | .ok st' => ∃ V', RAt B V' w' rb s st' ∧ V'.at_ = V.at_ ∧ V'.e_ = .int .i64 0
/-- the first of two failures. -/
def orO (o : Option (Nat × Nat)) (x c : Nat) : Nat × Nat := match o with | some p => p | none => (x, c)
theorem failO_twice (V : PV) (o : Option (Nat × Nat)) (x c : Nat) : failV (true && o.isNone) (failO true V o) x c = failV true V (orO o x c).1 (orO o x c).2 := by
  cases o <;> rfl
theorem failV_cells (V : PV) (x c : Nat) : (failV true V x c).at_ = .int .i64 (x : Int) ∧ (failV true V x c).e_ = .int .i64 (c : Int) := ⟨rfl, rfl⟩
/-- a section's line, by the reference's steps. -/
theorem header_rn (st : Ini.St) (s : Ini.Str) (a tz fr ke p q : Nat) (o : Option (Nat × Nat)) (t : Ini.Str) (ha : a < tz) (ht : tz ≤ s.length) (hfr : a + 1 + Ini.nB (seg s (a + 1) tz) = fr) (hX : rn (seg s fr tz) fr tz 93 = (o, t, ke))
    (hp : ke + Ini.nB (seg s ke tz) = p) (hq : p + 1 + Ini.nB (seg s (p + 1) tz) = q) :
    (fr ≤ ke ∧ ke ≤ tz ∧ (∀ x, o = some x → x.2 ≠ 0)) ∧ fr ≤ tz ∧
    (∀ x, o = some x → Ini.header st (seg s a tz) a = .err x.1 x.2) ∧
    (o = none → ¬ (∃ h : p < s.length, p < tz ∧ s[p] = 93) → Ini.header st (seg s a tz) a = .err p 4) ∧
    (o = none → (∃ h : p < s.length, p < tz ∧ s[p] = 93) → q < tz → Ini.header st (seg s a tz) a = .err q 4) ∧
    (o = none → (∃ h : p < s.length, p < tz ∧ s[p] = 93) → ¬ q < tz → Ini.header st (seg s a tz) a = match Ini.add st 0 0 t ⟨10, [], [], []⟩ ⟨0, 0, 0, a, p + 1, fr, ke, false⟩ with
      | .err x e => .err x e
      | .ok st' => .ok { st' with node := st'.nodes.length - 1, span := st'.spans.length - 1 }) := by
  have hfz : fr ≤ tz := by have := nB_le (seg s (a + 1) tz); rw [seg_len s _ tz ht] at this; omega
  have hlen : (seg s fr tz).length = tz - fr := seg_len s fr tz ht
  have hX' : rn (seg s fr tz) fr (fr + (seg s fr tz).length) 93 = (o, t, ke) := by rw [hlen, show fr + (tz - fr) = tz from by omega]; exact hX
  obtain ⟨⟨h1, h2, h3⟩, h4, h5⟩ := name_rn (seg s fr tz) fr 93 (by decide) o t ke hX'
  rw [hlen] at h2
  have hd : ∀ k j, k + j ≤ tz → (seg s k tz).drop j = seg s (k + j) tz := by
    intro k j hk
    unfold seg
    rw [List.drop_drop]
  have e1 : (seg s a tz).drop 1 = seg s (a + 1) tz := hd a 1 (by omega)
  have e2 : (seg s (a + 1) tz).drop (Ini.nB (seg s (a + 1) tz)) = seg s fr tz := by rw [hd _ _ (by omega), hfr]
  have hto : ke ≤ tz := by omega
  have e3 : (seg s fr tz).drop (ke - fr) = seg s ke tz := by rw [hd _ _ (by omega)]; congr 1; omega
  have hpz : p ≤ tz := by have := nB_le (seg s ke tz); rw [seg_len s _ tz ht] at this; omega
  have e4 : (seg s fr tz).drop (ke - fr + Ini.nB (seg s ke tz)) = seg s p tz := by rw [hd _ _ (by omega)]; congr 1; omega
  have hhead : ∀ c, ((seg s p tz).head? = some c) ↔ (∃ h : p < s.length, p < tz ∧ s[p] = c) := by
    intro c
    by_cases hpt : p < tz
    · rw [seg_cons s p tz hpt ht]
      simp only [List.head?_cons, Option.some.injEq]
      exact ⟨fun e => ⟨by omega, hpt, e⟩, fun ⟨_, _, e⟩ => e⟩
    · have : seg s p tz = [] := seg_nil s _ _ (by omega)
      rw [this]
      simp
      intro _ h
      omega
  rw [e3, hp, e4] at h5
  refine ⟨⟨h1, hto, h3⟩, hfz, ?_, ?_, ?_, ?_⟩
  · intro x hx
    unfold Ini.header
    simp only [e1, e2, hfr, h4 x hx]
  · intro ho hno
    have := h5 ho
    rw [if_neg (fun e => hno ((hhead 93).1 e))] at this
    unfold Ini.header
    simp only [e1, e2, hfr, this]
  · intro ho hyes hqt
    have := h5 ho
    rw [if_pos ((hhead 93).2 hyes)] at this
    obtain ⟨_, hpt, _⟩ := hyes
    have e5 : (seg s a tz).drop (p + 1 - a) = seg s (p + 1) tz := by rw [hd _ _ (by omega)]; congr 1; omega
    have hl := seg_len s (p + 1) tz ht
    unfold Ini.header
    simp only [e1, e2, hfr, this, e5]
    rw [if_pos (by omega), hq]
  · intro ho hyes hqt
    have := h5 ho
    rw [if_pos ((hhead 93).2 hyes)] at this
    obtain ⟨_, hpt, _⟩ := hyes
    have e5 : (seg s a tz).drop (p + 1 - a) = seg s (p + 1) tz := by rw [hd _ _ (by omega)]; congr 1; omega
    have hl := seg_len s (p + 1) tz ht
    have hle := nB_le (seg s (p + 1) tz)
    unfold Ini.header
    simp only [e1, e2, hfr, this, e5]
    rw [if_neg (by omega)]
    rfl
end Go.Proofs.YtegdemnfjmaicaaDoor
namespace Go.Proofs.YtegdemnfjmaicaaDoor
open Go.RowKit
theorem orO_ne (o : Option (Nat × Nat)) (ho : ∀ x, o = some x → x.2 ≠ 0) (x c : Nat) (hc : c ≠ 0) : (orO o x c).2 ≠ 0 := by
  cases o with
  | none => exact hc
  | some p => exact ho p rfl
theorem RAt.node {B : Nat} {V : PV} {w : World} {rb : Nat} {s : Ini.Str} {st : Ini.St} (h : RAt B V w rb s st) (n : Nat) : RAt B V w rb s { st with node := n } :=
  ⟨h.le, h.base, h.blk, h.nodes, h.spans, h.notes, h.rows⟩
theorem add_err_ne {st : Ini.St} {node span : Nat} {key : Ini.Str} {n : Ini.Nd} {x : Ini.Sp} (hn : node < st.nodes.length) {a c : Nat} (h : Ini.add st node span key n x = .err a c) : c ≠ 0 := by
  unfold Ini.add at h
  rw [List.getElem?_eq_getElem hn] at h
  split at h
  · injection h with _ h; omega
  · split at h
    · injection h with _ h; omega
    · simp at h
theorem add_ok_len {st st' : Ini.St} {node span : Nat} {key : Ini.Str} {n : Ini.Nd} {x : Ini.Sp} (hn : node < st.nodes.length) (h : Ini.add st node span key n x = .ok st') : st'.spans.length = st.spans.length + 1 := by
  unfold Ini.add at h
  rw [List.getElem?_eq_getElem hn] at h
  split at h
  · cases h
  · split at h
    · cases h
    · injection h with h
      rw [← h]
      simp
set_option maxRecDepth 100000 in
set_option maxHeartbeats 4000000 in
theorem rsection_any (B rb a tz : Nat) (V : PV) (s : Ini.Str) (st : Ini.St) (w : World) (h : RAt B V w rb s st) (hf : Fit st) (he : V.e_ = .int .i64 0) (h0 : ∃ h : 0 < st.spans.length, (st.spans[0]).node = 0)
    (ha : a < tz) (ht : tz ≤ s.length) (hs : s.length ≤ 1073741823) (R : Ini.Res Ini.St) (hR : Ini.header st (seg s a tz) a = R) :
    Calls Tryd.prog 33 #[.pointer (some ⟨rb, 0, none⟩), .int .i64 a, .int .i64 tz] w fun e w' => Below B w w' ∧ e = .returned (.tuple #[]) ∧ RLPost B V rb s R w' := by
  obtain ⟨fr, hfr⟩ : ∃ fr, a + 1 + Ini.nB (seg s (a + 1) tz) = fr := ⟨_, rfl⟩
  obtain ⟨o, t, ke, hX⟩ : ∃ o t ke, rn (seg s fr tz) fr tz 93 = (o, t, ke) := ⟨_, _, _, rfl⟩
  obtain ⟨p, hp⟩ : ∃ p, ke + Ini.nB (seg s ke tz) = p := ⟨_, rfl⟩
  obtain ⟨q, hq⟩ : ∃ q, p + 1 + Ini.nB (seg s (p + 1) tz) = q := ⟨_, rfl⟩
  obtain ⟨⟨k1, k2, k3⟩, hfz, g1, g2, g3, g4⟩ := header_rn st s a tz fr ke p q o t ha ht hfr hX hp hq
  rw [hR] at g1 g2 g3 g4
  have hpz : p ≤ tz := by have := nB_le (seg s ke tz); rw [seg_len s _ tz ht] at this; omega
  have HG1 := Lib.hid g1
  have HG2 := Lib.hid g2
  have HG3 := Lib.hid g3
  have HG4 := Lib.hid g4
  have HK3 := Lib.hid k3
  have HFR := Lib.hid hfr
  have HX := Lib.hid hX
  have HP := Lib.hid hp
  have HQ := Lib.hid hq
  have HA := Lib.hid h
  have HF := Lib.hid hf
  have HE := Lib.hid he
  have H0 := Lib.hid h0
  have hsrc := h.src
  clear g1 g2 g3 g4 k3 hfr hX hp hq h hf he h0 hR
  have hname := rname_any B rb fr tz 93 V s st w HA.out hfz ht hs true HE.out o t ke HX.out
  have e93 : (((93 : UInt8).toNat : Nat) : Int) = 93 := rfl
  rw [e93] at hname
  have HN := Lib.hid hname
  clear hname e93
  go_enter Tryd.func33, Tryd.ntmps33
  go_wp2_with fail
  refine (rblanks_any (a + 1) tz s (by omega) ht (by omega) _ fr HFR.out).mono ?_
  rintro e w2 ⟨rfl, rfl⟩
  go_wp2_with fail
  refine HN.out.mono ?_
  rintro e w3 ⟨hb3, rfl, h3⟩
  have HB3 := Lib.hid hb3
  have HA3 := Lib.hid h3
  have HZ3 := Lib.hid (E0_fail true V HE.out o HK3.out)
  clear hb3 h3 hsrc HN
  go_wp2_with fail
  refine (rblanks_any ke tz s k2 ht (by omega) _ p HP.out).mono ?_
  rintro e w4 ⟨rfl, rfl⟩
  by_cases hyes : ∃ h : p < s.length, p < tz ∧ s[p] = 93
  · have HYES := Lib.hid hyes
    obtain ⟨hps, hpt, h93⟩ := hyes
    have hptI : (p : Int) < (tz : Int) := by omega
    have hpsI : (p : Int) < (s.length : Int) := by omega
    have hpge : ¬ ((tz : Int) ≤ (p : Int)) := by omega
    have hpgeb : decide ((tz : Int) ≤ (p : Int)) = false := by simpa using hpge
    have p1 := byte_is s p hps _ 93 93 rfl h93 rfl
    have p1b := byte_isb s p hps _ 93 93 rfl h93 rfl
    have p1c := bne_of_isb p1b
    have hqz : q ≤ tz := by have := nB_le (seg s (p + 1) tz); rw [seg_len s _ tz ht] at this; have := HQ.out; omega
    clear h93
    go_wp2_with fail
    refine (rblanks_any (p + 1) tz s (by omega) ht (by omega) _ q HQ.out).mono ?_
    rintro e w5 ⟨rfl, rfl⟩
    by_cases hqt : q < tz
    · have hqI : (q : Int) < (tz : Int) := by omega
      have HR : Hid (R = .err (orO o q 4).1 (orO o q 4).2) := Lib.hid (by
        cases o with
        | none => exact HG3.out rfl HYES.out hqt
        | some x => exact HG1.out x rfl)
      have HC := Lib.hid (orO_ne o HK3.out q 4 (by decide))
      go_wp2_with fail
      refine (rfail_any B rb q 4 _ s st _ HA3.out _ HZ3.out).mono ?_
      rintro e w5 ⟨rfl, hb5, h5⟩
      rw [failO_twice] at h5
      obtain ⟨x, hx⟩ : ∃ x, orO o q 4 = x := ⟨_, rfl⟩
      rw [hx] at h5 HR HC
      have c8 : w5.cell? ⟨rb, 8, none⟩ = some (.int .i64 (x.2 : Int)) := h5.blk.cell 8
      obtain ⟨c, hc⟩ : ∃ c, x.2 = c := ⟨_, rfl⟩
      rw [hc] at c8 HC
      have hc0 := HC.out
      have z1 : ¬ ((c : Int) = 0) := by omega
      have z1b : ((c : Int) == 0) = false := by simpa using z1
      have z1c := bne_of_nob z1b
      have H5 := Lib.hid h5
      have HB5 := Lib.hid hb5
      have HCC := Lib.hid hc
      clear hb5 h5 hx hc
      go_wp2_with fail
      refine bodyPost_ret (v := .tuple #[]) (by simp [results, Tryd.results33, go_sem]) rfl ?_
      rw [HR.out]
      exact ⟨HB3.out.trans HB5.out, rfl, by rw [HCC.out]; exact hc0, _, _, H5.out, rfl, rfl⟩
    · have hqI : ¬ ((q : Int) < (tz : Int)) := by omega
      have hqb : decide ((q : Int) < (tz : Int)) = false := by simpa using hqI
      have HQT := Lib.hid hqt
      cases o with
      | some x =>
        have c8 : w3.cell? ⟨rb, 8, none⟩ = some (.int .i64 (x.2 : Int)) := HA3.out.blk.cell 8
        have hc0 := HK3.out x rfl
        obtain ⟨c, hc⟩ : ∃ c, x.2 = c := ⟨_, rfl⟩
        rw [hc] at c8 hc0
        have z1 : ¬ ((c : Int) = 0) := by omega
        have z1b : ((c : Int) == 0) = false := by simpa using z1
        have z1c := bne_of_nob z1b
        have HCC := Lib.hid hc
        clear hc hqt
        go_wp2_with fail
        refine bodyPost_ret (v := .tuple #[]) (by simp [results, Tryd.results33, go_sem]) rfl ?_
        rw [HG1.out x rfl]
        exact ⟨HB3.out, rfl, by rw [HCC.out]; exact hc0, _, _, HA3.out, rfl, rfl⟩
      | none =>
        have c8 : w3.cell? ⟨rb, 8, none⟩ = some (.int .i64 0) := by rw [HA3.out.blk.cell 8]; show some V.e_ = _; rw [HE.out]
        have HAV : Hid (RAt B V w3 rb s st) := Lib.hid HA3.out
        obtain ⟨R1, hR1⟩ : ∃ R1, Ini.add st 0 0 t ⟨10, [], [], []⟩ ⟨0, 0, 0, a, p + 1, fr, ke, false⟩ = R1 := ⟨_, rfl⟩
        have hRR := HG4.out rfl HYES.out HQT.out
        rw [hR1] at hRR
        have HRR := Lib.hid hRR
        have HR1 := Lib.hid hR1
        have hadd := radd_any B rb 0 0 V s t [] st 10 a (p + 1) fr ke false w3 HAV.out HF.out HE.out H0.out.1 H0.out.2 HF.out.pos R1 HR1.out
        have HADD := Lib.hid hadd
        clear hadd hR1 hRR hqt
        go_wp2_with fail
        refine HADD.out.mono ?_
        rintro e w4 ⟨hb4, rfl, h4⟩
        have HB4 := Lib.hid hb4
        have hnx : ∃ V3 st3, RAt B V3 w4 rb s st3 ∧ (0 < st3.spans.length ∧ st3.spans.length ≤ 8192) ∧ (∀ w', RAt B V3 w' rb s { st3 with span := st3.spans.length - 1 } → RLPost B V rb s R w') := by
          cases R1 with
          | err x c =>
            refine ⟨_, st, h4, ⟨HF.out.span |> Nat.zero_lt_of_lt, by have := HF.out.sl; have := HF.out.nl; omega⟩, fun w' hw => ?_⟩
            rw [HRR.out]
            exact ⟨add_err_ne HF.out.pos HR1.out, _, _, hw, rfl, rfl⟩
          | ok st' =>
            obtain ⟨V', h5, h6, h7⟩ := h4
            refine ⟨V', st', h5, ⟨by have := add_ok_len HF.out.pos HR1.out; omega, by have := add_ok_len HF.out.pos HR1.out; have := HF.out.sl; have := HF.out.nl; omega⟩, fun w' hw => ?_⟩
            rw [HRR.out]
            exact ⟨V', (hw.node (st'.nodes.length - 1)), h6, h7.trans HE.out⟩
        obtain ⟨V3, st3, h3, ⟨hl3, hl4⟩, hpost⟩ := hnx
        obtain ⟨kk, hkk⟩ : ∃ kk, st3.spans.length = kk + 1 := ⟨st3.spans.length - 1, by omega⟩
        obtain ⟨As, cs, hsv, _⟩ := h3.spans.form
        have r4 : w4.cell? ⟨rb, 4, none⟩ = some (.slice As (kk + 1) cs) := by rw [h3.blk.cell 4]; show some V3.sv = _; rw [hsv, hkk]
        have r6 : w4.cell? ⟨rb, 6, none⟩ = some (.int .i64 st3.span) := h3.blk.cell 6
        have pf : ∀ i, w4.frozen? ⟨rb, i, none⟩ = false := h3.blk.frozen
        have hkb : kk ≤ 8192 := by omega
        have hpost2 : ∀ w', RAt B V3 w' rb s { st3 with span := kk } → RLPost B V rb s R w' := by
          intro w' hw
          apply hpost
          rw [hkk]
          exact hw
        have HPOST := Lib.hid hpost2
        have H3 := Lib.hid h3
        have hle := h3.le
        clear hb4 h4 hpost hpost2 h3 hl3 hl4 hkk hsv
        go_wp2_with fail
        (try go_end0)
        exact ⟨(HB3.out.trans HB4.out).setCell (p := ⟨rb, 6, none⟩) hle _, rfl, HPOST.out _ (H3.out.set1 6 (.int .i64 (kk : Int)) V3 { st3 with span := kk } ⟨rfl, rfl, rfl, rfl⟩ ⟨rfl, rfl, rfl⟩ rfl)⟩
  · have HNO := Lib.hid hyes
    have HR : Hid (R = .err (orO o p 4).1 (orO o p 4).2) := Lib.hid (by
      cases o with
      | none => exact HG2.out rfl HNO.out
      | some x => exact HG1.out x rfl)
    have hfin : ∀ w', Below B w3 w' → RAt B (failV (true && o.isNone) (failO true V o) p 4) w' rb s st → Below B w w' ∧ RLPost B V rb s R w' := by
      intro w' hb hr
      rw [failO_twice] at hr
      rw [HR.out]
      exact ⟨HB3.out.trans hb, orO_ne o HK3.out p 4 (by decide), _, _, hr, rfl, rfl⟩
    have HFIN := Lib.hid hfin
    clear hfin
    by_cases hpt : p < tz
    · have hps : p < s.length := by omega
      have h93 : s[p] ≠ 93 := fun e => hyes ⟨hps, hpt, e⟩
      have hptI : (p : Int) < (tz : Int) := by omega
      have hpsI : (p : Int) < (s.length : Int) := by omega
      have hpge : ¬ ((tz : Int) ≤ (p : Int)) := by omega
      have hpgeb : decide ((tz : Int) ≤ (p : Int)) = false := by simpa using hpge
      have p1 := byte_not s p hps _ 93 93 rfl rfl h93
      have p1b := byte_nob s p hps _ 93 93 rfl rfl h93
      have p1c := bne_of_nob p1b
      clear h93 hyes
      go_wp2_with fail
      refine (rfail_any B rb p 4 _ s st _ HA3.out _ HZ3.out).mono ?_
      rintro e w5 ⟨rfl, hb5, h5⟩
      have H5 := Lib.hid (HFIN.out _ hb5 h5)
      clear hb5 h5
      go_wp2_with fail
      refine bodyPost_ret (v := .tuple #[]) (by simp [results, Tryd.results33, go_sem]) rfl ?_
      exact ⟨H5.out.1, rfl, H5.out.2⟩
    · have hpge : (tz : Int) ≤ (p : Int) := by omega
      clear hyes
      go_wp2_with fail
      refine (rfail_any B rb p 4 _ s st _ HA3.out _ HZ3.out).mono ?_
      rintro e w5 ⟨rfl, hb5, h5⟩
      have H5 := Lib.hid (HFIN.out _ hb5 h5)
      clear hb5 h5
      go_wp2_with fail
      refine bodyPost_ret (v := .tuple #[]) (by simp [results, Tryd.results33, go_sem]) rfl ?_
      exact ⟨H5.out.1, rfl, H5.out.2⟩
end Go.Proofs.YtegdemnfjmaicaaDoor
namespace Go.Proofs.YtegdemnfjmaicaaDoor
open Go.RowKit
/-- an entry's value by the reference's steps: its failure, its text, its end. -/
def rv (r : Ini.Str) (b tz : Nat) : Option (Nat × Nat) × Ini.Str × Nat :=
  if r.head? = some 34 then
    match Ini.quoted r b with
    | .err x c => (some (x, c), [], tz)
    | .ok p => (if Ini.nB (r.drop (p.2 - b)) < (r.drop (p.2 - b)).length then some (p.2 + Ini.nB (r.drop (p.2 - b)), 4) else none, p.1, p.2)
  else (none, r.take (Ini.nT r), b + Ini.nT r)
theorem value_rv (r : Ini.Str) (b : Nat) (o : Option (Nat × Nat)) (v : Ini.Str) (la : Nat) (h : rv r b (b + r.length) = (o, v, la)) :
    (b ≤ la ∧ la ≤ b + r.length) ∧ (∀ x, o = some x → x.2 ≠ 0 ∧ Ini.value r b = .err x.1 x.2) ∧ (o = none → Ini.value r b = .ok (v, la)) := by
  unfold rv at h
  unfold Ini.value
  by_cases hq : r.head? = some 34
  · rw [if_pos hq] at h ⊢
    have hne := Ini.head_ne hq
    cases hR : Ini.quoted r b with
    | err x c =>
      rw [hR] at h
      simp only [Prod.mk.injEq] at h
      obtain ⟨rfl, rfl, rfl⟩ := h
      have hc := Ini.quoted_err _ _ _ _ hR
      refine ⟨⟨by omega, Nat.le_refl _⟩, ?_, fun h => by cases h⟩
      intro p hp; injection hp with hp; subst hp
      exact ⟨by rcases hc with rfl | rfl <;> simp, rfl⟩
    | ok p =>
      obtain ⟨t', i'⟩ := p
      rw [hR] at h
      have h1 := Ini.quoted_ok _ _ _ _ hne hR
      by_cases hb : Ini.nB (r.drop (i' - b)) < (r.drop (i' - b)).length
      · simp only [if_pos hb, Prod.mk.injEq] at h
        obtain ⟨rfl, rfl, rfl⟩ := h
        refine ⟨⟨h1.1, h1.2⟩, ?_, fun h => by cases h⟩
        intro p hp; injection hp with hp; subst hp
        exact ⟨by simp, by simp only [if_pos hb]⟩
      · simp only [if_neg hb, Prod.mk.injEq] at h
        obtain ⟨rfl, rfl, rfl⟩ := h
        exact ⟨⟨h1.1, h1.2⟩, (fun p hp => by cases hp), fun _ => by simp only [if_neg hb]⟩
  · rw [if_neg hq] at h ⊢
    simp only [Prod.mk.injEq] at h
    obtain ⟨rfl, rfl, rfl⟩ := h
    have := Ini.nT_le r
    exact ⟨⟨by omega, by omega⟩, (fun p hp => by cases hp), fun _ => rfl⟩
theorem seg_head (s : Ini.Str) (p tz : Nat) (ht : tz ≤ s.length) (c : UInt8) : ((seg s p tz).head? = some c) ↔ (∃ h : p < s.length, p < tz ∧ s[p] = c) := by
  by_cases hpt : p < tz
  · rw [seg_cons s p tz hpt ht]
    simp only [List.head?_cons, Option.some.injEq]
    exact ⟨fun e => ⟨by omega, hpt, e⟩, fun ⟨_, _, e⟩ => e⟩
  · have : seg s p tz = [] := seg_nil s _ _ (by omega)
    rw [this]
    simp
    intro _ h
    omega
/-- an entry's line, by the reference's steps. -/
theorem entry_rn (st : Ini.St) (s : Ini.Str) (a tz ke p fr la : Nat) (o o2 : Option (Nat × Nat)) (t v : Ini.Str) (ha : a < tz) (ht : tz ≤ s.length) (hX : rn (seg s a tz) a tz 61 = (o, t, ke))
    (hp : ke + Ini.nB (seg s ke tz) = p) (hfr : p + 1 + Ini.nB (seg s (p + 1) tz) = fr) (hV : rv (seg s fr tz) fr tz = (o2, v, la)) :
    (a ≤ ke ∧ ke ≤ tz ∧ (∀ x, o = some x → x.2 ≠ 0)) ∧
    (∀ x, o = some x → Ini.entry st (seg s a tz) a = .err x.1 x.2) ∧
    (o = none → ¬ (∃ h : p < s.length, p < tz ∧ s[p] = 61) → Ini.entry st (seg s a tz) a = .err p 4) ∧
    ((∃ h : p < s.length, p < tz ∧ s[p] = 61) → fr ≤ tz ∧ (fr ≤ la ∧ la ≤ tz) ∧ (∀ x, o2 = some x → x.2 ≠ 0) ∧
      (o = none → ∀ x, o2 = some x → Ini.entry st (seg s a tz) a = .err x.1 x.2) ∧
      (o = none → o2 = none → Ini.entry st (seg s a tz) a = match Ini.add st st.node st.span t ⟨5, v, [], []⟩ ⟨0, 0, 0, fr, la, a, ke, true⟩ with
        | .err x e => .err x e
        | .ok st' => if st.span > 0 then .ok { st' with spans := Ini.setTo st'.spans st.span la } else .ok st')) := by
  have hlen : (seg s a tz).length = tz - a := seg_len s a tz ht
  have hX' : rn (seg s a tz) a (a + (seg s a tz).length) 61 = (o, t, ke) := by rw [hlen, show a + (tz - a) = tz from by omega]; exact hX
  obtain ⟨⟨h1, h2, h3⟩, h4, h5⟩ := name_rn (seg s a tz) a 61 (by decide) o t ke hX'
  rw [hlen] at h2
  have hke : ke ≤ tz := by omega
  have e3 : (seg s a tz).drop (ke - a) = seg s ke tz := by rw [seg_drop]; congr 1; omega
  have hpz : p ≤ tz := by have := nB_le (seg s ke tz); rw [seg_len s _ tz ht] at this; omega
  have e4 : (seg s a tz).drop (ke - a + Ini.nB (seg s ke tz)) = seg s p tz := by rw [seg_drop]; congr 1; omega
  rw [e3, hp, e4] at h5
  refine ⟨⟨h1, hke, h3⟩, ?_, ?_, ?_⟩
  · intro x hx
    unfold Ini.entry
    simp only [h4 x hx]
  · intro ho hno
    have := h5 ho
    rw [if_neg (fun e => hno ((seg_head s p tz ht 61).1 e))] at this
    unfold Ini.entry
    simp only [this]
  · intro hyes
    have hpt := hyes.2.1
    have hfz : fr ≤ tz := by have := nB_le (seg s (p + 1) tz); rw [seg_len s _ tz ht] at this; omega
    have hl2 : (seg s fr tz).length = tz - fr := seg_len s fr tz ht
    have hV' : rv (seg s fr tz) fr (fr + (seg s fr tz).length) = (o2, v, la) := by rw [hl2, show fr + (tz - fr) = tz from by omega]; exact hV
    obtain ⟨⟨b1, b2⟩, b3, b4⟩ := value_rv _ _ _ _ _ hV'
    rw [hl2] at b2
    have e5 : (seg s a tz).drop (p + 1 - a) = seg s (p + 1) tz := by rw [seg_drop]; congr 1; omega
    have e6 : (seg s (p + 1) tz).drop (Ini.nB (seg s (p + 1) tz)) = seg s fr tz := by rw [seg_drop, hfr]
    refine ⟨hfz, ⟨b1, by omega⟩, fun x hx => (b3 x hx).1, ?_, ?_⟩
    · intro ho x hx
      have := h5 ho
      rw [if_pos ((seg_head s p tz ht 61).2 hyes)] at this
      unfold Ini.entry
      simp only [this, e5, e6, hfr, (b3 x hx).2]
    · intro ho ho2
      have := h5 ho
      rw [if_pos ((seg_head s p tz ht 61).2 hyes)] at this
      unfold Ini.entry
      simp only [this, e5, e6, hfr, b4 ho2]
      generalize Ini.add _ _ _ _ _ _ = R
      cases R <;> rfl
section
variable {B : Nat} {V : PV} {w : World} {rb : Nat} {s : Ini.Str} {st : Ini.St}
theorem RAt.setTo (h : RAt B V w rb s st) (k tz : Nat) (hk : k < st.spans.length) :
    ∃ g cap cs, w.cell? ⟨rb, 4, none⟩ = some (.slice (some ⟨g, 0, none⟩) st.spans.length cap) ∧ Blk w g 45 cs ∧ k * 9 + 4 < cs.size ∧ B ≤ g ∧
      RAt B V (w.setCell ⟨g, k * 9 + 4, none⟩ (.int .i64 (tz : Int))) rb s { st with spans := Ini.setTo st.spans k tz } := by
  obtain ⟨g, cap, rest, hv, _, hG, hbg, hback⟩ := h.spans.row (by intro e; rw [e] at hk; simp at hk)
  have kT : ∀ t, t ≠ 45 → KeptT t w _ := fun t ht => KeptT.setCell (p := ⟨g, k * 9 + 4, none⟩) hG ht (.int .i64 (tz : Int))
  refine ⟨g, cap, _, by rw [h.blk.cell 4]; show some V.sv = _; rw [hv], hG, ?_, hbg, h.le, by rw [setCell_size]; exact h.base, kT 74 (by decide) _ _ h.blk, h.nodes.kept (kT _ (by decide)), ?_, h.notes.kept (kT _ (by decide)), h.rows.kept (kT _ (by decide))⟩
  · have := spanL.all_len st.spans
    have e : spanL.sz = 9 := rfl
    rw [e] at this
    simp
    omega
  · exact hback _ _ (Ini.setTo_length _ _ _) (spans_to hG k tz hk)
end
end Go.Proofs.YtegdemnfjmaicaaDoor
