/- Walks: a section's line. -/
import Derived.Test.YtegdemnfjmaicaaDoorAdd
import Derived.Outline
namespace Go.Proofs.YtegdemnfjmaicaaDoor
open Go.RowKit
/-- what add answers once a state is there. -/
theorem add_ok_span {st st' : Ini.St} {node span : Nat} {key : Ini.Str} {n : Ini.Nd} {x : Ini.Sp} (hn : node < st.nodes.length) (h : Ini.add st node span key n x = .ok st') : st'.node = st.node ∧ st'.span = st.span ∧ st'.nodes.length = st.nodes.length + 2 ∧ st'.spans.length = st.spans.length + 1 := by
  rcases Ini.add_cases st node span key n x hn with h1 | h1 | ⟨_, _, h1⟩
  · rw [h1] at h; cases h
  · rw [h1] at h; cases h
  · rw [h1] at h
    injection h with h
    subst h
    exact ⟨rfl, rfl, by simp, by simp⟩
theorem FailPost.lines {B : Nat} {V : PV} {w w1 w' : World} {pb a e : Nat} {s : Ini.Str} {st : Ini.St} (h : FailPost w1 w' pb a e) (hb : Below w.heap.size w w1) (hp : PAt B V w pb s st) : FPost w w' pb a e :=
  (h.kept (hp.later hb).par).from hb
theorem FailAt.lines {B : Nat} {V : PV} {w w1 w' : World} {pb a e : Nat} {s : Ini.Str} {st : Ini.St} (h : FailAt w1 w' pb a e) (hb : Below w.heap.size w w1) (hp : PAt B V w pb s st) : FPost w w' pb a e :=
  (h.kept (hp.later hb).par).from hb
theorem add_yes (B pb node span : Nat) (V : PV) (s : Ini.Str) (st st' : Ini.St) (key : Ini.Str) (kind : Nat) (text : Ini.Str) (sf sz skf skt : Nat) (wh : Bool) (w : World) (hp : PAt B V w pb s st) (hf : Fit st)
    (hn : node < st.nodes.length) (hs : span < st.spans.length) (hR : Ini.add st node span key ⟨kind, text, [], []⟩ ⟨0, 0, 0, sf, sz, skf, skt, wh⟩ = .ok st') (nn kk : Nat) (h1 : nn + 1 = st'.nodes.length) (h2 : kk + 1 = st'.spans.length) :
    Calls Tryd.prog 40 #[.pointer (some ⟨pb, 0, none⟩), .agg #[.int .i64 node, .int .i64 span], .string ⟨key.toArray⟩, .agg #[.int .i64 kind, .string ⟨text.toArray⟩, .bool false, .slice none 0 0, .slice none 0 0],
      .agg #[.int .i64 0, .int .i64 0, .int .i64 0, .int .i64 sf, .int .i64 sz, .int .i64 skf, .int .i64 skt, .bool false, .bool wh]] w fun e w' =>
      e = .returned (.tuple #[.agg #[.int .i64 nn, .int .i64 kk], .bool true]) ∧ PNext B V w w' pb s st' := by
  refine (add_any B pb node span V s st key kind text sf sz skf skt wh w hp hf hn hs _ hR).mono ?_
  rintro e w' ⟨rfl, h⟩
  exact ⟨by rw [show (st'.nodes.length : Int) - 1 = nn from by omega, show (st'.spans.length : Int) - 1 = kk from by omega], h⟩
theorem add_no (B pb node span : Nat) (V : PV) (s : Ini.Str) (st : Ini.St) (key : Ini.Str) (kind : Nat) (text : Ini.Str) (sf sz skf skt : Nat) (wh : Bool) (w : World) (hp : PAt B V w pb s st) (hf : Fit st)
    (hn : node < st.nodes.length) (hs : span < st.spans.length) (a c : Nat) (hR : Ini.add st node span key ⟨kind, text, [], []⟩ ⟨0, 0, 0, sf, sz, skf, skt, wh⟩ = .err a c) :
    Calls Tryd.prog 40 #[.pointer (some ⟨pb, 0, none⟩), .agg #[.int .i64 node, .int .i64 span], .string ⟨key.toArray⟩, .agg #[.int .i64 kind, .string ⟨text.toArray⟩, .bool false, .slice none 0 0, .slice none 0 0],
      .agg #[.int .i64 0, .int .i64 0, .int .i64 0, .int .i64 sf, .int .i64 sz, .int .i64 skf, .int .i64 skt, .bool false, .bool wh]] w fun e w' =>
      e = .returned (.tuple #[.agg #[.int .i64 0, .int .i64 0], .bool false]) ∧ FPost w w' pb a c :=
  (add_any B pb node span V s st key kind text sf sz skf skt wh w hp hf hn hs _ hR).mono fun _ _ h => h
theorem PNext.cells {B : Nat} {V : PV} {w w' : World} {pb : Nat} {s : Ini.Str} {st' : Ini.St} (h : PNext B V w w' pb s st') : w'.cell? ⟨pb, 0, none⟩ = some (.int .i64 st'.node) ∧ w'.cell? ⟨pb, 1, none⟩ = some (.int .i64 st'.span) ∧ ∀ i, w'.frozen? ⟨pb, i, none⟩ = false := by
  obtain ⟨V', h1, _, _⟩ := h
  exact ⟨h1.blk.cell 0, h1.blk.cell 1, h1.blk.frozen⟩
set_option maxRecDepth 100000 in
set_option maxHeartbeats 4000000 in
theorem header_any (B pb a tz : Nat) (V : PV) (s : Ini.Str) (st : Ini.St) (ha : a < tz) (ht : tz ≤ s.length) (hs : s.length ≤ 1073741823) (w : World) (hp : PAt B V w pb s st) (hf : Fit st)
    (R : Ini.Res Ini.St) (hR : Ini.header st (seg s a tz) a = R) :
    Calls Tryd.prog 29 #[.pointer (some ⟨pb, 0, none⟩), .int .i64 a, .int .i64 tz] w (LPost B V w pb s R) := by
  have hlt := hp.blk.lt
  obtain ⟨b, hb⟩ : ∃ b, a + 1 + Ini.nB (seg s (a + 1) tz) = b := ⟨_, rfl⟩
  have hbz : b ≤ tz := by have := nB_le (seg s (a + 1) tz); rw [seg_len s _ tz ht] at this; omega
  have hab : a + 1 ≤ b := by omega
  unfold Ini.header at hR
  simp only [seg_drop, hb] at hR
  have HB := Lib.hid hb
  have HP := Lib.hid hp
  have HF := Lib.hid hf
  have HN := Lib.hid hf.pos
  have HS := Lib.hid (Nat.lt_of_le_of_lt (Nat.zero_le _) hf.span)
  clear hb hp hf
  cases hn : Ini.name (seg s b tz) b 93 with
  | err x e =>
    rw [hn] at hR
    have HR : Hid (Ini.Res.err x e = R) := Lib.hid hR
    have HNM := Lib.hid hn
    clear hR hn
    go_enter Tryd.func29, Tryd.ntmps29
    go_wp2_with fail
    refine (blanks_any pb (a + 1) tz s (by omega) ht (by omega) _ HP.out.par.src b HB.out).mono ?_
    rintro e1 w1 ⟨rfl, rfl⟩
    go_wp2_with fail
    refine (name_any pb b tz 93 93 rfl s hbz ht hs _ HP.out.par _ HNM.out).mono ?_
    rintro e1 w1 ⟨rfl, hf⟩
    have HFP := Lib.hid hf
    clear hf
    go_wp2_with fail
    refine bodyPost_ret (v := .bool false) (by simp [results, Tryd.results29, go_sem]) rfl ?_
    rw [← HR.out]
    exact ⟨rfl, HFP.out.lines (Below.refl _ _) HP.out⟩
  | ok p =>
    obtain ⟨t, en, i⟩ := p
    obtain ⟨b1, b2, b3⟩ := name_bounds s b tz 93 hbz ht t en i hn
    rw [hn] at hR
    simp only [show a + (i - a) = i from by omega] at hR
    obtain ⟨k, hk⟩ : ∃ k, i + Ini.nB (seg s i tz) = k := ⟨_, rfl⟩
    have hkz : i ≤ k ∧ k ≤ tz := by have := nB_le (seg s i tz); rw [seg_len s _ tz ht] at this; omega
    have hcond : (Ini.nB (seg s i tz) < (seg s i tz).length) ↔ k < tz := by rw [seg_len s _ tz ht]; omega
    simp only [hcond, hk] at hR
    have HNM := Lib.hid hn
    have HK := Lib.hid hk
    clear hn hk hcond
    by_cases hkt : k < tz
    · rw [if_pos hkt] at hR
      have HR := Lib.hid hR
      have hkI : (k : Int) < (tz : Int) := by omega
      clear hR
      go_enter Tryd.func29, Tryd.ntmps29
      go_wp2_with fail
      refine (blanks_any pb (a + 1) tz s (by omega) ht (by omega) _ HP.out.par.src b HB.out).mono ?_
      rintro e1 w1 ⟨rfl, rfl⟩
      go_wp2_with fail
      refine (name_any pb b tz 93 93 rfl s hbz ht hs _ HP.out.par _ HNM.out).mono ?_
      rintro e1 w1 ⟨rfl, hb1⟩
      have HB1 := Lib.hid hb1
      clear hb1
      go_wp2_with fail
      refine (blanks_any pb i tz s (by omega) ht (by omega) _ (HP.out.later HB1.out).par.src k HK.out).mono ?_
      rintro e1 w2 ⟨rfl, rfl⟩
      go_wp2_with fail
      refine (fail_par pb k 4 s _ (HP.out.later HB1.out).par).mono ?_
      rintro e1 w3 ⟨rfl, hf⟩
      have HFP := Lib.hid hf
      clear hf
      go_wp2_with fail
      refine bodyPost_ret (v := .bool false) (by simp [results, Tryd.results29, go_sem]) rfl ?_
      rw [← HR.out]
      exact ⟨rfl, HFP.out.lines HB1.out HP.out⟩
    · rw [if_neg hkt] at hR
      have hkI : ¬ ((k : Int) < (tz : Int)) := by omega
      cases hadd : Ini.add st 0 0 t ⟨10, [], [], []⟩ ⟨0, 0, 0, a, i, b, en, false⟩ with
      | err x e =>
        rw [hadd] at hR
        have HR : Hid (Ini.Res.err x e = R) := Lib.hid hR
        have HA := Lib.hid hadd
        clear hR hadd
        go_enter Tryd.func29, Tryd.ntmps29
        go_wp2_with fail
        refine (blanks_any pb (a + 1) tz s (by omega) ht (by omega) _ HP.out.par.src b HB.out).mono ?_
        rintro e1 w1 ⟨rfl, rfl⟩
        go_wp2_with fail
        refine (name_any pb b tz 93 93 rfl s hbz ht hs _ HP.out.par _ HNM.out).mono ?_
        rintro e1 w1 ⟨rfl, hb1⟩
        have HB1 := Lib.hid hb1
        clear hb1
        go_wp2_with fail
        refine (blanks_any pb i tz s (by omega) ht (by omega) _ (HP.out.later HB1.out).par.src k HK.out).mono ?_
        rintro e1 w2 ⟨rfl, rfl⟩
        go_wp2_with fail
        refine (add_no B pb 0 0 V s st t 10 [] a i b en false _ (HP.out.later HB1.out) HF.out HN.out HS.out _ _ HA.out).mono ?_
        rintro e1 w3 ⟨rfl, hf⟩
        obtain ⟨u0, u1, c0, c1, cf⟩ := (hf.later (Nat.lt_of_lt_of_le hlt HB1.out.size) ((Below.refl _ _).alloc (Nat.le_refl _) (.cells #[.int .i64 0, .int .i64 0] 60))).cells
        have HFP := Lib.hid (hf.from HB1.out)
        clear hf
        go_wp2_with fail
        refine bodyPost_ret (v := .bool false) (by simp [results, Tryd.results29, go_sem]) rfl ?_
        rw [← HR.out]
        exact ⟨rfl, ((HFP.out.later hlt ((Below.refl _ _).alloc (Nat.le_refl _) _)).setPb 0 (by omega) _).setPb 1 (by omega) _⟩
      | ok st' =>
        rw [hadd] at hR
        obtain ⟨_, _, hl1, hl2⟩ := add_ok_span HN.out hadd
        obtain ⟨nn, hnn⟩ : ∃ nn, nn + 1 = st'.nodes.length := ⟨st'.nodes.length - 1, by omega⟩
        obtain ⟨kk, hkk⟩ : ∃ kk, kk + 1 = st'.spans.length := ⟨st'.spans.length - 1, by omega⟩
        have HR : Hid (Ini.Res.ok { st' with node := nn, span := kk } = R) := Lib.hid (by rw [← hR]; simp only; rw [show st'.nodes.length - 1 = nn from by omega, show st'.spans.length - 1 = kk from by omega])
        have HA := Lib.hid hadd
        have HNN := Lib.hid hnn
        have HKK := Lib.hid hkk
        clear hR hadd hl1 hl2 hnn hkk
        go_enter Tryd.func29, Tryd.ntmps29
        go_wp2_with fail
        refine (blanks_any pb (a + 1) tz s (by omega) ht (by omega) _ HP.out.par.src b HB.out).mono ?_
        rintro e1 w1 ⟨rfl, rfl⟩
        go_wp2_with fail
        refine (name_any pb b tz 93 93 rfl s hbz ht hs _ HP.out.par _ HNM.out).mono ?_
        rintro e1 w1 ⟨rfl, hb1⟩
        have HB1 := Lib.hid hb1
        clear hb1
        go_wp2_with fail
        refine (blanks_any pb i tz s (by omega) ht (by omega) _ (HP.out.later HB1.out).par.src k HK.out).mono ?_
        rintro e1 w2 ⟨rfl, rfl⟩
        go_wp2_with fail
        refine (add_yes B pb 0 0 V s st st' t 10 [] a i b en false _ (HP.out.later HB1.out) HF.out HN.out HS.out HA.out nn kk HNN.out HKK.out).mono ?_
        rintro e1 w3 ⟨rfl, hx⟩
        obtain ⟨c0, c1, cf⟩ := (hx.later ((Below.refl _ _).alloc (Nat.le_refl _) (.cells #[.int .i64 nn, .int .i64 kk] 60))).cells
        have HX := Lib.hid (hx.from HB1.out)
        clear hx
        go_wp2_with fail
        refine bodyPost_ret (v := .bool true) (by simp [results, Tryd.results29, go_sem]) rfl ?_
        rw [← HR.out]
        exact ⟨rfl, (HX.out.later ((Below.refl _ _).alloc (Nat.le_refl _) _)).setSec nn kk⟩
end Go.Proofs.YtegdemnfjmaicaaDoor
