/- Walks: the reference's reader of a name. -/
import Derived.Test.YtegdemnfjmaicaaDoorWalk35
import Derived.Test.YtegdemnfjmaicaaDoorPlainZ
namespace Go.Proofs.YtegdemnfjmaicaaDoor
open Go.RowKit
/-- the reference's name, plain: its text, its end, and whether it failed. -/
def nameB (r : Ini.Str) (mark : UInt8) : Ini.Str := r.takeWhile (fun c => decide (c ≠ mark))
theorem nameB_len (r : Ini.Str) (mark : UInt8) : (nameB r mark).length ≤ r.length := (List.takeWhile_sublist _).length_le
theorem nameB_cons (c : UInt8) (r : Ini.Str) (mark : UInt8) : nameB (c :: r) mark = if c ≠ mark then c :: nameB r mark else [] := by
  unfold nameB
  rw [List.takeWhile_cons]
  by_cases h : c = mark <;> simp [h]
theorem nameB_nil (mark : UInt8) : nameB [] mark = [] := rfl
theorem bne_of_nob {x y : Int} (h : (x == y) = false) : (x != y) = true := by simp only [bne, h]; rfl
theorem bne_of_isb {x y : Int} (h : (x == y) = true) : (x != y) = false := by simp only [bne, h]; rfl
theorem nameB_seg (s : Ini.Str) (a tz : Nat) (m : UInt8) (ht : tz ≤ s.length) (ha : a ≤ tz) (K : Nat) (hK : (nameB (seg s a tz) m).length = K) :
    (∀ j, j < K → ∃ h : a + j < s.length, s[a + j] ≠ m) ∧ (a + K < tz → ∃ h : a + K < s.length, s[a + K] = m) ∧ seg s a (a + K) = nameB (seg s a tz) m := by
  have hl := seg_len s a tz ht
  have hle := nameB_len (seg s a tz) m
  refine ⟨fun j hj => ?_, fun hlt => ?_, ?_⟩
  · obtain ⟨h2, h3, h4⟩ := takeWhile_get (fun c => decide (c ≠ m)) (seg s a tz) j (by unfold nameB at hK; omega)
    rw [seg_get s a tz j ht h2] at h4
    exact ⟨by omega, by simpa using h4⟩
  · have h1 := takeWhile_stop (fun c => decide (c ≠ m)) (seg s a tz) (by unfold nameB at hK; omega)
    have e : ((seg s a tz).takeWhile (fun c => decide (c ≠ m))).length = K := hK
    have h2 := seg_get s a tz K ht (by omega)
    simp only [e] at h1
    rw [h2] at h1
    exact ⟨by omega, by simpa using h1⟩
  · have h1 : nameB (seg s a tz) m = (seg s a tz).take K := by
      have hp : nameB (seg s a tz) m <+: seg s a tz := List.takeWhile_prefix _
      rw [← hK]
      exact List.prefix_iff_eq_take.1 hp
    rw [h1]
    unfold seg
    rw [List.take_drop, List.take_take, Nat.min_eq_left (by omega)]
set_option maxRecDepth 100000 in
set_option maxHeartbeats 4000000 in
/-- a bare name: the bytes ahead of the mark, without blanks at their end. -/
theorem rname_bare (B rb a tz : Nat) (m : UInt8) (V : PV) (s : Ini.Str) (st : Ini.St) (w : World) (h : RAt B V w rb s st) (ha : a ≤ tz) (ht : tz ≤ s.length) (hs : s.length ≤ 1073741823) (z : Bool) (hz : E0 z V)
    (hq : (seg s a tz).head? ≠ some 34) (n : Nat) (hn : Ini.nT (nameB (seg s a tz) m) = n) :
    Calls Tryd.prog 44 #[.pointer (some ⟨rb, 0, none⟩), .int .i64 a, .int .i64 tz, .int .u8 m.toNat] w fun e w' => Below B w w' ∧ e = .returned (.tuple #[.string ⟨((seg s a tz).take n).toArray⟩, .int .i64 ((a + n : Nat) : Int)]) ∧ RAt B (if n = 0 then failV z V a 4 else V) w' rb s st := by
  have HA := Lib.hid h
  have HZ := Lib.hid hz
  have hsrc := h.src
  obtain ⟨K, hK⟩ : ∃ K, (nameB (seg s a tz) m).length = K := ⟨_, rfl⟩
  obtain ⟨hne, hst, hsg⟩ := nameB_seg s a tz m ht ha K hK
  have hKl : a + K ≤ tz := by have := nameB_len (seg s a tz) m; rw [seg_len s a tz ht] at this; omega
  have hnK : n ≤ K := by rw [← hn, ← hK]; exact Ini.nT_le _
  have HTR : Hid (a + Ini.nT (seg s a (a + K)) = a + n) := Lib.hid (by rw [hsg, hn])
  have htk : (seg s a tz).take n = seg s a (a + n) := by
    unfold seg
    rw [List.take_drop, List.take_take, Nat.min_eq_left (by omega)]
  obtain ⟨T, hT⟩ : ∃ T, seg s a (a + n) = T := ⟨_, rfl⟩
  have HT0 : Hid (n = 0 → T = []) := Lib.hid (fun h => by rw [← hT, h]; exact seg_nil s _ _ (by omega))
  have hex : (⟨s.toArray⟩ : ByteArray).extract a (a + n) = ⟨T.toArray⟩ := by rw [extract_seg, hT]
  rw [htk, hT]
  obtain ⟨mn, hmn⟩ : ∃ mn, m.toNat = mn := ⟨_, rfl⟩
  have hmI : ((m.toNat : Nat) : Int) = (mn : Int) := by rw [hmn]
  have HMN := Lib.hid hmI
  have hseg0 : a < tz → ∃ hh : a < s.length, s[a] ≠ 34 := fun hlt => ⟨by omega, by rw [seg_cons s a tz hlt ht] at hq; simpa using hq⟩
  have HNE := Lib.hid hne
  have HST := Lib.hid hst
  have x1 : (a : Int) ≤ (a : Int) + (n : Int) := by omega
  have x2 : (a : Int) + (n : Int) ≤ (s.length : Int) := by omega
  rw [hmn]
  clear h hz hn hq hne hst hsg hT htk hmI hmn
  go_enter Tryd.func44, Tryd.ntmps44
  by_cases hlt : a < tz
  · obtain ⟨hal, h34⟩ := hseg0 hlt
    have hltI : (a : Int) < (tz : Int) := by omega
    have q1 := byte_not s a hal _ 34 34 rfl rfl h34
    have q1b := byte_nob s a hal _ 34 34 rfl rfl h34
    clear hseg0 h34
    go_wp2_with fail
    clear hsrc
    (try clear q1 q1b)
    go_loop [11] (fun s11 => ∃ j : Nat, j ≤ K ∧ s11 = .int .i64 ((a + j : Nat) : Int)) (fun s11 => K - (intOf s11 - a).toNat)
    case atStart => exact ⟨0, by omega, by go_num⟩
    case round =>
      obtain ⟨j, hj, rfl⟩ := hrel
      by_cases hjK : j < K
      · obtain ⟨g1, g2⟩ := HNE.out j hjK
        have g1I : ((a + j : Nat) : Int) < (tz : Int) := by omega
        have g3I : ((a + j : Nat) : Int) < (s.length : Int) := by omega
        have p1 := byte_not s (a + j) g1 _ m _ HMN.out rfl g2
        have p1b := byte_nob s (a + j) g1 _ m _ HMN.out rfl g2
        have p1c := bne_of_nob p1b
        clear g2
        go_wp2_with fail
        go_round
        case rel => exact ⟨j + 1, by omega, by go_num⟩
        case measure => simp [intOf]; omega
      · have hje : j = K := by omega
        subst hje
        go_upto_region 5 with fail
        go_cut [43] (fun s43 wx => s43 = .bool false ∧ wx = w)
        case first =>
          by_cases hend : a + j < tz
          · obtain ⟨g1, g2⟩ := HST.out hend
            have g1I : ((a + j : Nat) : Int) < (tz : Int) := by omega
            have g3I : ((a + j : Nat) : Int) < (s.length : Int) := by omega
            have p1 := byte_is s (a + j) g1 _ m _ HMN.out g2 rfl
            have p1b := byte_isb s (a + j) g1 _ m _ HMN.out g2 rfl
            have p1c := bne_of_isb p1b
            clear g2
            go_wp2_with fail
            go_meet
            exact ⟨by (try rfl), rfl⟩
          · have g1I : ¬ (((a + j : Nat) : Int) < (tz : Int)) := by omega
            have g1b : decide (((a + j : Nat) : Int) < (tz : Int)) = false := by simpa using g1I
            go_wp2_with fail
            go_meet
            exact ⟨rfl, rfl⟩
        case rest =>
          rename_i wOld
          obtain ⟨rfl, rfl⟩ := hcut
          go_wp2_with fail
          refine (rtrim_any a (a + j) s (by omega) (by omega) (by omega) _ (a + n) HTR.out).mono ?_
          rintro e w2 ⟨rfl, rfl⟩
          by_cases h0 : n = 0
          · have h0I : ((a + n : Nat) : Int) = (a : Int) := by omega
            have h0b : ((a : Int) + (n : Int) == (a : Int)) = true := by rw [beq_iff_eq]; omega
            subst h0
            go_wp2_with fail
            refine (rfail_any B rb a 4 V s st _ HA.out z HZ.out).mono ?_
            rintro e w2 ⟨rfl, hb2, hr2⟩
            have HB2 := Lib.hid hb2
            have HR2 := Lib.hid hr2
            clear hb2 hr2
            go_wp2_with fail
            go_ret2
            exact ⟨HB2.out, by rw [HT0.out (by trivial)]; rfl, HR2.out⟩
          · have h0I : ¬ (((a + n : Nat) : Int) = (a : Int)) := by omega
            have h0b : ((a : Int) + (n : Int) == (a : Int)) = false := by rw [beq_eq_false_iff_ne]; omega
            go_wp2_with fail
            go_ret2
            exact ⟨Below.refl _ _, rfl, HA.out⟩
  · have hltI : ¬ ((a : Int) < (tz : Int)) := by omega
    have hltb : decide ((a : Int) < (tz : Int)) = false := by simpa using hltI
    clear hseg0
    go_wp2_with fail
    clear hsrc
    (try clear q1 q1b)
    go_loop [11] (fun s11 => ∃ j : Nat, j ≤ K ∧ s11 = .int .i64 ((a + j : Nat) : Int)) (fun s11 => K - (intOf s11 - a).toNat)
    case atStart => exact ⟨0, by omega, by go_num⟩
    case round =>
      obtain ⟨j, hj, rfl⟩ := hrel
      by_cases hjK : j < K
      · exact absurd hjK (by omega)
      · have hje : j = K := by omega
        subst hje
        go_upto_region 5 with fail
        go_cut [43] (fun s43 wx => s43 = .bool false ∧ wx = w)
        case first =>
          by_cases hend : a + j < tz
          · exact absurd hend (by omega)
          · have g1I : ¬ (((a + j : Nat) : Int) < (tz : Int)) := by omega
            have g1b : decide (((a + j : Nat) : Int) < (tz : Int)) = false := by simpa using g1I
            go_wp2_with fail
            go_meet
            exact ⟨rfl, rfl⟩
        case rest =>
          rename_i wOld
          obtain ⟨rfl, rfl⟩ := hcut
          go_wp2_with fail
          refine (rtrim_any a (a + j) s (by omega) (by omega) (by omega) _ (a + n) HTR.out).mono ?_
          rintro e w2 ⟨rfl, rfl⟩
          by_cases h0 : n = 0
          · have h0I : ((a + n : Nat) : Int) = (a : Int) := by omega
            have h0b : ((a : Int) + (n : Int) == (a : Int)) = true := by rw [beq_iff_eq]; omega
            subst h0
            go_wp2_with fail
            refine (rfail_any B rb a 4 V s st _ HA.out z HZ.out).mono ?_
            rintro e w2 ⟨rfl, hb2, hr2⟩
            have HB2 := Lib.hid hb2
            have HR2 := Lib.hid hr2
            clear hb2 hr2
            go_wp2_with fail
            go_ret2
            exact ⟨HB2.out, by rw [HT0.out (by trivial)]; rfl, HR2.out⟩
          · exact absurd (Nat.le_zero.1 (by omega)) h0
/-- what the reference's reader of a name answers: its failure, the text, the end. -/
def rn (r : Ini.Str) (a tz : Nat) (m : UInt8) : Option (Nat × Nat) × Ini.Str × Nat :=
  if r.head? = some 34 then match Ini.quoted r a with
    | .err x e => (some (x, e), [], tz)
    | .ok p => (none, p.1, p.2)
  else if Ini.nT (nameB r m) = 0 then (some (a, 4), [], a) else (none, r.take (Ini.nT (nameB r m)), a + Ini.nT (nameB r m))
def failO (z : Bool) (V : PV) (o : Option (Nat × Nat)) : PV := match o with
  | none => V
  | some p => failV z V p.1 p.2
theorem rn_bare {r : Ini.Str} {a tz : Nat} {m : UInt8} (h : r.head? ≠ some 34) : rn r a tz m = (if Ini.nT (nameB r m) = 0 then some (a, 4) else none, r.take (Ini.nT (nameB r m)), a + Ini.nT (nameB r m)) := by
  unfold rn
  rw [if_neg h]
  by_cases h0 : Ini.nT (nameB r m) = 0
  · rw [if_pos h0, if_pos h0, h0]; simp
  · rw [if_neg h0, if_neg h0]
set_option maxRecDepth 100000 in
set_option maxHeartbeats 4000000 in
theorem rname_quoted (B rb a tz : Nat) (m : UInt8) (V : PV) (s : Ini.Str) (st : Ini.St) (w : World) (h : RAt B V w rb s st) (ha : a < tz) (ht : tz ≤ s.length) (hs : s.length ≤ 1073741823) (z : Bool) (hz : E0 z V)
    (hq : s[a]'(by omega) = 34) (R : Ini.Res (Ini.Str × Nat)) (hR : Ini.quoted (seg s a tz) a = R) :
    Calls Tryd.prog 44 #[.pointer (some ⟨rb, 0, none⟩), .int .i64 a, .int .i64 tz, .int .u8 m.toNat] w fun e w' => Below B w w' ∧ RQPost B rb tz z V s st R e w' := by
  have HQ := Lib.hid (rquoted_any B rb a tz V s st w h ha ht hs z hz R hR)
  have hsrc := h.src
  have hltI : (a : Int) < (tz : Int) := by omega
  have q1 := byte_is s a (by omega) 34 34 34 rfl hq rfl
  have q1b := byte_isb s a (by omega) 34 34 34 rfl hq rfl
  obtain ⟨mn, hmn⟩ : ∃ mn, m.toNat = mn := ⟨_, rfl⟩
  rw [hmn]
  clear h hR hz hq hmn
  go_enter Tryd.func44, Tryd.ntmps44
  go_wp2_with fail
  refine HQ.out.mono ?_
  rintro e w2 ⟨hb, hp⟩
  have HB := Lib.hid hb
  have HP := Lib.hid hp
  clear hb hp
  cases R with
  | err x c =>
    obtain ⟨rfl, hr⟩ := HP.out
    have HR := Lib.hid hr
    clear HP hr
    go_wp2_with fail
    go_ret2
    exact ⟨HB.out, rfl, HR.out⟩
  | ok p =>
    obtain ⟨rfl, hr⟩ := HP.out
    have HR := Lib.hid hr
    clear HP hr
    go_wp2_with fail
    go_ret2
    exact ⟨HB.out, rfl, HR.out⟩
theorem rname_any (B rb a tz : Nat) (m : UInt8) (V : PV) (s : Ini.Str) (st : Ini.St) (w : World) (h : RAt B V w rb s st) (ha : a ≤ tz) (ht : tz ≤ s.length) (hs : s.length ≤ 1073741823) (z : Bool) (hz : E0 z V)
    (o : Option (Nat × Nat)) (t : Ini.Str) (i : Nat) (hX : rn (seg s a tz) a tz m = (o, t, i)) :
    Calls Tryd.prog 44 #[.pointer (some ⟨rb, 0, none⟩), .int .i64 a, .int .i64 tz, .int .u8 m.toNat] w fun e w' => Below B w w' ∧ e = .returned (.tuple #[.string ⟨t.toArray⟩, .int .i64 i]) ∧ RAt B (failO z V o) w' rb s st := by
  by_cases hq : (seg s a tz).head? = some 34
  · have hlt : a < tz := by
      rcases Nat.lt_or_ge a tz with h1 | h1
      · exact h1
      · rw [seg_nil s a tz h1] at hq; cases hq
    have h34 : s[a]'(by omega) = 34 := by rw [seg_cons s a tz hlt ht] at hq; simpa using hq
    unfold rn at hX
    rw [if_pos hq] at hX
    cases hR : Ini.quoted (seg s a tz) a with
    | err x c =>
      rw [hR] at hX
      simp only [Prod.mk.injEq] at hX
      obtain ⟨rfl, rfl, rfl⟩ := hX
      refine (rname_quoted B rb a tz m V s st w h hlt ht hs z hz h34 _ hR).mono ?_
      rintro e w' ⟨h1, h2, h3⟩
      exact ⟨h1, h2, h3⟩
    | ok p =>
      rw [hR] at hX
      simp only [Prod.mk.injEq] at hX
      obtain ⟨rfl, rfl, rfl⟩ := hX
      refine (rname_quoted B rb a tz m V s st w h hlt ht hs z hz h34 _ hR).mono ?_
      rintro e w' ⟨h1, h2, h3⟩
      exact ⟨h1, h2, h3⟩
  · rw [rn_bare hq] at hX
    simp only [Prod.mk.injEq] at hX
    obtain ⟨rfl, rfl, rfl⟩ := hX
    refine (rname_bare B rb a tz m V s st w h ha ht hs z hz hq _ rfl).mono ?_
    rintro e w' ⟨h1, h2, h3⟩
    refine ⟨h1, h2, ?_⟩
    by_cases h0 : Ini.nT (nameB (seg s a tz) m) = 0
    · rw [if_pos h0] at h3 ⊢; exact h3
    · rw [if_neg h0] at h3 ⊢; exact h3
theorem E0_fail (z : Bool) (V : PV) (hz : E0 z V) (o : Option (Nat × Nat)) (ho : ∀ p, o = some p → p.2 ≠ 0) : E0 (z && o.isNone) (failO z V o) := by
  cases o with
  | none => cases z <;> exact hz
  | some p =>
    cases z with
    | true => exact ⟨p.2, ho p rfl, rfl⟩
    | false => exact hz
/-! the plain name out of the reference's. -/
theorem nB_zero_head (r : Ini.Str) (c : UInt8) (q : Ini.Str) (h : r = c :: q) (hc : Ini.isB c = false) : Ini.nB r = 0 := by subst h; rw [Ini.nB_cons, hc]; rfl
theorem nB_all (p q : Ini.Str) (hp : ∀ c ∈ p, c = 32 ∨ c = 9) : Ini.nB (p ++ q) = p.length + Ini.nB q := by
  induction p with
  | nil => simp
  | cons c p ih =>
    rw [List.cons_append, Ini.nB_cons, if_pos (by rcases hp c (by simp) with rfl | rfl <;> rfl), ih (fun d hd => hp d (by simp [hd]))]
    simp; omega
theorem name_rn (r : Ini.Str) (a : Nat) (m : UInt8) (hm : Ini.isB m = false) (o : Option (Nat × Nat)) (t : Ini.Str) (i : Nat) (hX : rn r a (a + r.length) m = (o, t, i)) :
    (a ≤ i ∧ i ≤ a + r.length ∧ (∀ p, o = some p → p.2 ≠ 0)) ∧
    (∀ p, o = some p → Ini.name r a m = .err p.1 p.2) ∧
    (o = none → Ini.name r a m = if (r.drop (i - a + Ini.nB (r.drop (i - a)))).head? = some m then .ok (t, i, i + Ini.nB (r.drop (i - a)) + 1) else .err (i + Ini.nB (r.drop (i - a))) 4) := by
  by_cases hq : r.head? = some 34
  · unfold rn at hX
    rw [if_pos hq] at hX
    have hne := Ini.head_ne hq
    cases hR : Ini.quoted r a with
    | err x c =>
      rw [hR] at hX
      simp only [Prod.mk.injEq] at hX
      obtain ⟨rfl, rfl, rfl⟩ := hX
      have hc := Ini.quoted_err _ _ _ _ hR
      refine ⟨⟨by omega, Nat.le_refl _, ?_⟩, ?_, fun h => by cases h⟩
      · rintro p hp; injection hp with hp; subst hp; rcases hc with rfl | rfl <;> simp
      · rintro p hp; injection hp with hp; subst hp
        unfold Ini.name
        rw [if_pos hq, hR]
    | ok p =>
      obtain ⟨t', i'⟩ := p
      rw [hR] at hX
      simp only [Prod.mk.injEq] at hX
      obtain ⟨rfl, rfl, rfl⟩ := hX
      have h1 := Ini.quoted_ok _ _ _ _ hne hR
      refine ⟨⟨h1.1, h1.2, (fun p hp => by cases hp)⟩, (fun p hp => by cases hp), fun _ => ?_⟩
      unfold Ini.name
      rw [if_pos hq, hR]
      simp only [List.drop_drop]
  · rw [rn_bare hq] at hX
    simp only [Prod.mk.injEq] at hX
    obtain ⟨rfl, rfl, rfl⟩ := hX
    have hw : r.takeWhile (fun c => decide (c ≠ m)) = nameB r m := rfl
    have hl := nameB_len r m
    have hnT := Ini.nT_le (nameB r m)
    obtain ⟨n, hn⟩ : ∃ n, Ini.nT (nameB r m) = n := ⟨_, rfl⟩
    obtain ⟨K, hK⟩ : ∃ K, (nameB r m).length = K := ⟨_, rfl⟩
    have hpre : nameB r m = r.take K := by rw [← hK]; exact List.prefix_iff_eq_take.1 (List.takeWhile_prefix _)
    rw [hn, hK] at hnT
    rw [hn]
    refine ⟨⟨by omega, by omega, ?_⟩, ?_, ?_⟩
    · intro p hp
      by_cases h0 : n = 0
      · rw [if_pos h0] at hp; injection hp with hp; subst hp; simp
      · rw [if_neg h0] at hp; cases hp
    · intro p hp
      by_cases h0 : n = 0
      · rw [if_pos h0] at hp; injection hp with hp; subst hp
        unfold Ini.name
        rw [if_neg hq]
        simp only [hw, hn]
        rw [if_pos h0]
      · rw [if_neg h0] at hp; cases hp
    · intro ho
      have h0 : ¬ n = 0 := fun h0 => by rw [if_pos h0] at ho; cases ho
      have hdr : r.drop n = (nameB r m).drop n ++ r.drop K := by
        have e := (List.take_append_drop (K - n) (r.drop n)).symm
        rw [List.drop_drop, show n + (K - n) = K from by omega] at e
        rw [hpre, List.drop_take]; exact e
      have hbl : ∀ c ∈ (nameB r m).drop n, c = 32 ∨ c = 9 := by rw [← hn]; exact Ini.nT_drop _
      have hnb0 : Ini.nB (r.drop K) = 0 := by
        by_cases hlt : K < r.length
        · have := takeWhile_stop (fun c => decide (c ≠ m)) r (by have : (r.takeWhile (fun c => decide (c ≠ m))).length = K := hK; omega)
          have e : (r.takeWhile (fun c => decide (c ≠ m))).length = K := hK
          simp only [e] at this
          have hKm : r[K] = m := by simpa using this
          rw [List.drop_eq_getElem_cons hlt, Ini.nB_cons, hKm, hm]; rfl
        · rw [List.drop_of_length_le (by omega)]; rfl
      have hnb : Ini.nB (r.drop n) = K - n := by
        rw [hdr, nB_all _ _ hbl, hnb0, List.length_drop, hK]; omega
      unfold Ini.name
      rw [if_neg hq]
      simp only [hw, hn, hK]
      rw [if_neg h0, Nat.add_sub_cancel_left, hnb, show n + (K - n) = K from by omega]
      by_cases hlen : K = r.length
      · rw [if_pos hlen, if_neg (by rw [List.drop_of_length_le (by omega)]; simp)]
        congr 1; omega
      · have hlt : K < r.length := by omega
        have := takeWhile_stop (fun c => decide (c ≠ m)) r (by have : (r.takeWhile (fun c => decide (c ≠ m))).length = K := hK; omega)
        have e : (r.takeWhile (fun c => decide (c ≠ m))).length = K := hK
        simp only [e] at this
        have hKm : r[K] = m := by simpa using this
        rw [if_neg hlen, if_pos (by rw [List.drop_eq_getElem_cons hlt, hKm]; rfl)]
        rw [hpre, List.take_take, Nat.min_eq_left (by omega)]
        congr 2; congr 1; omega
end Go.Proofs.YtegdemnfjmaicaaDoor
