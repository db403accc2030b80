/- Walks: quote, and IniQuotes whole. -/
import Derived.Test.YtegdemnfjmaicaaDoorWalk27
import Derived.Test.YtegdemnfjmaicaaDoorWalk29
import Derived.Test.YtegdemnfjmaicaaDoorWalk32
import Derived.IntWalk
namespace Go.Proofs.YtegdemnfjmaicaaDoor
open Go.RowKit
theorem one_seg (s : Ini.Str) (k : Nat) (h : k < s.length) : (⟨s.toArray⟩ : ByteArray).extract k (k + 1) = ⟨([s[k]] : Ini.Str).toArray⟩ := by
  rw [extract_seg, seg_cons s k (k + 1) (by omega) (by omega), seg_nil _ _ _ (Nat.le_refl _)]
theorem low_seg (k : Nat) (h : k < 16) : (⟨#[48, 49, 50, 51, 52, 53, 54, 55, 56, 57, 97, 98, 99, 100, 101, 102]⟩ : ByteArray).extract k (k + 1) = ⟨([Ini.lowHex.getD k 0] : Ini.Str).toArray⟩ := by
  have := one_seg Ini.lowHex k (by simpa [Ini.lowHex] using h)
  rw [List.getD_eq_getElem?_getD, List.getElem?_eq_getElem (by simpa [Ini.lowHex] using h)]
  exact this
theorem up_seg (k : Nat) (h : k < 16) : (⟨#[48, 49, 50, 51, 52, 53, 54, 55, 56, 57, 65, 66, 67, 68, 69, 70]⟩ : ByteArray).extract k (k + 1) = ⟨([Ini.upHex.getD k 0] : Ini.Str).toArray⟩ := by
  have := one_seg Ini.upHex k (by simpa [Ini.upHex] using h)
  rw [List.getD_eq_getElem?_getD, List.getElem?_eq_getElem (by simpa [Ini.upHex] using h)]
  exact this
theorem qs_len' (s : Ini.Str) (i : Nat) : (Ini.qs (s.take i)).length ≤ 6 * s.length := by
  have h1 := Ini.qs_len (s.take i)
  have h2 := List.length_take_le' i s
  omega
theorem ba_push (t : Ini.Str) (l : Array UInt8) : (⟨t.toArray⟩ : ByteArray) ++ ⟨l⟩ = ⟨(t ++ l.toList).toArray⟩ := by
  have := ba_app t l.toList
  simpa using this
set_option maxRecDepth 100000 in
set_option maxHeartbeats 4000000 in
theorem quote_any (s : Ini.Str) (hs : s.length ≤ 1000) (w : World) :
    Calls Tryd.prog 17 #[.string ⟨s.toArray⟩] w fun e w' => e = .returned (.string ⟨(Ini.quote s).toArray⟩) ∧ ∃ n, w' = w.drewN n := by
  go_enter Tryd.func17, Tryd.ntmps17
  go_wp2_with fail
  go_loopw [3, 4] (fun s3 s4 wr => ∃ (t : List UInt8) (i n : Nat), i ≤ s.length ∧ t.length ≤ 6 * s.length + 1 ∧ s3 = .string ⟨t.toArray⟩ ∧ s4 = .int .i64 i ∧ wr = w.drewN n ∧ Hid (t = 34 :: Ini.qs (s.take i))) (fun _ s4 _ => s.length - (intOf s4).toNat)
  case atStart => exact ⟨[34], 0, 0, by omega, by simp, rfl, rfl, rfl, Lib.hid rfl⟩
  case round =>
    obtain ⟨t, i, n, hi, htl, rfl, rfl, rfl, ht⟩ := hrel
    by_cases hlt : i < s.length
    · have hltI : (i : Int) < (s.length : Int) := by omega
      obtain ⟨c, hc⟩ : ∃ c, s[i] = c := ⟨_, rfl⟩
      have HT1 : Hid (34 :: Ini.qs (s.take (i + 1)) = t ++ Ini.qc c) := Lib.hid (by
        rw [ht.out, List.take_succ_eq_append_getElem hlt, Ini.qs_snoc, hc]; rfl)
      have htl2 : (t ++ Ini.qc c).length ≤ 6 * s.length + 1 := by
        rw [← HT1.out]
        have := qs_len' s (i + 1)
        simp; omega
      have HTL2 := Lib.hid htl2
      have hseg := one_seg s i hlt
      rw [hc] at hseg
      have hsegI : (i : Int) ≤ (i : Int) + 1 := by omega
      have hseg2 : (i : Int) + 1 ≤ (s.length : Int) := by omega
      have hq1 : ¬ (9223372036854775807 < t.length + 1) := by omega
      have hq2 : ¬ (9223372036854775807 < t.length + 1 + 1) := by omega
      clear htl2
      by_cases h1 : c = 92
      · have p1 := byte_is s i hlt 92 92 92 rfl (by rw [hc, h1]) rfl
        have p1b := byte_isb s i hlt 92 92 92 rfl (by rw [hc, h1]) rfl
        have HQ : Hid (Ini.qc c = [92, c]) := Lib.hid (by unfold Ini.qc; rw [if_pos (.inl h1)])
        clear hc h1
        go_wp2_with fail
        go_roundw
        case rel => exact ⟨t ++ Ini.qc c, i + 1, n, by omega, HTL2.out, by rw [HQ.out]; simp [ba_push], by go_num, rfl, Lib.hid HT1.out.symm⟩
        case measure => simp [intOf]; omega
      · have p1 := byte_not s i hlt c 92 92 rfl hc h1
        have p1b := byte_nob s i hlt c 92 92 rfl hc h1
        by_cases h2 : c = 34
        · have p2 := byte_is s i hlt 34 34 34 rfl (by rw [hc, h2]) rfl
          have p2b := byte_isb s i hlt 34 34 34 rfl (by rw [hc, h2]) rfl
          have HQ : Hid (Ini.qc c = [92, c]) := Lib.hid (by unfold Ini.qc; rw [if_pos (.inr h2)])
          clear hc h1 h2
          go_wp2_with fail
          go_roundw
          case rel => exact ⟨t ++ Ini.qc c, i + 1, n, by omega, HTL2.out, by rw [HQ.out]; simp [ba_push], by go_num, rfl, Lib.hid HT1.out.symm⟩
          case measure => simp [intOf]; omega
        · have p2 := byte_not s i hlt c 34 34 rfl hc h2
          have p2b := byte_nob s i hlt c 34 34 rfl hc h2
          by_cases h3 : c = 10
          · have p3 := byte_is s i hlt 10 10 10 rfl (by rw [hc, h3]) rfl
            have p3b := byte_isb s i hlt 10 10 10 rfl (by rw [hc, h3]) rfl
            have HQ : Hid (Ini.qc c = [92, 110]) := Lib.hid (by unfold Ini.qc; rw [if_neg (fun h => h.elim h1 h2), if_pos h3])
            clear hc h1 h2 h3
            go_wp2_with fail
            go_roundw
            case rel => exact ⟨t ++ Ini.qc c, i + 1, n, by omega, HTL2.out, by rw [HQ.out]; simp [ba_push], by go_num, rfl, Lib.hid HT1.out.symm⟩
            case measure => simp [intOf]; omega
          · have p3 := byte_not s i hlt c 10 10 rfl hc h3
            have p3b := byte_nob s i hlt c 10 10 rfl hc h3
            have hb : (⟨s.toArray⟩ : ByteArray)[i]'(by simpa [ByteArray.size] using hlt) = c := hc
            by_cases h4 : c < 32
            · have hc32 : c.toNat < 32 := UInt8.lt_iff_toNat_lt.1 h4
              have HQ : Hid (Ini.qc c = [92, 117, 123, Ini.lowHex.getD (c.toNat / 16) 0, Ini.upHex.getD (c.toNat % 16) 0, 125]) := Lib.hid (by unfold Ini.qc; rw [if_neg (fun h => h.elim h1 h2), if_neg h3, if_pos h4])
              obtain ⟨x, hx⟩ : ∃ x, c.toNat = x := ⟨_, rfl⟩
              rw [hx] at hc32
              have hx1 : IntKind.u8.wrap ((x : Int).tdiv 16) = ((x / 16 : Nat) : Int) := by
                rw [IntWalk.u8_quo _ _ (by omega)]; rfl
              have hx2 : (x : Int).tmod 16 = ((x % 16 : Nat) : Int) := rfl
              obtain ⟨y, hy⟩ : ∃ y, x / 16 = y := ⟨_, rfl⟩
              obtain ⟨z, hz⟩ : ∃ z, x % 16 = z := ⟨_, rfl⟩
              have hy16 : y < 16 := by omega
              have hz16 : z < 16 := by omega
              rw [hy] at hx1
              rw [hz] at hx2
              have e1 := low_seg y hy16
              have e2 := up_seg z hz16
              have hx3 : IntKind.u8.wrap ((y : Int) + 1) = (y : Int) + 1 := IntWalk.u8_in _ (by omega)
              have hx4 : IntKind.u8.wrap ((z : Int) + 1) = (z : Int) + 1 := IntWalk.u8_in _ (by omega)
              have hq3 : ¬ (9223372036854775807 < t.length + 3) := by omega
              have HHY := Lib.hid hy
              have HHZ := Lib.hid hz
              have HHX := Lib.hid hx
              have hbx : (((⟨s.toArray⟩ : ByteArray)[i]'(by simpa [ByteArray.size] using hlt)).toNat : Int) = (x : Int) := by rw [hb, hx]
              have hxI : (x : Int) < 32 := by omega
              have hx10 : ¬ x = 10 := fun e => h3 (UInt8.toNat_inj.1 (by rw [hx, e]; rfl))
              have x1 : ¬ ((x : Int) = 92) := by omega
              have x1b : ((x : Int) == 92) = false := by simpa using x1
              have x2 : ¬ ((x : Int) = 34) := by omega
              have x2b : ((x : Int) == 34) = false := by simpa using x2
              have x3 : ¬ ((x : Int) = 10) := by omega
              have x3b : ((x : Int) == 10) = false := by simpa using x3
              clear p1 p1b p2 p2b p3 p3b
              clear hc h1 h2 h3 h4 hb hx hy hz hc32
              go_wp2_with fail
              go_quiet (fail)
              go_wp2_with fail
              go_roundw
              case rel => exact ⟨t ++ Ini.qc c, i + 1, _, by omega, HTL2.out, by rw [HQ.out, HHX.out, HHY.out, HHZ.out]; (try rw [low_seg y hy16]); (try rw [up_seg z hz16]); simp [ba_push], by go_num, rfl, Lib.hid HT1.out.symm⟩
              case measure => simp [intOf]; omega
            · have hc32 : ¬ ((c.toNat : Int) < 32) := by
                intro h; apply h4; rw [UInt8.lt_iff_toNat_lt, show (32 : UInt8).toNat = 32 from rfl]; omega
              have hbx : ¬ ((((⟨s.toArray⟩ : ByteArray)[i]'(by simpa [ByteArray.size] using hlt)).toNat : Int) < 32) := by rw [hb]; exact hc32
              have HQ : Hid (Ini.qc c = [c]) := Lib.hid (by unfold Ini.qc; rw [if_neg (fun h => h.elim h1 h2), if_neg h3, if_neg h4])
              clear hc h1 h2 h3 h4 hb hc32
              go_wp2_with fail
              go_roundw
              case rel => exact ⟨t ++ Ini.qc c, i + 1, n, by omega, HTL2.out, by rw [HQ.out]; simp [ba_push], by go_num, rfl, Lib.hid HT1.out.symm⟩
              case measure => simp [intOf]; omega
    · have hltI : ¬ ((i : Int) < (s.length : Int)) := by omega
      have hq1 : ¬ (9223372036854775807 < t.length + 1) := by omega
      have HE : Hid (t ++ [34] = Ini.quote s) := Lib.hid (by
        rw [ht.out, List.take_of_length_le (by omega)]; rfl)
      clear ht
      go_wp2_with fail
      go_ret
      exact ⟨by rw [← HE.out, ← ba_push]; rfl, _, rfl⟩
set_option maxRecDepth 100000 in
set_option maxHeartbeats 4000000 in
theorem quotes_long1 (name : Ini.Str) (L : List (Ini.Str × Ini.Str)) (A : Option Addr) (c : Nat) (w : World) (hT : Lib.Utf8Tabs 0 1 w) (hw : 2 ≤ w.heap.size) (hl : ¬ name.length ≤ 100) :
    Calls Tryd.prog 7 #[.string ⟨name.toArray⟩, .slice A L.length c] w fun e w' => e = .returned (.bool true) ∧ Below w.heap.size w w' := by
  have HT := Lib.hid hT
  clear hT
  have hlI : (100 : Int) < (name.length : Int) := by omega
  go_enter Tryd.func7, Tryd.ntmps7
  go_wp2_with fail
  refine (awake_any w HT.out hw).mono ?_
  rintro e w1 ⟨rfl, hb1⟩
  have HB1 := Lib.hid hb1
  clear hb1
  go_wp2_with fail
  go_ret
  exact ⟨rfl, HB1.out⟩
set_option maxRecDepth 100000 in
set_option maxHeartbeats 4000000 in
theorem quotes_long2 (name : Ini.Str) (L : List (Ini.Str × Ini.Str)) (A : Option Addr) (c : Nat) (w : World) (hT : Lib.Utf8Tabs 0 1 w) (hw : 2 ≤ w.heap.size) (hn : name.length ≤ 100) (hl : ¬ L.length ≤ 10) :
    Calls Tryd.prog 7 #[.string ⟨name.toArray⟩, .slice A L.length c] w fun e w' => e = .returned (.bool true) ∧ Below w.heap.size w w' := by
  have HT := Lib.hid hT
  clear hT
  have hnI : ¬ ((100 : Int) < (name.length : Int)) := by omega
  have hnb : decide ((100 : Int) < (name.length : Int)) = false := by simpa using hnI
  have hlI : (10 : Int) < (L.length : Int) := by omega
  go_enter Tryd.func7, Tryd.ntmps7
  go_wp2_with fail
  refine (awake_any w HT.out hw).mono ?_
  rintro e w1 ⟨rfl, hb1⟩
  have HB1 := Lib.hid hb1
  clear hb1
  go_wp2_with fail
  go_ret
  exact ⟨rfl, HB1.out⟩
set_option maxRecDepth 100000 in
set_option maxHeartbeats 4000000 in
theorem quotes_bad (name : Ini.Str) (L : List (Ini.Str × Ini.Str)) (A : Option Addr) (c : Nat) (w : World) (hT : Lib.Utf8Tabs 0 1 w) (hw : 2 ≤ w.heap.size) (hn : name.length ≤ 100) (hl : L.length ≤ 10) (hb : Ini.bad name ≠ none) :
    Calls Tryd.prog 7 #[.string ⟨name.toArray⟩, .slice A L.length c] w fun e w' => e = .returned (.bool true) ∧ Below w.heap.size w w' := by
  have HT := Lib.hid hT
  clear hT
  have hnI : ¬ ((100 : Int) < (name.length : Int)) := by omega
  have hnb : decide ((100 : Int) < (name.length : Int)) = false := by simpa using hnI
  have hlI : ¬ ((10 : Int) < (L.length : Int)) := by omega
  have hlb : decide ((10 : Int) < (L.length : Int)) = false := by simpa using hlI
  have HV : Hid (decide (Ini.bad name = none) = false) := Lib.hid (by simpa using hb)
  clear hb
  go_enter Tryd.func7, Tryd.ntmps7
  go_wp2_with fail
  refine (awake_any w HT.out hw).mono ?_
  rintro e w1 ⟨rfl, hb1⟩
  have HB1 := Lib.hid hb1
  clear hb1
  go_wp2_with fail
  refine (valid_any name (by omega) w1 _ HV.out).mono ?_
  rintro e w2 ⟨rfl, hb2⟩
  have HB2 : Hid (Below w.heap.size w w2) := Lib.hid (HB1.out.trans (hb2.mono HB1.out.size))
  clear hb2
  go_wp2_with fail
  go_ret
  exact ⟨rfl, HB2.out⟩
theorem pair_here {w wr : World} {ad : Addr} {L : List (Ini.Str × Ini.Str)} {k : Nat} {u v : Ini.Str} (h : RowAt pairL w w.heap.size (some ad) L) (hb : Below w.heap.size w wr) (hk : k < L.length) (he : L[k] = (u, v)) :
    wr.cell? (ad.add (k * 2)) = some (.string ⟨u.toArray⟩) ∧ wr.cell? { block := (ad.add (k * 2)).block, off := (ad.add (k * 2)).off + 1 } = some (.string ⟨v.toArray⟩) := by
  obtain ⟨ad', e, _, h1, h2⟩ := pair_at (h.below hb) hk
  injection e with e
  subst e
  rw [he] at h1 h2
  exact ⟨h1, h2⟩
theorem qlines_snoc (L : List (Ini.Str × Ini.Str)) (e : Ini.Str × Ini.Str) : Ini.qlines (L ++ [e]) = Ini.qlines L ++ (Ini.qline e ++ [10]) := by
  induction L with
  | nil => simp [Ini.qlines]
  | cons f L ih => simp [Ini.qlines, ih]
theorem pair_good {L : List (Ini.Str × Ini.Str)} {i : Nat} (hi : i < L.length) (h : (L.take i).Pairwise (fun e f => e.1 ≠ f.1)) (hne : ∀ j (hj : j < L.length), j < i → (L[j]).1 ≠ (L[i]).1) : (L.take (i + 1)).Pairwise (fun e f => e.1 ≠ f.1) := by
  rw [List.take_succ_eq_append_getElem hi, List.pairwise_append]
  refine ⟨h, by simp, fun e he f hf => ?_⟩
  simp at hf
  subst hf
  obtain ⟨j, hj, rfl⟩ := List.mem_iff_getElem.1 he
  rw [List.length_take] at hj
  rw [List.getElem_take]
  exact hne j (by omega) (by omega)
/-- what the loop over the entries keeps. -/
def QGood (L : List (Ini.Str × Ini.Str)) (i : Nat) : Prop :=
  (∀ e ∈ L.take i, (e.1.length ≤ 100 ∧ e.2.length ≤ 100) ∧ Ini.bad e.1 = none ∧ Ini.bad e.2 = none) ∧ (L.take i).Pairwise (fun e f => e.1 ≠ f.1)
theorem QGood.succ {L : List (Ini.Str × Ini.Str)} {i : Nat} (hi : i < L.length) (h : QGood L i) (h1 : (L[i]).1.length ≤ 100 ∧ (L[i]).2.length ≤ 100) (h2 : Ini.bad (L[i]).1 = none ∧ Ini.bad (L[i]).2 = none)
    (hne : ∀ j (hj : j < L.length), j < i → (L[j]).1 ≠ (L[i]).1) : QGood L (i + 1) := by
  refine ⟨fun e he => ?_, pair_good hi h.2 hne⟩
  rw [List.take_succ_eq_append_getElem hi] at he
  rcases List.mem_append.1 he with he | he
  · exact h.1 e he
  · simp at he; subst he; exact ⟨h1, h2⟩
theorem QGood.len {L : List (Ini.Str × Ini.Str)} {i : Nat} {name : Ini.Str} (h : QGood L i) (hl : L.length ≤ 10) (hn : name.length ≤ 100) : (Ini.qsrc name (L.take i)).length ≤ 14000 := by
  have h1 := Ini.qlines_len (L.take i) (fun e he => (h.1 e he).1)
  have h2 := Ini.qs_len name
  have h3 := List.length_take_le' i L
  unfold Ini.qsrc Ini.qhead Ini.quote
  simp only [List.length_append, List.length_cons, List.length_nil]
  omega
set_option maxRecDepth 100000 in
set_option maxHeartbeats 8000000 in
theorem quotes_go (name : Ini.Str) (L : List (Ini.Str × Ini.Str)) (A : Option Addr) (c : Nat) (w : World) (hT : Lib.Utf8Tabs 0 1 w) (hw : 2 ≤ w.heap.size) (hn : name.length ≤ 100) (hl : L.length ≤ 10) (hb : Ini.bad name = none) (hr : RowAt pairL w w.heap.size A L) :
    Calls Tryd.prog 7 #[.string ⟨name.toArray⟩, .slice A L.length c] w fun e w' => e = .returned (.bool true) ∧ Below w.heap.size w w' := by
  have HT := Lib.hid hT
  have HRW := Lib.hid hr
  clear hT hr
  have hnI : ¬ ((100 : Int) < (name.length : Int)) := by omega
  have hnb : decide ((100 : Int) < (name.length : Int)) = false := by simpa using hnI
  have hlI : ¬ ((10 : Int) < (L.length : Int)) := by omega
  have hlb : decide ((10 : Int) < (L.length : Int)) = false := by simpa using hlI
  have HBAD := Lib.hid hb
  have HV : Hid (decide (Ini.bad name = none) = true) := Lib.hid (by simpa using hb)
  clear hb
  obtain ⟨N1, hN1⟩ : ∃ N1, Ini.quote name = N1 := ⟨_, rfl⟩
  have hN1l : N1.length ≤ 602 := by rw [← hN1]; have := Ini.qs_len name; unfold Ini.quote; simp; omega
  have HQN : Hid (∀ W, Calls Tryd.prog 17 #[.string ⟨name.toArray⟩] W fun e w' => e = .returned (.string ⟨N1.toArray⟩) ∧ ∃ n, w' = W.drewN n) := Lib.hid (fun W => by rw [← hN1]; exact quote_any name (by omega) W)
  have HS0 : Hid ([32, 91, 9] ++ N1 ++ [32, 93, 13, 10] = Ini.qsrc name (L.take 0)) := Lib.hid (by rw [← hN1]; simp [Ini.qsrc, Ini.qhead, Ini.qlines])
  have hb1 : ¬ (9223372036854775807 < 3 + N1.length) := by omega
  have hb2 : ¬ (9223372036854775807 < 3 + N1.length + 4) := by omega
  clear hN1
  go_enter Tryd.func7, Tryd.ntmps7
  go_wp2_with fail
  refine (awake_any w HT.out hw).mono ?_
  rintro e w1 ⟨rfl, hb1'⟩
  have HB1 := Lib.hid hb1'
  clear hb1'
  go_wp2_with fail
  refine (valid_any name (by omega) w1 _ HV.out).mono ?_
  rintro e w2 ⟨rfl, hb2'⟩
  have HB2 : Hid (Below w.heap.size w w2) := Lib.hid (HB1.out.trans (hb2'.mono HB1.out.size))
  clear hb2'
  go_wp2_with fail
  refine (HQN.out w2).mono ?_
  rintro e w3 ⟨rfl, n3, rfl⟩
  have HE0 : Hid ((⟨#[32, 91, 9]⟩ : ByteArray) ++ ⟨N1.toArray⟩ ++ ⟨#[32, 93, 13, 10]⟩ = ⟨([32, 91, 9] ++ N1 ++ [32, 93, 13, 10]).toArray⟩) := Lib.hid (by
    rw [show (⟨#[32, 91, 9]⟩ : ByteArray) = ⟨([32, 91, 9] : Ini.Str).toArray⟩ from rfl, ba_app, ba_push])
  have HG0 : Hid (QGood L 0) := Lib.hid ⟨by simp, by simp⟩
  go_wp2_with fail
  go_loopw [5, 6] (fun s5 s6 wr => ∃ (S : List UInt8) (i : Nat), i ≤ L.length ∧ s5 = .string ⟨S.toArray⟩ ∧ s6 = .int .i64 i ∧ Below w.heap.size w wr ∧ Hid (S = Ini.qsrc name (L.take i)) ∧ Hid (QGood L i)) (fun _ s6 _ => L.length - (intOf s6).toNat)
  case atStart => exact ⟨_, 0, by omega, by rw [HE0.out], rfl, below_drewN HB2.out n3, HS0, HG0⟩
  case round =>
    obtain ⟨S, i, hi, rfl, rfl, hbw, hS, hG⟩ := hrel
    have hSl : S.length ≤ 14000 := by rw [hS.out]; exact hG.out.len hl hn
    have HBW := Lib.hid hbw
    have HR2 := Lib.hid (HRW.out.below hbw)
    clear hbw
    by_cases hlt : i < L.length
    · have hltI : (i : Int) < (L.length : Int) := by omega
      obtain ⟨ad, rfl, _, p0, p1⟩ := pair_at HR2.out hlt
      obtain ⟨⟨u, v⟩, he⟩ : ∃ e, L[i] = e := ⟨_, rfl⟩
      rw [he] at p0 p1
      have HE := Lib.hid he
      clear he
      go_wp2_with fail
      obtain ⟨wo, rfl⟩ : ∃ wo : World, wo = wr := ⟨_, rfl⟩
      go_loopw [7] (fun s7 wr => ∃ m n2 : Nat, m ≤ i ∧ s7 = .int .i64 m ∧ wr = wo.drewN n2 ∧ Hid (∀ j (h : j < L.length), j < m → (L[j]).1 ≠ u)) (fun s7 _ => i - (intOf s7).toNat)
      case atStart => exact ⟨0, 0, by omega, rfl, rfl, Lib.hid (fun j h h2 => by omega)⟩
      case round =>
        obtain ⟨m, n2, hm, rfl, rfl, hno⟩ := hrel
        by_cases hmi : m < i
        · have hmiI : (m : Int) < (i : Int) := by omega
          have hmL : m < L.length := by omega
          have hmLI : (m : Int) < (L.length : Int) := by omega
          obtain ⟨ad2, ha2, _, q0, _⟩ := pair_at HR2.out hmL
          injection ha2 with ha2
          subst ha2
          obtain ⟨x, hx⟩ : ∃ x : List UInt8, (L[m]).1 = x := ⟨_, rfl⟩
          rw [hx] at q0
          have HX := Lib.hid hx
          clear hx
          go_wp2_with fail
          by_cases hxu : x = u
          · have t1 : ((⟨x.toArray⟩ : ByteArray) == ⟨u.toArray⟩) = true := by
              show (x.toArray == u.toArray) = true
              rw [hxu, beq_self_eq_true]
            have t2 : (x == u) = true := by rw [hxu]; simp
            clear hxu
            go_quiet (fail)
            go_wp2_with fail
            all_goals (try go_ret)
            all_goals exact ⟨rfl, by first | exact below_drewN HBW.out _ | exact below_drewN (below_drewN HBW.out _) _⟩
          · have t1 : ((⟨x.toArray⟩ : ByteArray) == ⟨u.toArray⟩) = false := by
              show (x.toArray == u.toArray) = false
              rw [beq_eq_false_iff_ne]
              exact fun e => hxu (List.toArray_inj e)
            have t2 : (x == u) = false := by simpa using hxu
            have HXU := Lib.hid hxu
            clear hxu
            go_quiet (fail)
            go_wp2_with fail
            go_roundw
            case rel => exact ⟨m + 1, _, by omega, by go_num, rfl, Lib.hid (fun j h h2 => by
              by_cases e : j = m
              · subst e; rw [HX.out]; exact HXU.out
              · exact hno.out j h (by omega))⟩
            case measure => simp [intOf]; omega
        · have hmiI : ¬ ((m : Int) < (i : Int)) := by omega
          have hme : m = i := by omega
          have HNO : Hid (∀ j (h : j < L.length), j < i → (L[j]).1 ≠ (L[i]).1) := Lib.hid (fun j h hj => by rw [HE.out]; exact hno.out j h (by omega))
          obtain ⟨wn, hwn⟩ : ∃ wn, wo.drewN n2 = wn := ⟨_, rfl⟩
          have HBn : Hid (Below w.heap.size w wn) := Lib.hid (by rw [← hwn]; exact below_drewN HBW.out _)
          have p0 : wn.cell? (ad.add (i * 2)) = some (.string ⟨u.toArray⟩) := by rw [← hwn]; exact p0
          have p1 : wn.cell? { block := (ad.add (i * 2)).block, off := (ad.add (i * 2)).off + 1 } = some (.string ⟨v.toArray⟩) := by rw [← hwn]; exact p1
          rw [hwn]
          clear hwn hno HBW hme
          by_cases hu : u.length ≤ 100
          · have huI : ¬ ((100 : Int) < (u.length : Int)) := by omega
            have hub : decide ((100 : Int) < (u.length : Int)) = false := by simpa using huI
            by_cases hv : v.length ≤ 100
            · have hvI : ¬ ((100 : Int) < (v.length : Int)) := by omega
              have hvb : decide ((100 : Int) < (v.length : Int)) = false := by simpa using hvI
              by_cases hbu : Ini.bad u = none
              · have HVU : Hid (decide (Ini.bad u = none) = true) := Lib.hid (by simpa using hbu)
                go_wp2_with fail
                refine (valid_any u (by omega) wn _ HVU.out).mono ?_
                rintro e w4 ⟨rfl, hb4⟩
                have HB4 : Hid (Below w.heap.size w w4) := Lib.hid (HBn.out.trans (hb4.mono HBn.out.size))
                obtain ⟨p0, p1⟩ := pair_here HRW.out HB4.out hlt HE.out
                clear hb4
                by_cases hbv : Ini.bad v = none
                · have HVV : Hid (decide (Ini.bad v = none) = true) := Lib.hid (by simpa using hbv)
                  go_wp2_with fail
                  refine (valid_any v (by omega) w4 _ HVV.out).mono ?_
                  rintro e w5 ⟨rfl, hb5⟩
                  have HB5 : Hid (Below w.heap.size w w5) := Lib.hid (HB4.out.trans (hb5.mono HB4.out.size))
                  obtain ⟨p0, p1⟩ := pair_here HRW.out HB5.out hlt HE.out
                  have HG1 : Hid (QGood L (i + 1)) := Lib.hid (hG.out.succ hlt (by rw [HE.out]; exact ⟨hu, hv⟩) (by rw [HE.out]; exact ⟨hbu, hbv⟩) HNO.out)
                  obtain ⟨K1, hK1⟩ : ∃ K1, Ini.quote u = K1 := ⟨_, rfl⟩
                  obtain ⟨K2, hK2⟩ : ∃ K2, Ini.quote v = K2 := ⟨_, rfl⟩
                  have hK1l : K1.length ≤ 602 := by rw [← hK1]; have := Ini.qs_len u; unfold Ini.quote; simp; omega
                  have hK2l : K2.length ≤ 602 := by rw [← hK2]; have := Ini.qs_len v; unfold Ini.quote; simp; omega
                  have HQU : Hid (∀ W, Calls Tryd.prog 17 #[.string ⟨u.toArray⟩] W fun e w' => e = .returned (.string ⟨K1.toArray⟩) ∧ ∃ n, w' = W.drewN n) := Lib.hid (fun W => by rw [← hK1]; exact quote_any u (by omega) W)
                  have HQV : Hid (∀ W, Calls Tryd.prog 17 #[.string ⟨v.toArray⟩] W fun e w' => e = .returned (.string ⟨K2.toArray⟩) ∧ ∃ n, w' = W.drewN n) := Lib.hid (fun W => by rw [← hK2]; exact quote_any v (by omega) W)
                  have HS1 : Hid (S ++ K1 ++ [61] ++ K2 ++ [10] = Ini.qsrc name (L.take (i + 1))) := Lib.hid (by
                    rw [List.take_succ_eq_append_getElem hlt, HE.out, hS.out, ← hK1, ← hK2]
                    unfold Ini.qsrc
                    rw [qlines_snoc]
                    simp [Ini.qline])
                  have HES : Hid ((⟨S.toArray⟩ : ByteArray) ++ ⟨K1.toArray⟩ ++ ⟨#[61]⟩ ++ ⟨K2.toArray⟩ ++ ⟨#[10]⟩ = ⟨(S ++ K1 ++ [61] ++ K2 ++ [10]).toArray⟩) := Lib.hid (by
                    rw [ba_app, ba_push, ba_app, ba_push])
                  have k1 : ¬ (9223372036854775807 < S.length + K1.length) := by omega
                  have k2 : ¬ (9223372036854775807 < S.length + K1.length + 1) := by omega
                  have k3 : ¬ (9223372036854775807 < S.length + K1.length + 1 + K2.length) := by omega
                  have k4 : ¬ (9223372036854775807 < S.length + K1.length + 1 + K2.length + 1) := by omega
                  clear hb5 hbu hbv hK1 hK2 HVU HVV
                  go_upto_region 16 with fail
                  go_quiet ((first | (go_at_call 17; (with_reducible exact Calls.quiet_of (HQU.out _))) | (go_at_call 17; (with_reducible exact Calls.quiet_of (HQV.out _)))))
                  go_wp2_with fail
                  go_roundw
                  case rel => exact ⟨_, i + 1, by omega, by rw [HES.out], by go_num, below_drewN HB5.out _, HS1, HG1⟩
                  case measure => simp [intOf]; omega
                · have HVV : Hid (decide (Ini.bad v = none) = false) := Lib.hid (by simpa using hbv)
                  clear hbv
                  go_wp2_with fail
                  refine (valid_any v (by omega) w4 _ HVV.out).mono ?_
                  rintro e w5 ⟨rfl, hb5⟩
                  have HB5 : Hid (Below w.heap.size w w5) := Lib.hid (HB4.out.trans (hb5.mono HB4.out.size))
                  clear hb5
                  go_wp2_with fail
                  (try go_ret)
                  exact ⟨rfl, HB5.out⟩
              · have HVU : Hid (decide (Ini.bad u = none) = false) := Lib.hid (by simpa using hbu)
                clear hbu
                go_wp2_with fail
                refine (valid_any u (by omega) wn _ HVU.out).mono ?_
                rintro e w4 ⟨rfl, hb4⟩
                have HB4 : Hid (Below w.heap.size w w4) := Lib.hid (HBn.out.trans (hb4.mono HBn.out.size))
                clear hb4
                go_wp2_with fail
                (try go_ret)
                exact ⟨rfl, HB4.out⟩
            · have hvI : (100 : Int) < (v.length : Int) := by omega
              go_wp2_with fail
              (try go_ret)
              exact ⟨rfl, HBn.out⟩
          · have huI : (100 : Int) < (u.length : Int) := by omega
            go_wp2_with fail
            (try go_ret)
            exact ⟨rfl, HBn.out⟩
    · have hie : i = L.length := by omega
      have hltI : ¬ ((i : Int) < (L.length : Int)) := by omega
      have hSL : S = Ini.qsrc name L := by rw [hS.out, hie, List.take_length]
      have hG' := hG.out
      rw [hie] at hG'
      unfold QGood at hG'
      rw [List.take_length] at hG'
      obtain ⟨_, st, hp, hfl⟩ := Ini.quotes_law name L HBAD.out hn hl (fun e he => (hG'.1 e he).1) (fun e he => (hG'.1 e he).2) hG'.2
      rw [← hSL] at hp
      have HP := Lib.hid hp
      have HFL := Lib.hid hfl
      have HF := Lib.hid (parse_fit hp)
      clear hp hfl hG' hSL hS hG hie
      go_wp2_with fail
      refine (parse_any S (by omega) _ (tabs_below HT.out HBW.out hw) (Nat.le_trans hw HBW.out.size) _ HP.out).mono ?_
      rintro e1 w3 ⟨hb3, V, pb, rfl, hp1⟩
      have HB3 : Hid (Below w.heap.size w w3) := Lib.hid (HBW.out.trans (hb3.mono HBW.out.size))
      obtain ⟨A1, c1, e1, hg⟩ := GAt.of_rows hp1.nodes hp1.rows
      obtain ⟨A2, c2, e2, _⟩ := hp1.spans.form
      obtain ⟨A3, c3, e3, _⟩ := hp1.notes.form
      rw [e1, e2, e3]
      have HGA := Lib.hid hg
      clear hb3 hp1 hg e1 e2 e3
      go_upto_region 18 with fail
      obtain ⟨w4, hw4⟩ : ∃ w4, w3.alloc (.cells #[.int .i64 3, .string ⟨S.toArray⟩, .slice A1 V.vs.length c1, .int .i64 0, .slice A2 st.spans.length c2, .slice A3 st.notes.length c3] 29) = w4 := ⟨_, rfl⟩
      have l4 : Below w3.heap.size w3 w4 := by rw [← hw4]; exact (Below.refl _ _).alloc (Nat.le_refl _) _
      have b4 : Blk w4 w3.heap.size 29 #[.int .i64 3, .string ⟨S.toArray⟩, .slice A1 V.vs.length c1, .int .i64 0, .slice A2 st.spans.length c2, .slice A3 st.notes.length c3] := by rw [← hw4]; exact Blk.new _ _ _
      have HB4 : Hid (Below w.heap.size w w4) := Lib.hid (HB3.out.trans (l4.mono HB3.out.size))
      have HG4 := Lib.hid ((HGA.out.below l4).more l4.size)
      rw [hw4]
      have hvl : V.vs.length = 3 + 2 * L.length := by
        have h1 := HGA.out.len
        have h2 := HFL.out.len
        simp only [List.length_cons, List.length_nil] at h2
        omega
      have hnl : st.nodes.length = 3 + 2 * L.length := by rw [← HGA.out.len]; exact hvl
      have y2 : w4.cell? ⟨w3.heap.size, 2, none⟩ = some (.slice A1 V.vs.length c1) := b4.cell 2
      have n1 : st.nodes[1]'(by omega) = ⟨5, name, [], []⟩ := by
        have h2 := HFL.out.nodes
        simp [h2]
      have hv1 : 1 < V.vs.length := by omega
      obtain ⟨an, rfl, _, _, m1, _⟩ := node_at HG4.out.row hv1
      rw [(HG4.out.kind 1 hv1 (by omega)).2, n1] at m1
      have m1 : w4.cell? { block := an.block, off := an.off + 5 + 1 } = some (.string ⟨name.toArray⟩) := by simpa [Addr.add] using m1
      rw [hvl] at y2
      have HVL := Lib.hid hvl
      have HNL := Lib.hid hnl
      have hlenb : (((3 + 2 * L.length : Nat) : Int) != 3 + 2 * (L.length : Int)) = false := by rw [bne_eq_false_iff_eq]; omega
      clear hw4 l4 b4 hvl hnl n1
      go_upto_region 20 with fail
      clear m1 hlenb
      go_wp2_with fail
      go_loopw [11] (fun s11 wr => ∃ k n : Nat, k ≤ L.length ∧ s11 = .int .i64 k ∧ wr = w4.drewN n) (fun s11 _ => L.length - (intOf s11).toNat)
      case atStart => exact ⟨0, 0, by omega, rfl, rfl⟩
      case round =>
        obtain ⟨k, n, hk, rfl, rfl⟩ := hrel
        by_cases hlt : k < L.length
        · have hltI2 : (k : Int) < (L.length : Int) := by omega
          obtain ⟨ad, rfl, _, p0, p1⟩ := pair_at (HRW.out.below HB4.out) hlt
          obtain ⟨⟨u, v⟩, he⟩ : ∃ e, L[k] = e := ⟨_, rfl⟩
          rw [he] at p0 p1
          have hvl := HVL.out
          have hnl := HNL.out
          obtain ⟨g1, g2⟩ := HFL.out.get k hlt
          simp only [List.length_cons, List.length_nil] at g1 g2
          rw [he] at g1 g2
          have i1 : 3 + 2 * k < V.vs.length := by omega
          have i2 : 4 + 2 * k < V.vs.length := by omega
          have j1 : 3 + 2 * k < st.nodes.length := by omega
          have j2 : 4 + 2 * k < st.nodes.length := by omega
          obtain ⟨a1, ha1, _, _, q1, _⟩ := node_at HG4.out.row i1
          obtain ⟨a2, ha2, _, _, q2, _⟩ := node_at HG4.out.row i2
          injection ha1 with ha1
          injection ha2 with ha2
          subst ha1
          subst ha2
          have e1 : st.nodes[3 + 2 * k] = ⟨5, u, [], []⟩ := (List.getElem?_eq_some_iff.1 g1).2
          have e2 : st.nodes[4 + 2 * k] = ⟨5, v, [], []⟩ := (List.getElem?_eq_some_iff.1 g2).2
          rw [(HG4.out.kind _ i1 j1).2, e1] at q1
          rw [(HG4.out.kind _ i2 j2).2, e2] at q2
          have s1 : IntKind.i64.wrap (2 * (k : Int)) = 2 * (k : Int) := IntWalk.i64_in _ (by omega)
          have s2 : IntKind.i64.wrap (3 + 2 * (k : Int)) = 3 + 2 * (k : Int) := IntWalk.i64_in _ (by omega)
          have s3 : IntKind.i64.wrap (4 + 2 * (k : Int)) = 4 + 2 * (k : Int) := IntWalk.i64_in _ (by omega)
          have s4 : (3 + 2 * (k : Int)).toNat = 3 + 2 * k := by omega
          have s5 : (4 + 2 * (k : Int)).toNat = 4 + 2 * k := by omega
          have s6 : (0 : Int) ≤ 3 + 2 * (k : Int) := by omega
          have s7 : (0 : Int) ≤ 4 + 2 * (k : Int) := by omega
          have s8 : 3 + 2 * (k : Int) < 3 + 2 * (L.length : Int) := by omega
          have s9 : 4 + 2 * (k : Int) < 3 + 2 * (L.length : Int) := by omega
          clear g1 g2 he e1 e2 hvl hnl
          go_wp2_with fail
          go_quiet (fail)
          go_wp2_with fail
          go_roundw
          case rel => exact ⟨k + 1, _, by omega, by go_num, rfl⟩
          case measure => simp [intOf]; omega
        · have hltI2 : ¬ ((k : Int) < (L.length : Int)) := by omega
          go_wp2_with fail
          (try go_ret)
          exact ⟨rfl, below_drewN HB4.out _⟩
set_option maxHeartbeats 400000 in
theorem quotes_any (name : Ini.Str) (L : List (Ini.Str × Ini.Str)) (A : Option Addr) (c : Nat) (w : World) (hT : Lib.Utf8Tabs 0 1 w) (hw : 2 ≤ w.heap.size) (hr : RowAt pairL w w.heap.size A L) :
    Calls Tryd.prog 7 #[.string ⟨name.toArray⟩, .slice A L.length c] w fun e w' => e = .returned (.bool true) ∧ Below w.heap.size w w' := by
  by_cases hn : name.length ≤ 100
  · by_cases hl : L.length ≤ 10
    · by_cases hb : Ini.bad name = none
      · exact quotes_go name L A c w hT hw hn hl hb hr
      · exact quotes_bad name L A c w hT hw hn hl hb
    · exact quotes_long2 name L A c w hT hw hn hl
  · exact quotes_long1 name L A c w hT hw hn
end Go.Proofs.YtegdemnfjmaicaaDoor
