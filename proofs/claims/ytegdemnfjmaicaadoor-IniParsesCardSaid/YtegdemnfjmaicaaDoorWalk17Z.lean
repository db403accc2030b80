/- Walks: control. Walks: codepoint.Check. -/
import Derived.Test.YtegdemnfjmaicaaDoorWalk10
import Derived.Test.YtegdemnfjmaicaaDoorPlainZ
import Derived.Lib.OthersKept
import Derived.Laws.RangeAny
namespace Go.Proofs.YtegdemnfjmaicaaDoor
open Go.RowKit
namespace Ini
theorem ctl_go (c : UInt8) (r : Str) (i : Nat) (h : 32 ≤ c.toNat ∨ c = 9 ∨ c = 10 ∨ (c = 13 ∧ r.head? = some 10)) : ctl (c :: r) i = ctl r (i + 1) := by
  unfold ctl
  rw [if_neg]
  · cases r <;> rfl
  · rcases h with h | h | h | ⟨h, h2⟩
    · have : ¬ c < 32 := by rw [UInt8.lt_iff_toNat_lt]; simpa using h
      simp [this]
    · simp [h]
    · simp [h]
    · simp [h, h2]
theorem ctl_stop (c : UInt8) (r : Str) (i : Nat) (h : c.toNat < 32) (h9 : c ≠ 9) (h10 : c ≠ 10) (h13 : c = 13 → r.head? ≠ some 10) : ctl (c :: r) i = some i := by
  unfold ctl
  rw [if_pos]
  have : c < 32 := by rw [UInt8.lt_iff_toNat_lt]; simpa using h
  by_cases hc : c = 13
  · simp [hc, h13 hc]
  · simp [this, h9, h10, hc]
end Ini
/-- an offset, or -1. -/
def offVal (o : Option Nat) : Value := match o with
  | some i => .int .i64 (i : Nat)
  | none => .int .i64 (-1)
theorem toNat_ne {c d : UInt8} (h : c ≠ d) : ¬ ((c.toNat : Int) = (d.toNat : Int)) := fun e => h (UInt8.toNat_inj.1 (by omega))
set_option maxRecDepth 100000 in
set_option maxHeartbeats 2000000 in
theorem control_any (s : Ini.Str) (hs : s.length ≤ 1073741823) (w : World) (v : Value) (hv : offVal (Ini.ctl s 0) = v) :
    Calls Tryd.prog 19 #[.string ⟨s.toArray⟩] w fun e w' => e = .returned v ∧ w = w' := by
  have HV := Lib.hid hv
  clear hv
  go_enter Tryd.func19, Tryd.ntmps19
  go_wp2_with fail
  go_loop [8] (fun x => ∃ i : Nat, i ≤ s.length ∧ x = .int .i64 i ∧ Hid (Ini.ctl s 0 = Ini.ctl (s.drop i) i)) (fun i => s.length - (intOf i).toNat)
  case atStart => exact ⟨0, by omega, rfl, Lib.hid rfl⟩
  case round =>
    obtain ⟨i, hi, rfl, HC⟩ := hrel
    by_cases hil : i < s.length
    · obtain ⟨c, hc⟩ : ∃ c, s[i] = c := ⟨_, rfl⟩
      obtain ⟨r, hr⟩ : ∃ r, s.drop (i + 1) = r := ⟨_, rfl⟩
      have hd : s.drop i = c :: r := by rw [List.drop_eq_getElem_cons hil, hc, hr]
      have q0 := byte_is s i hil c c c.toNat rfl hc rfl
      have hg : Hid ((32 ≤ c.toNat ∨ c = 9 ∨ c = 10 ∨ (c = 13 ∧ r.head? = some 10)) → Ini.ctl s 0 = Ini.ctl (s.drop (i + 1)) (i + 1)) := Lib.hid (fun h => by rw [HC.out, hd, Ini.ctl_go c r i h, hr])
      have hst : Hid (c.toNat < 32 → c ≠ 9 → c ≠ 10 → (c = 13 → r.head? ≠ some 10) → offVal (some i) = v) := Lib.hid (fun h1 h2 h3 h4 => by rw [← HV.out, HC.out, hd, Ini.ctl_stop c r i h1 h2 h3 h4])
      clear hd
      by_cases h32 : 32 ≤ c.toNat
      · have HX := Lib.hid (hg.out (.inl h32))
        have k1 : ¬ ((c.toNat : Int) < 32) := by omega
        have k2 : ¬ ((c.toNat : Int) = 10) := by omega
        have k3 : ¬ ((c.toNat : Int) = 13) := by omega
        have k2b : ((c.toNat : Int) == 10) = false := by simpa using k2
        have k3b : ((c.toNat : Int) == 13) = false := by simpa using k3
        clear hg hst h32
        go_wp2_with fail
        go_round
        case rel => exact ⟨i + 1, by omega, by go_num, HX⟩
        case measure => simp [intOf]; omega
      · have k1 : (c.toNat : Int) < 32 := by omega
        by_cases h10 : c = 10
        · have HX := Lib.hid (hg.out (.inr (.inr (.inl h10))))
          have k2 : (c.toNat : Int) = 10 := by rw [h10]; rfl
          clear hg hst h32 h10
          go_wp2_with fail
          go_round
          case rel => exact ⟨i + 1, by omega, by go_num, HX⟩
          case measure => simp [intOf]; omega
        · have k2 : ¬ ((c.toNat : Int) = 10) := toNat_ne h10
          have k2b : ((c.toNat : Int) == 10) = false := by simpa using k2
          by_cases h13 : c = 13
          · have k3 : (c.toNat : Int) = 13 := by rw [h13]; rfl
            by_cases hi1 : i + 1 < s.length
            · obtain ⟨d, hdd⟩ : ∃ d, s[i + 1] = d := ⟨_, rfl⟩
              have hrh : r.head? = some d := by rw [← hr, List.drop_eq_getElem_cons hi1, hdd]; rfl
              have q1 := byte_is s (i + 1) hi1 d d d.toNat rfl hdd rfl
              have hi1I : (i : Int) + 1 < (s.length : Int) := by omega
              by_cases hd10 : d = 10
              · have HX := Lib.hid (hg.out (.inr (.inr (.inr ⟨h13, by rw [hrh, hd10]⟩))))
                have k4 : (d.toNat : Int) = 10 := by rw [hd10]; rfl
                clear hg hst h32 h10 h13 hrh hd10 hc hdd hr
                go_wp2_with fail
                go_round
                case rel => exact ⟨i + 1, by omega, by go_num, HX⟩
                case measure => simp [intOf]; omega
              · have HX := Lib.hid (hst.out (by omega) (by rw [h13]; decide) h10 (fun _ e => hd10 (by rw [hrh] at e; injection e)))
                have k4 : ¬ ((d.toNat : Int) = 10) := toNat_ne hd10
                have k4b : ((d.toNat : Int) == 10) = false := by simpa using k4
                clear hg hst h32 h10 h13 hrh hd10 hc hdd hr
                go_wp2_with fail
                go_ret
                exact ⟨by rw [← HX.out]; rfl, rfl⟩
            · have hi1I : ¬ ((i : Int) + 1 < (s.length : Int)) := by omega
              have hrn : r = [] := by rw [← hr]; exact List.drop_eq_nil_of_le (by omega)
              have HX := Lib.hid (hst.out (by omega) (by rw [h13]; decide) h10 (fun _ e => by rw [hrn] at e; cases e))
              clear hg hst h32 h10 h13 hrn hc hr
              go_wp2_with fail
              go_ret
              exact ⟨by rw [← HX.out]; rfl, rfl⟩
          · have k3 : ¬ ((c.toNat : Int) = 13) := toNat_ne h13
            have k3b : ((c.toNat : Int) == 13) = false := by simpa using k3
            by_cases h9 : c = 9
            · have HX := Lib.hid (hg.out (.inr (.inl h9)))
              have k4 : (c.toNat : Int) = 9 := by rw [h9]; rfl
              clear hg hst h32 h10 h13 h9 hc hr k2 k2b k3 k3b k1
              go_wp2_with fail
              go_round
              case rel => exact ⟨i + 1, by omega, by go_num, HX⟩
              case measure => simp [intOf]; omega
            · have HX := Lib.hid (hst.out (by omega) h9 h10 (fun e => (h13 e).elim))
              have k4 : ¬ ((c.toNat : Int) = 9) := toNat_ne h9
              have k4b : ((c.toNat : Int) == 9) = false := by simpa using k4
              clear hg hst h32 h10 h13 h9 hc hr
              go_wp2_with fail
              go_ret
              exact ⟨by rw [← HX.out]; rfl, rfl⟩
    · have HX : Hid (offVal none = v) := Lib.hid (by rw [← HV.out, HC.out, List.drop_eq_nil_of_le (by omega)]; rfl)
      go_wp2_with fail
      go_ret
      exact ⟨by rw [← HX.out]; rfl, rfl⟩
end Go.Proofs.YtegdemnfjmaicaaDoor
namespace Go.Proofs.YtegdemnfjmaicaaDoor
open Go.RowKit
namespace Ini
theorem dec_ok (r : Str) : r ≠ [] → (dec r).2 ≤ r.length := fun h => dec_len r h
def badR (r : Str) (i : Nat) : Option Nat := badU r.length r i
theorem badR_nil (i : Nat) : badR [] i = none := rfl
theorem badR_step (r : Str) (i d n : Nat) (hr : r ≠ []) (h : dec r = (d, n)) : badR r i = if d = 65533 ∧ n = 1 then some i else badR (r.drop n) (i + n) := by
  cases r with
  | nil => exact absurd rfl hr
  | cons c q =>
    unfold badR
    show badU (q.length + 1) (c :: q) i = _
    rw [show badU (q.length + 1) (c :: q) i = if (dec (c :: q)).1 = 65533 ∧ (dec (c :: q)).2 = 1 then some i else badU q.length ((c :: q).drop (dec (c :: q)).2) (i + (dec (c :: q)).2) from rfl, h]
    split
    · rfl
    · have h1 := (dec_width (c :: q)).1
      rw [h] at h1
      have h1 : 1 ≤ n := h1
      refine badU_fuel _ _ _ _ ?_ (Nat.le_refl _)
      rw [List.length_drop, List.length_cons]; omega
theorem bad_R (s : Str) : bad s = badR s 0 := rfl
end Ini
/-- what Check answers. -/
def ckVal (o : Option Nat) : Value := match o with
  | some i => .tuple #[.int .i64 (i : Nat), .int .i64 11]
  | none => .tuple #[.int .i64 (-1), .int .i64 0]
theorem tabs_below {B : Nat} {w w' : World} (h : Lib.Utf8Tabs 0 1 w) (hb : Below B w w') (hB : 2 ≤ B) : Lib.Utf8Tabs 0 1 w' :=
  ⟨fun c hc => (hb.cell (by simp; omega)).trans (h.1 c hc), fun i hi => ⟨(hb.cell (by simp; omega)).trans (h.2 i hi).1, (hb.cell (by simp; omega)).trans (h.2 i hi).2⟩⟩
theorem decode_call (s : Ini.Str) (pos d n : Nat) (h : pos < s.length) (hd : Ini.dec (s.drop pos) = (d, n)) (W : World) (hT : Lib.Utf8Tabs 0 1 W) :
    Calls Tryd.prog 25 #[.string ((⟨s.toArray⟩ : ByteArray).extract pos s.length)] W fun e w' => e = .returned (.tuple #[.int .i32 d, .int .i64 n]) ∧ Below W.heap.size W w' := by
  have e0 : (⟨s.toArray⟩ : ByteArray).extract pos s.length = ⟨(s.drop pos).toArray⟩ := by
    rw [extract_seg]; unfold seg; rw [List.take_length]
  rw [e0]
  refine (Tryd.utf8_DecodeRuneInString _ W hT).mono ?_
  rintro e w' ⟨rfl, hb⟩
  have e1 : Lib.decodeGo ⟨(s.drop pos).toArray⟩ = (d, n) := by
    unfold Lib.decodeGo
    rw [if_neg (by simp [ByteArray.size]; omega), Ini.decode_list, List.drop_zero, hd]
  rw [e1]
  exact ⟨rfl, hb⟩
set_option maxRecDepth 100000 in
set_option maxHeartbeats 2000000 in
theorem check_any (s : Ini.Str) (hs : s.length ≤ 1073741823) (w : World) (hT : Lib.Utf8Tabs 0 1 w) (hw : 2 ≤ w.heap.size) (v : Value) (hv : ckVal (Ini.bad s) = v) :
    Calls Tryd.prog 18 #[.string ⟨s.toArray⟩] w fun e w' => e = .returned v ∧ Below w.heap.size w w' := by
  have HV := Lib.hid hv
  have HT := Lib.hid hT
  clear hv hT
  go_enter Tryd.func18, Tryd.ntmps18
  go_wp2_with fail
  go_loopw [10] (fun x wr => ∃ pos : Nat, pos ≤ s.length ∧ wr.heap[w.heap.size]? = some (.stringIter ⟨s.toArray⟩ pos) ∧ Below w.heap.size w wr ∧ Hid (Ini.bad s = Ini.badR (s.drop pos) pos)) (fun _ wr => s.length - wr.iterPos w.heap.size)
  case atStart => exact ⟨0, by omega, World.iter_heap w _ 0, (Below.refl _ _).alloc (Nat.le_refl _) _, Lib.hid rfl⟩
  case round =>
    obtain ⟨pos, hp, hk, hb, HC⟩ := hrel
    have HK := Lib.hid hk
    have HBW := Lib.hid hb
    by_cases hlt : pos < s.length
    · obtain ⟨d, n, hd⟩ : ∃ d n, Ini.dec (s.drop pos) = (d, n) := ⟨_, _, rfl⟩
      have hne : s.drop pos ≠ [] := by intro e; have := congrArg List.length e; simp at this; omega
      have hwd := Ini.dec_width (s.drop pos)
      have hle := Ini.dec_ok (s.drop pos) hne
      rw [hd] at hwd hle
      have hstep := Ini.badR_step (s.drop pos) pos d n hne hd
      rw [List.drop_drop] at hstep
      have hn1 : 1 ≤ n := hwd.1
      have hn2 : pos + n ≤ s.length := by have : n ≤ (s.drop pos).length := hle; simp at this; omega
      have hnx : ∀ ty, (Instr.next (.pointer (some ⟨w.heap.size, 0, none⟩)) true ty).run Tryd.prog wr = .ok (.tuple #[.bool true, .int .i64 pos, .int .i32 d]) (wr.iterAt w.heap.size ⟨s.toArray⟩ (pos + n)) := by
        intro ty
        rw [Lib.run_next_any_at wr w.heap.size ⟨s.toArray⟩ pos ty hk (by simp [ByteArray.size]; omega), Ini.decode_list, hd]
      obtain ⟨w2, hw2⟩ : ∃ w2, wr.iterAt w.heap.size ⟨s.toArray⟩ (pos + n) = w2 := ⟨_, rfl⟩
      have hk2 : w2.heap[w.heap.size]? = some (.stringIter ⟨s.toArray⟩ (pos + n)) := by rw [← hw2]; exact Lib.iterAt_heap wr _ _ pos _ hk
      have hb2 : Below w.heap.size w w2 := by rw [← hw2]; exact Lib.below_iterAt hb (Nat.le_refl _) _ _
      rw [hw2] at hnx
      have HK2 := Lib.hid hk2
      have HB2 := Lib.hid hb2
      have HST := Lib.hid hstep
      have HD := Lib.hid hd
      have hsz : w.heap.size < w2.heap.size := (Array.getElem?_eq_some_iff.1 hk2).1
      have hpI : (pos : Int) ≤ (s.length : Int) := by omega
      have HME : Hid (wr.iterPos w.heap.size = pos) := Lib.hid (iterPos_of hk)
      clear hw2 hk2 hb2 hstep hd hwd hle hne hk hb
      by_cases h65 : d = 65533
      · have k1 : (d : Int) = 65533 := by omega
        have HDD : Hid (Ini.dec (s.drop pos) = (65533, n)) := Lib.hid (by rw [HD.out, h65])
        by_cases hn : n = 1
        · have HX : Hid (ckVal (some pos) = v) := Lib.hid (by rw [← HV.out, HC.out, HST.out, if_pos ⟨h65, hn⟩])
          have k2 : (n : Int) = 1 := by omega
          clear h65 hn
          go_wp2_with fail
          refine (decode_call s pos 65533 n hlt HDD.out _ (tabs_below HT.out HB2.out hw)).mono ?_
          rintro e w3 ⟨rfl, hb3⟩
          have HB3 : Hid (Below w.heap.size w w3) := Lib.hid (HB2.out.trans (hb3.mono HB2.out.size))
          clear hb3
          go_wp2_with fail
          (try refine bodyPost_ret (v := .tuple #[.int .i64 pos, .int .i64 11]) (by simp [results, Tryd.results18, go_sem]) rfl ?_)
          exact ⟨by rw [← HX.out]; rfl, HB3.out⟩
        · have HX : Hid (Ini.bad s = Ini.badR (s.drop (pos + n)) (pos + n)) := Lib.hid (by rw [HC.out, HST.out, if_neg (by simp [hn])])
          have k2 : ¬ ((n : Int) = 1) := by omega
          have k2b : ((n : Int) == 1) = false := by simpa using k2
          clear h65 hn
          go_wp2_with fail
          refine (decode_call s pos 65533 n hlt HDD.out _ (tabs_below HT.out HB2.out hw)).mono ?_
          rintro e w3 ⟨rfl, hb3⟩
          have HB3 : Hid (Below w.heap.size w w3) := Lib.hid (HB2.out.trans (hb3.mono HB2.out.size))
          have HK3 : Hid (w3.heap[w.heap.size]? = some (.stringIter ⟨s.toArray⟩ (pos + n))) := Lib.hid ((hb3.block _ hsz).trans HK2.out)
          clear hb3
          go_wp2_with fail
          go_roundw
          case rel => exact ⟨pos + n, hn2, HK3.out, HB3.out, HX⟩
          case measure => rw [iterPos_of HK3.out, HME.out]; omega
      · have k1 : ¬ ((d : Int) = 65533) := by omega
        have k1b : ((d : Int) == 65533) = false := by simpa using k1
        have HX : Hid (Ini.bad s = Ini.badR (s.drop (pos + n)) (pos + n)) := Lib.hid (by rw [HC.out, HST.out, if_neg (by simp [h65])])
        go_wp2_with fail
        go_roundw
        case rel => exact ⟨pos + n, hn2, HK2.out, HB2.out, HX⟩
        case measure => rw [iterPos_of HK2.out, HME.out]; omega
    · have hnx : ∀ ty, (Instr.next (.pointer (some ⟨w.heap.size, 0, none⟩)) true ty).run Tryd.prog wr = .ok (.tuple #[.bool false]) wr := fun ty => Lib.run_next_end_at wr w.heap.size ⟨s.toArray⟩ pos ty hk (by simp [ByteArray.size]; omega)
      have HX : Hid (ckVal none = v) := Lib.hid (by rw [← HV.out, HC.out, List.drop_eq_nil_of_le (by omega)]; rfl)
      clear hk hb
      go_wp2_with fail
      (try refine bodyPost_ret (v := .tuple #[.int .i64 (-1), .int .i64 0]) (by simp [results, Tryd.results18, go_sem]) rfl ?_)
      exact ⟨by rw [← HX.out]; rfl, HBW.out⟩
end Go.Proofs.YtegdemnfjmaicaaDoor
