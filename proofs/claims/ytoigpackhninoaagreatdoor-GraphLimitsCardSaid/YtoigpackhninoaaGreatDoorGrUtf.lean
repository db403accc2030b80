/- Walks: codepoint.Check. -/
import GoSem.Core.Utf8
import Derived.Test.YtoigpackhninoaaGreatDoorGr
import Derived.Test.YtoigpackhninoaaGreatDoorRow
import Derived.Test.YtoigpackhninoaaGreatDoorShelf
import Derived.Lib.Hide
import Derived.Lib.OthersKept
import Derived.Laws.RangeAny
import Derived.Outline
import Derived.Deep.DeepCutAuto
import Derived.Deep.CutBlock
import Derived.BigRegion
namespace Go.Proofs.YtoigpackhninoaaGreatDoor
namespace Utf
abbrev Str := List UInt8
/-- the model's decoder at what is left of a string. -/
def dec (r : Str) : Nat × Nat :=
  let b (k : Nat) : Nat := (r.getD k 0).toNat
  let cont (k : Nat) : Bool := k < r.length && b k / 64 == 2
  if b 0 < 0x80 then (b 0, 1)
  else if b 0 / 32 == 6 && cont 1 then
    let c := (b 0 % 32) * 64 + b 1 % 64
    if c ≥ 0x80 then (c, 2) else (65533, 1)
  else if b 0 / 16 == 14 && cont 1 && cont 2 then
    let c := (b 0 % 16) * 4096 + (b 1 % 64) * 64 + b 2 % 64
    if c ≥ 0x800 && Utf8.valid c then (c, 3) else (65533, 1)
  else if b 0 / 8 == 30 && cont 1 && cont 2 && cont 3 then
    let c := (b 0 % 8) * 262144 + (b 1 % 64) * 4096 + (b 2 % 64) * 64 + b 3 % 64
    if c ≥ 0x10000 && Utf8.valid c then (c, 4) else (65533, 1)
  else (65533, 1)
theorem get_list (s : Str) (j : Nat) : ((⟨s.toArray⟩ : ByteArray).get! j) = s.getD j 0 := by
  show (s.toArray)[j]! = _
  rw [List.getElem!_toArray, List.getElem!_eq_getElem?_getD, List.getD_eq_getElem?_getD]
  rfl
theorem decode_list (s : Str) (i : Nat) : Utf8.decode ⟨s.toArray⟩ i = dec (s.drop i) := by
  have hb : ∀ k, (⟨s.toArray⟩ : ByteArray).get! (i + k) = (s.drop i).getD k 0 := by
    intro k
    rw [get_list, List.getD_eq_getElem?_getD, List.getD_eq_getElem?_getD, List.getElem?_drop]
  have hs : (⟨s.toArray⟩ : ByteArray).size = s.length := by simp [ByteArray.size]
  have hc : ∀ k, decide (i + k < (⟨s.toArray⟩ : ByteArray).size) = decide (k < (s.drop i).length) := by
    intro k
    rw [hs, List.length_drop, decide_eq_decide]; omega
  unfold Utf8.decode dec
  simp only [hb, hc, Utf8.runeError]
/-- the offset of the first byte that begins no sequence. -/
def badU : Nat → Str → Nat → Option Nat
  | 0, _, _ => none
  | n + 1, r, i => match r with
    | [] => none
    | _ :: _ => if (dec r).1 = 65533 ∧ (dec r).2 = 1 then some i else badU n (r.drop (dec r).2) (i + (dec r).2)
def bad (s : Str) : Option Nat := badU s.length s 0
theorem dec_width (r : Str) : 1 ≤ (dec r).2 ∧ (dec r).2 ≤ 4 := by
  unfold dec
  simp only
  repeat' split
  all_goals (constructor <;> simp)
theorem dec_len (r : Str) (h : r ≠ []) : (dec r).2 ≤ r.length := by
  have h0 : 0 < r.length := List.length_pos_iff.2 h
  unfold dec
  simp only
  repeat' split
  all_goals (simp_all <;> omega)
theorem badU_fuel (n m : Nat) (r : Str) (i : Nat) (hn : r.length ≤ n) (hm : r.length ≤ m) : badU n r i = badU m r i := by
  induction n generalizing m r i with
  | zero =>
    have : r = [] := List.eq_nil_of_length_eq_zero (by omega)
    subst this
    cases m <;> rfl
  | succ n ih =>
    cases r with
    | nil => cases m <;> rfl
    | cons c q =>
      cases m with
      | zero => simp at hm
      | succ m =>
        have hw := dec_width (c :: q)
        unfold badU
        simp only
        split
        · rfl
        · exact ih m _ _ (by simp at hn ⊢; omega) (by simp at hm ⊢; omega)
theorem dec_ok (r : Str) : r ≠ [] → (dec r).2 ≤ r.length := fun h => dec_len r h
def badR (r : Str) (i : Nat) : Option Nat := badU r.length r i
theorem badR_nil (i : Nat) : badR [] i = none := rfl
theorem badR_step (r : Str) (i d n : Nat) (hr : r ≠ []) (h : dec r = (d, n)) : badR r i = if d = 65533 ∧ n = 1 then some i else badR (r.drop n) (i + n) := by
  cases r with
  | nil => exact absurd rfl hr
  | cons c q =>
    unfold badR
    show badU (q.length + 1) (c :: q) i = _
    rw [show badU (q.length + 1) (c :: q) i = if (dec (c :: q)).1 = 65533 ∧ (dec (c :: q)).2 = 1 then some i else badU q.length ((c :: q).drop (dec (c :: q)).2) (i + (dec (c :: q)).2) from rfl, h]
    split
    · rfl
    · have h1 := (dec_width (c :: q)).1
      rw [h] at h1
      have h1 : 1 ≤ n := h1
      refine badU_fuel _ _ _ _ ?_ (Nat.le_refl _)
      rw [List.length_drop, List.length_cons]; omega
theorem bad_R (s : Str) : bad s = badR s 0 := rfl
end Utf
open Go.RowKit
theorem extract_dropU (s : Utf.Str) (a : Nat) : (⟨s.toArray⟩ : ByteArray).extract a s.length = ⟨(s.drop a).toArray⟩ := by
  rw [extract_list', List.take_of_length_le (by simp)]
/-- what Check answers. -/
def ckVal (o : Option Nat) : Value := match o with
  | some i => .tuple #[.int .i64 (i : Nat), .int .i64 11]
  | none => .tuple #[.int .i64 (-1), .int .i64 0]
theorem tabs_below {B : Nat} {w w' : World} (h : Lib.Utf8Tabs 1 2 w) (hb : Below B w w') (hB : 3 ≤ B) : Lib.Utf8Tabs 1 2 w' :=
  ⟨fun c hc => (hb.cell (by simp; omega)).trans (h.1 c hc), fun i hi => ⟨(hb.cell (by simp; omega)).trans (h.2 i hi).1, (hb.cell (by simp; omega)).trans (h.2 i hi).2⟩⟩
theorem decode_call (s : Utf.Str) (pos d n : Nat) (h : pos < s.length) (hd : Utf.dec (s.drop pos) = (d, n)) (W : World) (hT : Lib.Utf8Tabs 1 2 W) :
    Calls Tryz.prog 91 #[.string ((⟨s.toArray⟩ : ByteArray).extract pos s.length)] W fun e w' => e = .returned (.tuple #[.int .i32 d, .int .i64 n]) ∧ Below W.heap.size W w' := by
  have e0 : (⟨s.toArray⟩ : ByteArray).extract pos s.length = ⟨(s.drop pos).toArray⟩ := by
    rw [extract_dropU]
  rw [e0]
  refine (Tryz.utf8_DecodeRuneInString _ W hT).mono ?_
  rintro e w' ⟨rfl, hb⟩
  have e1 : Lib.decodeGo ⟨(s.drop pos).toArray⟩ = (d, n) := by
    unfold Lib.decodeGo
    rw [if_neg (by simp [ByteArray.size]; omega), Utf.decode_list, List.drop_zero, hd]
  rw [e1]
  exact ⟨rfl, hb⟩
set_option maxRecDepth 100000 in
set_option maxHeartbeats 2000000 in
theorem codepoint_any (s : Utf.Str) (hs : s.length ≤ 1073741823) (w : World) (hT : Lib.Utf8Tabs 1 2 w) (hw : 3 ≤ w.heap.size) (v : Value) (hv : ckVal (Utf.bad s) = v) :
    Calls Tryz.prog 72 #[.string ⟨s.toArray⟩] w fun e w' => e = .returned v ∧ Below w.heap.size w w' := by
  have HV := Lib.hid hv
  have HT := Lib.hid hT
  clear hv hT
  go_enter Tryz.func72, Tryz.ntmps72
  go_wp2_with fail
  go_loopw [10] (fun x wr => ∃ pos : Nat, pos ≤ s.length ∧ wr.heap[w.heap.size]? = some (.stringIter ⟨s.toArray⟩ pos) ∧ Below w.heap.size w wr ∧ Hid (Utf.bad s = Utf.badR (s.drop pos) pos)) (fun _ wr => s.length - wr.iterPos w.heap.size)
  case atStart => exact ⟨0, by omega, World.iter_heap w _ 0, (Below.refl _ _).alloc (Nat.le_refl _) _, Lib.hid rfl⟩
  case round =>
    obtain ⟨pos, hp, hk, hb, HC⟩ := hrel
    have HK := Lib.hid hk
    have HBW := Lib.hid hb
    by_cases hlt : pos < s.length
    · obtain ⟨d, n, hd⟩ : ∃ d n, Utf.dec (s.drop pos) = (d, n) := ⟨_, _, rfl⟩
      have hne : s.drop pos ≠ [] := by intro e; have := congrArg List.length e; simp at this; omega
      have hwd := Utf.dec_width (s.drop pos)
      have hle := Utf.dec_ok (s.drop pos) hne
      rw [hd] at hwd hle
      have hstep := Utf.badR_step (s.drop pos) pos d n hne hd
      rw [List.drop_drop] at hstep
      have hn1 : 1 ≤ n := hwd.1
      have hn2 : pos + n ≤ s.length := by have : n ≤ (s.drop pos).length := hle; simp at this; omega
      have hnx : ∀ ty, (Instr.next (.pointer (some ⟨w.heap.size, 0, none⟩)) true ty).run Tryz.prog wr = .ok (.tuple #[.bool true, .int .i64 pos, .int .i32 d]) (wr.iterAt w.heap.size ⟨s.toArray⟩ (pos + n)) := by
        intro ty
        rw [Lib.run_next_any_at wr w.heap.size ⟨s.toArray⟩ pos ty hk (by simp [ByteArray.size]; omega), Utf.decode_list, hd]
      obtain ⟨w2, hw2⟩ : ∃ w2, wr.iterAt w.heap.size ⟨s.toArray⟩ (pos + n) = w2 := ⟨_, rfl⟩
      have hk2 : w2.heap[w.heap.size]? = some (.stringIter ⟨s.toArray⟩ (pos + n)) := by rw [← hw2]; exact Lib.iterAt_heap wr _ _ pos _ hk
      have hb2 : Below w.heap.size w w2 := by rw [← hw2]; exact Lib.below_iterAt hb (Nat.le_refl _) _ _
      rw [hw2] at hnx
      have HK2 := Lib.hid hk2
      have HB2 := Lib.hid hb2
      have HST := Lib.hid hstep
      have HD := Lib.hid hd
      have hsz : w.heap.size < w2.heap.size := (Array.getElem?_eq_some_iff.1 hk2).1
      have hpI : (pos : Int) ≤ (s.length : Int) := by omega
      have HME : Hid (wr.iterPos w.heap.size = pos) := Lib.hid (iterPos_of hk)
      clear hw2 hk2 hb2 hstep hd hwd hle hne hk hb
      by_cases h65 : d = 65533
      · have k1 : (d : Int) = 65533 := by omega
        have HDD : Hid (Utf.dec (s.drop pos) = (65533, n)) := Lib.hid (by rw [HD.out, h65])
        by_cases hn : n = 1
        · have HX : Hid (ckVal (some pos) = v) := Lib.hid (by rw [← HV.out, HC.out, HST.out, if_pos ⟨h65, hn⟩])
          have k2 : (n : Int) = 1 := by omega
          clear h65 hn
          go_wp2_with fail
          refine (decode_call s pos 65533 n hlt HDD.out _ (tabs_below HT.out HB2.out hw)).mono ?_
          rintro e w3 ⟨rfl, hb3⟩
          have HB3 : Hid (Below w.heap.size w w3) := Lib.hid (HB2.out.trans (hb3.mono HB2.out.size))
          clear hb3
          go_wp2_with fail
          (try refine bodyPost_ret (v := .tuple #[.int .i64 pos, .int .i64 11]) (by simp [results, Tryz.results72, go_sem]) rfl ?_)
          exact ⟨by rw [← HX.out]; rfl, HB3.out⟩
        · have HX : Hid (Utf.bad s = Utf.badR (s.drop (pos + n)) (pos + n)) := Lib.hid (by rw [HC.out, HST.out, if_neg (by simp [hn])])
          have k2 : ¬ ((n : Int) = 1) := by omega
          have k2b : ((n : Int) == 1) = false := by simpa using k2
          clear h65 hn
          go_wp2_with fail
          refine (decode_call s pos 65533 n hlt HDD.out _ (tabs_below HT.out HB2.out hw)).mono ?_
          rintro e w3 ⟨rfl, hb3⟩
          have HB3 : Hid (Below w.heap.size w w3) := Lib.hid (HB2.out.trans (hb3.mono HB2.out.size))
          have HK3 : Hid (w3.heap[w.heap.size]? = some (.stringIter ⟨s.toArray⟩ (pos + n))) := Lib.hid ((hb3.block _ hsz).trans HK2.out)
          clear hb3
          go_wp2_with fail
          go_roundw
          case rel => exact ⟨pos + n, hn2, HK3.out, HB3.out, HX⟩
          case measure => rw [iterPos_of HK3.out, HME.out]; omega
      · have k1 : ¬ ((d : Int) = 65533) := by omega
        have k1b : ((d : Int) == 65533) = false := by simpa using k1
        have HX : Hid (Utf.bad s = Utf.badR (s.drop (pos + n)) (pos + n)) := Lib.hid (by rw [HC.out, HST.out, if_neg (by simp [h65])])
        go_wp2_with fail
        go_roundw
        case rel => exact ⟨pos + n, hn2, HK2.out, HB2.out, HX⟩
        case measure => rw [iterPos_of HK2.out, HME.out]; omega
    · have hnx : ∀ ty, (Instr.next (.pointer (some ⟨w.heap.size, 0, none⟩)) true ty).run Tryz.prog wr = .ok (.tuple #[.bool false]) wr := fun ty => Lib.run_next_end_at wr w.heap.size ⟨s.toArray⟩ pos ty hk (by simp [ByteArray.size]; omega)
      have HX : Hid (ckVal none = v) := Lib.hid (by rw [← HV.out, HC.out, List.drop_eq_nil_of_le (by omega)]; rfl)
      clear hk hb
      go_wp2_with fail
      (try refine bodyPost_ret (v := .tuple #[.int .i64 (-1), .int .i64 0]) (by simp [results, Tryz.results72, go_sem]) rfl ?_)
      exact ⟨by rw [← HX.out]; rfl, HBW.out⟩
end Go.Proofs.YtoigpackhninoaaGreatDoor
