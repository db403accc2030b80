/- Walks: Move, in the program and in the reference. -/
import Derived.Test.YtnnicjbceadnbaaRef2
namespace Go.Proofs.Ytnnicjbceadnbaa
open Go.RowKit
open Sp (Ed Ce chk)
namespace Sp
def within (off : Int) (x : Ed) : Bool := decide (x.f ≤ off) && decide (off < x.t)
def inside (off : Int) (l : List Ed) : Bool := l.any (within off)
def stepOf (off : Int) (x : Ed) : Int := if x.t ≤ off then x.s.length - (x.t - x.f) else 0
def shift (off : Int) : List Ed → Int
  | [] => 0
  | x :: r => stepOf off x + shift off r
theorem shift_snoc (off : Int) (l : List Ed) (x : Ed) : shift off (l ++ [x]) = shift off l + stepOf off x := by
  induction l with
  | nil => simp [shift]
  | cons y r ih => simp only [List.cons_append, shift, ih]; omega
theorem inside_snoc (off : Int) (l : List Ed) (x : Ed) : inside off (l ++ [x]) = (inside off l || within off x) := by simp [inside]
end Sp
/-- the greatest int. -/
def topI : Int := 9223372036854775807
def moved (l : List Ed) (off : Int) : Int := if off < 0 ∨ chk topI 0 (-1) l ≠ 0 ∨ Sp.inside off l = true then -1 else off + Sp.shift off l
theorem moved_yes {l : List Ed} {off : Int} (h : 0 ≤ off) (h2 : chk topI 0 (-1) l = 0) (h3 : Sp.inside off l = false) : moved l off = off + Sp.shift off l := by
  unfold moved; rw [if_neg]; simp [h2, h3]; omega
theorem moved_no1 {l : List Ed} {off : Int} (h : off < 0) : moved l off = -1 := by unfold moved; rw [if_pos (.inl h)]
theorem moved_no2 {l : List Ed} {off : Int} (h : chk topI 0 (-1) l ≠ 0) : moved l off = -1 := by unfold moved; rw [if_pos (.inr (.inl h))]
theorem moved_no3 {l : List Ed} {off : Int} (h : Sp.inside off l = true) : moved l off = -1 := by unfold moved; rw [if_pos (.inr (.inr h))]

/-- the state of Move's loop: e ≥ 0, what is added so far is small. -/
theorem chk_step_bad {e ii : Int} {x : Ed} {r : List Ed} (h : x.f < e ∨ x.t < x.f ∨ (x.f = x.t ∧ x.f = ii)) : chk topI e ii (x :: r) ≠ 0 := by
  rw [chk]
  split
  · decide
  · rw [if_pos (by omega)]; decide
theorem chk_step_good {e ii : Int} {x : Ed} {r : List Ed} (he : 0 ≤ e) (h1 : e ≤ x.f) (h2 : x.f ≤ x.t) (h3 : ¬ (x.f = x.t ∧ x.f = ii)) (ht : x.t ≤ topI) : chk topI e ii (x :: r) = chk topI x.t (if x.f = x.t then x.f else -1) r := by
  rw [chk, if_neg (by omega), if_neg (by omega)]
theorem topI_le {z : Int} (h : z ≤ 9223372036854775807) : z ≤ topI := h

/-- the head of Move's loop. -/
structure MoveAt (l : List Ed) (off : Int) (k : Nat) (e ii atv : Int) (ok : Bool) : Prop where
  chk : chk topI 0 (-1) l = chk topI e ii (l.drop k)
  pos : 0 ≤ e
  at_ : atv = off + Sp.shift off (l.take k)
  ok_ : ok = !Sp.inside off (l.take k)
  lo : -(1099511627776 : Int) * k ≤ Sp.shift off (l.take k)
  hi : Sp.shift off (l.take k) ≤ (1099511627776 : Int) * k

def MoveIs (l : List Ed) (off : Int) (w : World) (e : Ending) (w' : World) : Prop :=
  ∃ (n : Int) (ok : Bool), e = .returned (.tuple #[.int .i64 n, .bool ok]) ∧ Below w.heap.size w w' ∧
    ((ok = true ∧ 0 ≤ off ∧ chk topI 0 (-1) l = 0 ∧ Sp.inside off l = false ∧ n = off + Sp.shift off l) ∨ (ok = false ∧ n = 0 ∧ (off < 0 ∨ chk topI 0 (-1) l ≠ 0 ∨ Sp.inside off l = true)))

set_option maxHeartbeats 2000000 in
theorem move_any (l : List Ed) (A : Option Addr) (c : Nat) (off : Int) (hl : l.length ≤ 1048576) (ho : off ≤ 1099511627776) (hx : ∀ x ∈ l, x.t ≤ 9223372036854775807 ∧ x.s.length ≤ 1073741824) (w : World) (hr : EdsAt w w.heap.size A l) :
    Calls Try.prog 21 #[.slice A l.length c, .int .i64 off] w (MoveIs l off w) := by
  by_cases hoff : off < 0
  · go_enter Try.func21, Try.ntmps21
    go_wp2_with fail
    go_ret2
    exact ⟨0, false, rfl, Below.refl _ _, .inr ⟨rfl, rfl, .inl hoff⟩⟩
  have hoff0 : 0 ≤ off := by omega
  have HX := Lib.hid hx
  clear hx
  go_enter Try.func21, Try.ntmps21
  go_wp2_with fail
  go_loopw [6, 7, 8, 9, 17] (fun e ii at_ ok i wr => ∃ (k : Nat) (ez iz az : Int) (okb : Bool), k ≤ l.length ∧ i = .int .i64 k ∧ e = .int .i64 ez ∧ ii = .int .i64 iz ∧ at_ = .int .i64 az ∧ ok = .bool okb ∧ Hid (MoveAt l off k ez iz az okb) ∧ Below w.heap.size w wr) (fun _ _ _ _ i _ => (l.length - intOf i).toNat)
  case atStart => exact ⟨0, 0, -1, off, true, by omega, rfl, rfl, rfl, rfl, rfl, Lib.hid ⟨rfl, by omega, by simp [Sp.shift], by simp [Sp.inside], by simp [Sp.shift], by simp [Sp.shift]⟩, Below.refl _ _⟩
  case round =>
    obtain ⟨k, e, ii, atv, ok, hk, rfl, rfl, rfl, rfl, rfl, HM, hb⟩ := hrel
    have hz := hb.size
    have he0 := HM.out.pos
    by_cases hlt : k < l.length
    · obtain ⟨ad, rfl, hab, c1, c2, c3⟩ := EdsAt.at_ (hr.below hb) hlt
      have hdrop : l.drop k = l[k] :: l.drop (k + 1) := List.drop_eq_getElem_cons hlt
      have htk := Sp.take_snoc l k hlt
      obtain ⟨hxt, hxs⟩ := HX.out l[k] (List.getElem_mem hlt)
      generalize l[k] = x at *
      have HD := Lib.hid hdrop
      have HT := Lib.hid htk
      clear hdrop htk
      by_cases hbad : x.f < e ∨ x.t < x.f ∨ (x.f = x.t ∧ x.f = ii)
      · have HB : Hid (chk topI 0 (-1) l ≠ 0) := Lib.hid (by rw [HM.out.chk, HD.out]; exact chk_step_bad hbad)
        have fin : ∀ wk, Below w.heap.size w wk → MoveIs l off w (.returned (.tuple #[.int .i64 0, .bool false])) wk := fun wk hwk => ⟨0, false, rfl, hwk, .inr ⟨rfl, rfl, .inr (.inl HB.out)⟩⟩
        have FIN := Lib.hid fin
        clear fin
        by_cases b1 : x.f < e
        · clear hbad
          go_wp2_with fail
          go_ret2
          exact FIN.out _ (hb.alloc hz _)
        · by_cases b2 : x.t < x.f
          · clear hbad
            go_wp2_with fail
            go_ret2
            exact FIN.out _ (hb.alloc hz _)
          · have b3 : (x.f == x.t) = true := by simp; omega
            have b4 : (x.f == ii) = true := by simp; omega
            clear hbad
            go_wp2_with fail
            go_ret2
            exact FIN.out _ (hb.alloc hz _)
      · have b1 : e ≤ x.f := by omega
        have b2 : x.f ≤ x.t := by omega
        have b3 : ¬ (x.f = x.t ∧ x.f = ii) := by omega
        clear hbad
        have HC : Hid (chk topI 0 (-1) l = chk topI x.t (if x.f = x.t then x.f else -1) (l.drop (k + 1))) := Lib.hid (by rw [HM.out.chk, HD.out]; exact chk_step_good he0 b1 b2 b3 hxt)
        have hat : atv = off + Sp.shift off (l.take k) := HM.out.at_
        have hlo := HM.out.lo
        have hhi := HM.out.hi
        have hsh : Sp.shift off (l.take (k + 1)) = Sp.shift off (l.take k) + Sp.stepOf off x := by rw [HT.out, Sp.shift_snoc]
        have hin : Sp.inside off (l.take (k + 1)) = (Sp.inside off (l.take k) || Sp.within off x) := by rw [HT.out, Sp.inside_snoc]
        have hok := HM.out.ok_
        have hstep : -(1099511627776 : Int) ≤ Sp.stepOf off x ∧ Sp.stepOf off x ≤ 1099511627776 := by unfold Sp.stepOf; split <;> omega
        have HNEXT : Hid (∀ (iz az : Int) (okb : Bool), iz = (if x.f = x.t then x.f else -1) → az = atv + Sp.stepOf off x → okb = (ok && !Sp.within off x) → Hid (MoveAt l off (k + 1) x.t iz az okb)) := Lib.hid fun iz az okb h1 h2 h3 => by
          subst h1 h2 h3
          refine Lib.hid ⟨HC.out, by omega, by rw [hsh, hat]; omega, by rw [hin, hok, Bool.not_or], ?_, ?_⟩
          · rw [hsh]; simp only [Int.natCast_add]; omega
          · rw [hsh]; simp only [Int.natCast_add]; omega
        have hatlo : -1153202979583557632 ≤ atv := by
          have : (k : Int) ≤ 1048576 := by omega
          rw [hat]; omega
        have hathi : atv ≤ 1153203979583557632 := by
          have : (k : Int) ≤ 1048576 := by omega
          rw [hat]; omega
        have hT0 : Hid (¬ x.t ≤ off → Sp.stepOf off x = 0) := Lib.hid fun h => by simp [Sp.stepOf, h]
        have hT1 : Hid (x.t ≤ off → Sp.stepOf off x = x.s.length - (x.t - x.f)) := Lib.hid fun h => by simp [Sp.stepOf, h]
        have HSTEP0 := hstep
        clear hsh hin hok hat hlo hhi hstep
        by_cases q1 : x.f = x.t
        · have q2 : ¬ x.f = ii := fun h => b3 ⟨q1, h⟩
          have Q1 := Lib.hid q1
          have c4 : (x.f == x.t) = true := by simpa using q1
          have c5 : (x.f == ii) = false := by simpa using q2
          have hw : Hid (Sp.within off x = false) := Lib.hid (by simp [Sp.within]; omega)
          clear b3 q2 q1
          by_cases q3 : x.t ≤ off
          · have q4 : x.f ≤ off := by omega
            have q5 : ¬ off < x.t := by omega

            clear HSTEP0
            go_wp2_with fail
            go_roundw
            case rel => exact ⟨k + 1, x.t, x.f, (atv + (x.s.length - (x.t - x.f))), ok, by omega, by go_num, rfl, rfl, rfl, rfl, HNEXT.out x.f (atv + (x.s.length - (x.t - x.f))) ok (by rw [if_pos Q1.out]) (by rw [hT1.out q3]) (by rw [hw.out]; simp), hb.alloc hz _⟩
            case measure => simp [intOf]; omega
          · have q4 : ¬ x.f ≤ off := by have := Q1.out; omega
            clear HSTEP0
            go_wp2_with fail
            go_roundw
            case rel => exact ⟨k + 1, x.t, x.f, atv, ok, by omega, by go_num, rfl, rfl, rfl, rfl, HNEXT.out x.f atv ok (by rw [if_pos Q1.out]) (by rw [hT0.out q3]; omega) (by rw [hw.out]; simp), hb.alloc hz _⟩
            case measure => simp [intOf]; omega
        · have Q1 := Lib.hid q1
          have c4 : (x.f == x.t) = false := by simpa using q1
          clear b3 q1
          by_cases q3 : x.t ≤ off
          · have hw : Hid (Sp.within off x = false) := Lib.hid (by simp [Sp.within]; omega)
            have q4 : x.f ≤ off := by omega
            have q5 : ¬ off < x.t := by omega

            clear HSTEP0
            go_wp2_with fail
            go_roundw
            case rel => exact ⟨k + 1, x.t, (-1), (atv + (x.s.length - (x.t - x.f))), ok, by omega, by go_num, rfl, rfl, rfl, rfl, HNEXT.out (-1) (atv + (x.s.length - (x.t - x.f))) ok (by rw [if_neg Q1.out]) (by rw [hT1.out q3]) (by rw [hw.out]; simp), hb.alloc hz _⟩
            case measure => simp [intOf]; omega
          · by_cases q4 : x.f ≤ off
            · have q5 : off < x.t := by omega
              have hw : Hid (Sp.within off x = true) := Lib.hid (by simp [Sp.within]; omega)
              clear HSTEP0
              go_wp2_with fail
              go_roundw
              case rel => exact ⟨k + 1, x.t, (-1), atv, false, by omega, by go_num, rfl, rfl, rfl, rfl, HNEXT.out (-1) atv false (by rw [if_neg Q1.out]) (by rw [hT0.out q3]; omega) (by rw [hw.out]; simp), hb.alloc hz _⟩
              case measure => simp [intOf]; omega
            · have hw : Hid (Sp.within off x = false) := Lib.hid (by simp [Sp.within]; omega)
              clear HSTEP0
              go_wp2_with fail
              go_roundw
              case rel => exact ⟨k + 1, x.t, (-1), atv, ok, by omega, by go_num, rfl, rfl, rfl, rfl, HNEXT.out (-1) atv ok (by rw [if_neg Q1.out]) (by rw [hT0.out q3]; omega) (by rw [hw.out]; simp), hb.alloc hz _⟩
              case measure => simp [intOf]; omega
    · have hd : l.drop k = [] := List.drop_eq_nil_of_le (by omega)
      have hc0 : chk topI 0 (-1) l = 0 := by rw [HM.out.chk, hd]; rfl
      have hat := HM.out.at_
      have hok := HM.out.ok_
      rw [List.take_of_length_le (by omega)] at hat hok
      have HC0 := Lib.hid hc0
      have HAT := Lib.hid hat
      have HOK := Lib.hid hok
      clear hd hc0 hat hok
      cases ok with
      | true =>
        go_wp2_with fail
        go_ret2
        exact ⟨_, _, rfl, hb, .inl ⟨rfl, hoff0, HC0.out, by have := HOK.out; simpa using this, HAT.out⟩⟩
      | false =>
        go_wp2_with fail
        go_ret2
        exact ⟨_, _, rfl, hb, .inr ⟨rfl, rfl, .inr (.inr (by have := HOK.out; simpa using this))⟩⟩
end Go.Proofs.Ytnnicjbceadnbaa
