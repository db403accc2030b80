/- Walks of the reference: Check, Splice. -/
import Derived.Test.YtnnicjbceadnbaaRef1
namespace Go.Proofs.Ytnnicjbceadnbaa
open Go.RowKit
open Sp (Ed Ce chk)

set_option maxHeartbeats 2000000 in
theorem rcheck_any (n : Int) (A : Option Addr) (c : Nat) (l : List Ed) (hl : l.length ≤ 1073741824) (w : World) (hr : EdsAt w w.heap.size A l) :
    Calls Try.prog 13 #[.int .i64 n, .slice A l.length c] w fun e w' => e = .returned (.int .i64 (chk n 0 (-1) l)) ∧ Below w.heap.size w w' := by
  go_enter Try.func13, Try.ntmps13
  go_wp2_with fail
  go_loopw [5] (fun i wr => ∃ k : Nat, k ≤ l.length ∧ i = .int .i64 k ∧ Hid (chk n 0 (-1) l = chk n (Sp.behind l k).1 (Sp.behind l k).2 (l.drop k)) ∧ Below w.heap.size w wr) (fun i _ => (l.length - intOf i).toNat)
  case atStart => exact ⟨0, by omega, rfl, Lib.hid rfl, Below.refl _ _⟩
  case round =>
    obtain ⟨k, hk, rfl, HC, hb⟩ := hrel
    have hz := hb.size
    by_cases hlt : k < l.length
    · obtain ⟨ad, rfl, hab, c1, c2, c3⟩ := EdsAt.at_ (hr.below hb) hlt
      have hdrop : l.drop k = l[k] :: l.drop (k + 1) := List.drop_eq_getElem_cons hlt
      have hbh := behind_succ l k hlt
      have HBS := Lib.hid hbh
      have HD := Lib.hid hdrop
      clear hdrop hbh
      by_cases hk0 : k = 0
      · subst hk0
        have HC' : Hid (chk n 0 (-1) l = chk n 0 (-1) (l.drop 0)) := HC
        have ha0 : ad.add (0 * 3) = ad := by simp [Addr.add]
        rw [ha0] at c1 c2 c3
        clear ha0
        generalize l[0] = x at *
        by_cases e1 : x.f < 0
        · have HV : Hid (chk n 0 (-1) (x :: l.drop 1) = 2) := Lib.hid (by rw [chk, if_pos (by omega)])
          go_wp2_with fail
          go_ret
          exact ⟨ret_int (by rw [HC'.out, HD.out]; exact HV.out.symm), hb.alloc hz _⟩
        · by_cases e2 : x.t < x.f
          · have HV : Hid (chk n 0 (-1) (x :: l.drop 1) = 2) := Lib.hid (by rw [chk, if_pos (by omega)])
            go_wp2_with fail
            go_ret
            exact ⟨ret_int (by rw [HC'.out, HD.out]; exact HV.out.symm), hb.alloc hz _⟩
          · by_cases e3 : n < x.t
            · have HV : Hid (chk n 0 (-1) (x :: l.drop 1) = 2) := Lib.hid (by rw [chk, if_pos (by omega)])
              go_wp2_with fail
              go_ret
              exact ⟨ret_int (by rw [HC'.out, HD.out]; exact HV.out.symm), hb.alloc hz _⟩
            · have HV : Hid (chk n 0 (-1) (x :: l.drop 1) = chk n x.t (if x.f = x.t then x.f else -1) (l.drop 1)) := Lib.hid (by rw [chk, if_neg (by omega), if_neg (by omega)])
              go_wp2_with fail
              go_roundw
              case rel => exact ⟨1, by omega, by go_num, Lib.hid (by rw [HC'.out, HD.out, HBS.out]; exact HV.out), hb.alloc hz _⟩
              case measure => simp [intOf]; omega
      · obtain ⟨j, rfl⟩ : ∃ j, k = j + 1 := ⟨k - 1, by omega⟩
        have dd : ∀ o : Obj, (wr.alloc o).cell? (ad.add (j * 3)) = some (.int .i64 l[j].f) ∧ (wr.alloc o).cell? { block := (ad.add (j * 3)).block, off := (ad.add (j * 3)).off + 1 } = some (.int .i64 l[j].t) ∧
            (wr.alloc o).cell? { block := (ad.add (j * 3)).block, off := (ad.add (j * 3)).off + 2 } = some (.string ⟨l[j].s.toArray⟩) := fun o => by
          obtain ⟨ad', ea, hab', d1, d2, d3⟩ := EdsAt.at_ (Reads.alloc (hr.below hb) hz o) (show j < l.length by omega)
          cases ea
          exact ⟨d1, d2, d3⟩
        have d1 := fun o => (dd o).1
        have d2 := fun o => (dd o).2.1
        have d3 := fun o => (dd o).2.2
        clear dd
        have hj : j < l.length := by omega
        have HC' : Hid (chk n 0 (-1) l = chk n l[j].t (if l[j].f = l[j].t then l[j].f else -1) (l.drop (j + 1))) := Lib.hid (by rw [HC.out, behind_succ l j hj])
        clear HC
        generalize l[j + 1] = x at *
        generalize l[j] = y at *
        by_cases e1 : x.f < 0
        · have HV : Hid (∀ a b, chk n a b (x :: l.drop (j + 1 + 1)) = 2) := Lib.hid (fun a b => by rw [chk, if_pos (by omega)])
          go_wp2_with fail
          go_ret
          exact ⟨ret_int (by rw [HC'.out, HD.out, HV.out]), hb.alloc hz _⟩
        · by_cases e2 : x.t < x.f
          · have HV : Hid (∀ a b, chk n a b (x :: l.drop (j + 1 + 1)) = 2) := Lib.hid (fun a b => by rw [chk, if_pos (by omega)])
            go_wp2_with fail
            go_ret
            exact ⟨ret_int (by rw [HC'.out, HD.out, HV.out]), hb.alloc hz _⟩
          · by_cases e3 : n < x.t
            · have HV : Hid (∀ a b, chk n a b (x :: l.drop (j + 1 + 1)) = 2) := Lib.hid (fun a b => by rw [chk, if_pos (by omega)])
              go_wp2_with fail
              go_ret
              exact ⟨ret_int (by rw [HC'.out, HD.out, HV.out]), hb.alloc hz _⟩
            · by_cases e4 : x.f < y.t
              · have HV : Hid (∀ b, chk n y.t b (x :: l.drop (j + 1 + 1)) = 17) := Lib.hid (fun b => by rw [chk, if_neg (by omega), if_pos (by omega)])
                go_wp2_with fail
                go_ret
                exact ⟨ret_int (by rw [HC'.out, HD.out, HV.out]), (hb.alloc hz _).alloc (by simp; omega) _⟩
              · by_cases e5 : x.f = x.t
                · by_cases e6 : y.f = y.t
                  · by_cases e7 : x.f = y.f
                    · have HV : Hid (chk n y.t (if y.f = y.t then y.f else -1) (x :: l.drop (j + 1 + 1)) = 17) := Lib.hid (by rw [chk, if_neg (by omega), if_pos (by rw [if_pos e6]; omega)])
                      have b1 : (x.f == x.t) = true := by simpa using e5
                      have b2 : (y.f == y.t) = true := by simpa using e6
                      have b3 : (x.f == y.f) = true := by simpa using e7
                      clear e5 e6 e7
                      go_wp2_with fail
                      go_ret
                      exact ⟨ret_int (by rw [HC'.out, HD.out, HV.out]), (hb.alloc hz _).alloc (by simp; omega) _⟩
                    · have HV : Hid (chk n y.t (if y.f = y.t then y.f else -1) (x :: l.drop (j + 1 + 1)) = chk n x.t (if x.f = x.t then x.f else -1) (l.drop (j + 1 + 1))) := Lib.hid (by rw [chk, if_neg (by omega), if_neg (by rw [if_pos e6]; omega)])
                      have b1 : (x.f == x.t) = true := by simpa using e5
                      have b2 : (y.f == y.t) = true := by simpa using e6
                      have b3 : (x.f == y.f) = false := by simpa using e7
                      clear e5 e6 e7
                      go_wp2_with fail
                      go_roundw
                      case rel => exact ⟨j + 1 + 1, by omega, by go_num, Lib.hid (by rw [HC'.out, HD.out, HBS.out, HV.out]), (hb.alloc hz _).alloc (by simp; omega) _⟩
                      case measure => simp [intOf]; omega
                  · have HV : Hid (chk n y.t (if y.f = y.t then y.f else -1) (x :: l.drop (j + 1 + 1)) = chk n x.t (if x.f = x.t then x.f else -1) (l.drop (j + 1 + 1))) := Lib.hid (by rw [chk, if_neg (by omega), if_neg (by rw [if_neg e6]; omega)])
                    have b1 : (x.f == x.t) = true := by simpa using e5
                    have b2 : (y.f == y.t) = false := by simpa using e6
                    clear e5 e6
                    go_wp2_with fail
                    go_roundw
                    case rel => exact ⟨j + 1 + 1, by omega, by go_num, Lib.hid (by rw [HC'.out, HD.out, HBS.out, HV.out]), (hb.alloc hz _).alloc (by simp; omega) _⟩
                    case measure => simp [intOf]; omega
                · have HV : Hid (∀ b, chk n y.t b (x :: l.drop (j + 1 + 1)) = chk n x.t (if x.f = x.t then x.f else -1) (l.drop (j + 1 + 1))) := Lib.hid (fun b => by rw [chk, if_neg (by omega), if_neg (by omega)])
                  have b1 : (x.f == x.t) = false := by simpa using e5
                  clear e5
                  go_wp2_with fail
                  go_roundw
                  case rel => exact ⟨j + 1 + 1, by omega, by go_num, Lib.hid (by rw [HC'.out, HD.out, HBS.out, HV.out]), (hb.alloc hz _).alloc (by simp; omega) _⟩
                  case measure => simp [intOf]; omega
    · go_wp2_with fail
      go_ret
      exact ⟨ret_int (by rw [HC.out, List.drop_eq_nil_of_le (by omega)]; rfl), hb⟩
end Go.Proofs.Ytnnicjbceadnbaa
