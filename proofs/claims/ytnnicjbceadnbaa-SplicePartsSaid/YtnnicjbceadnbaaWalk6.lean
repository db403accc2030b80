/- Walks: normal. -/
import Derived.Test.YtnnicjbceadnbaaWalk5
namespace Go.Proofs.Ytnnicjbceadnbaa
open Go.RowKit
open Sp (Ed)

/-- the state of the loop in 'normal'. -/
structure NormAt (w wr : World) (n : Int) (ps : List Ed) (k : Nat) (a : Int) (s : List UInt8) (v : Value) (l : List Ed) : Prop where
  ba : Blk wr (w.heap.size + 1) 3 #[.int .i64 a]
  bt : Blk wr (w.heap.size + 1 + 1) 9 #[.string ⟨s.toArray⟩]
  bo : Blk wr w.heap.size 22 #[v]
  own : OwnEds wr w.heap.size 48 v l
  below : Below w.heap.size w wr
  size : w.heap.size + 3 ≤ wr.heap.size
  len : l.length ≤ k
  txt : s.length ≤ Sp.txt (ps.take k)
  eq : Sp.normal n 0 [] ps = l ++ Sp.normal n a s (ps.drop k)

set_option maxHeartbeats 1000000 in
theorem normal_any (n : Int) (ps : List Ed) (A : Option Addr) (c : Nat) (hl : ps.length ≤ 268435456) (htx : Sp.txt ps ≤ 1099511627776) (hps : ∀ p ∈ ps, p.f ≤ 1152921504606846976 ∧ 0 ≤ p.t ∧ p.t ≤ 1152921504606846976 ∧ -1 ≤ p.f)
    (w : World) (hr : EdsAt w w.heap.size A ps) :
    Calls Try.prog 32 #[.int .i64 n, .slice A ps.length c] w fun e w' => ∃ v, e = .returned v ∧ OwnEds w' w.heap.size 48 v (Sp.normal n 0 [] ps) ∧ Below w.heap.size w w' := by
  have HPS := Lib.hid hps
  clear hps
  go_enter Try.func32, Try.ntmps32
  go_wp2_with fail
  go_loopw [14] (fun i wr => ∃ (k : Nat) (a : Int) (s : List UInt8) (v : Value) (l : List Ed), k ≤ ps.length ∧ i = .int .i64 k ∧ NormAt w wr n ps k a s v l) (fun i _ => (ps.length - intOf i).toNat)
  case atStart => 
    refine ⟨0, 0, [], .slice none 0 0, [], by omega, rfl, ?_⟩
    have b1 := Blk.new w 22 #[.slice none 0 0]
    have b2 := Blk.new (w.alloc (.cells #[.slice none 0 0] 22)) 3 #[.int .i64 0]
    have b3 := Blk.new ((w.alloc (.cells #[.slice none 0 0] 22)).alloc (.cells #[.int .i64 0] 3)) 9 #[.string ⟨#[]⟩]
    simp only [World.size_alloc] at b2 b3
    exact ⟨b2.alloc _, b3, (b1.alloc _).alloc _, OwnEds.nil _ _ _, (((Below.refl _ _).alloc (Nat.le_refl _) _).alloc (by simp) _).alloc (by simp; omega) _, by simp, by simp, by simp, by simp⟩
  case round =>
    obtain ⟨k, a, s, v, l, hk, rfl, hN⟩ := hrel
    have hb := hN.below
    have hz := hN.size
    by_cases hlt : k < ps.length
    · obtain ⟨ad, rfl, hab, c1, c2, c3⟩ := EdsAt.at_ (hr.below hb) hlt
      have hdrop : ps.drop k = ps[k] :: ps.drop (k + 1) := List.drop_eq_getElem_cons hlt
      have htk : Sp.txt (ps.take (k + 1)) = Sp.txt (ps.take k) + ps[k].s.length := by rw [Sp.take_snoc ps k hlt, Sp.txt_snoc]
      have hle := Sp.txt_take_le ps (k + 1)
      obtain ⟨p1, p2, p3, p4⟩ := HPS.out ps[k] (List.getElem_mem hlt)
      generalize ps[k] = x at *
      have hs := hN.txt
      rw [htk] at hle
      have hsl : s.length + x.s.length ≤ 1099511627776 := by omega
      have HD := Lib.hid hdrop
      have HTK := Lib.hid htk
      clear hdrop htk hs
      by_cases hff : x.f < 0
      · have t1 : ∀ o : Obj, (wr.alloc o).cell? ⟨w.heap.size + 1 + 1, 0, none⟩ = some (.string ⟨s.toArray⟩) := fun o => (hN.bt.alloc o).cell 0
        have t2 : ∀ o : Obj, (wr.alloc o).frozen? ⟨w.heap.size + 1 + 1, 0, none⟩ = false := fun o => (hN.bt.alloc o).frozen 0
        have hcat := cat_list s x.s
        have HN := Lib.hid (show Sp.normal n a s (x :: ps.drop (k + 1)) = Sp.normal n a (s ++ x.s) (ps.drop (k + 1)) by rw [Sp.normal, if_pos hff])
        go_wp2_with fail
        go_roundw
        case rel =>
          refine ⟨k + 1, a, s ++ x.s, v, l, by omega, by go_num, ?_⟩
          have hne : w.heap.size + 1 ≠ w.heap.size + 1 + 1 := by omega
          refine ⟨(hN.ba.alloc _).far (p := ⟨w.heap.size + 1 + 1, 0, none⟩) (show w.heap.size + 1 ≠ w.heap.size + 1 + 1 by omega) _, by simpa using (hN.bt.alloc _).set_ 0 _, (hN.bo.alloc _).far (p := ⟨w.heap.size + 1 + 1, 0, none⟩) (show w.heap.size ≠ w.heap.size + 1 + 1 by omega) _,
            (hN.own.alloc _).setCell (p := ⟨w.heap.size + 1 + 1, 0, none⟩) (own_blk_ne hN.own hN.bt (by decide)) _, (hb.alloc (by omega) _).setCell (p := ⟨w.heap.size + 1 + 1, 0, none⟩) (by simp; omega) _, by simp [World.setCell]; omega, by have := hN.len; omega, ?_, ?_⟩
          · have := hN.txt; rw [HTK.out, List.length_append]; omega
          · rw [hN.eq, HD.out, HN.out]
        case measure => simp [intOf]; omega
      · have HN := Lib.hid (show Sp.normal n a s (x :: ps.drop (k + 1)) = Sp.shut a x.f s ++ Sp.normal n (x.f + x.t) [] (ps.drop (k + 1)) by rw [Sp.normal, if_neg hff])
        go_wp2_with fail
        refine (close_any _ w.heap.size (w.heap.size + 1) (w.heap.size + 1 + 1) w.heap.size v l a x.f s (hN.ba.alloc _) (hN.bt.alloc _) (hN.bo.alloc _) (hN.own.alloc _) (by have := hN.len; omega) (by simp; omega)).mono ?_
        rintro e w2 ⟨v2, rfl, ba, bt, bo, own2, kb⟩
        have d0 : w2.cell? ⟨wr.heap.size, 0, none⟩ = some (.int .i64 x.f) := kb.cell (by simp [go_sem]) (by rintro (h | h | h | h) <;> first | omega | exact absurd h (Ne.symm (hN.own.ne_ (Nat.le_refl _))))
        have d1 : w2.cell? ⟨wr.heap.size, 1, none⟩ = some (.int .i64 x.t) := kb.cell (by simp [go_sem]) (by rintro (h | h | h | h) <;> first | omega | exact absurd h (Ne.symm (hN.own.ne_ (Nat.le_refl _))))
        have f1 : w2.cell? ⟨w.heap.size + 1, 0, none⟩ = some (.int .i64 a) := ba.cell 0
        have f2 : w2.frozen? ⟨w.heap.size + 1, 0, none⟩ = false := ba.frozen 0
        go_wp2_with fail
        go_roundw
        case rel =>
          refine ⟨k + 1, x.f + x.t, [], v2, l ++ Sp.shut a x.f s, by omega, by go_num, ?_⟩
          have hsl2 := Sp.shut_len a x.f s
          have hbl : Below w.heap.size w w2 := (hb.alloc (by omega) _).trans (kb.below (by simp; omega) (by
            rintro j (h | h | h | h)
            · omega
            · omega
            · omega
            · exact (hN.own.lt j h).1))
          have hz2 := kb.size
          simp only [World.size_alloc] at hz2
          refine ⟨by simpa using ba.set_ 0 _, bt.far (p := ⟨w.heap.size + 1, 0, none⟩) (show w.heap.size + 1 + 1 ≠ w.heap.size + 1 by omega) _, bo.far (p := ⟨w.heap.size + 1, 0, none⟩) (show w.heap.size ≠ w.heap.size + 1 by omega) _,
            own2.setCell (p := ⟨w.heap.size + 1, 0, none⟩) (own_blk_ne own2 ba (by decide)) _, hbl.setCell (p := ⟨w.heap.size + 1, 0, none⟩) (by simp) _, by simp [World.setCell]; omega, by have := hN.len; rw [List.length_append]; omega, by simp, ?_⟩
          rw [hN.eq, HD.out, HN.out, List.append_assoc]
        case measure => simp [intOf]; omega
    · go_wp2_with fail
      refine (close_any _ w.heap.size (w.heap.size + 1) (w.heap.size + 1 + 1) w.heap.size v l a n s hN.ba hN.bt hN.bo hN.own (by have := hN.len; omega) (by omega)).mono ?_
      rintro e w2 ⟨v2, rfl, ba, bt, bo, own2, kb⟩
      have f1 : w2.cell? ⟨w.heap.size, 0, none⟩ = some v2 := bo.cell 0
      go_wp2_with fail
      go_ret
      refine ⟨_, rfl, ?_, ?_⟩
      · rw [hN.eq, List.drop_eq_nil_of_le (by omega)]
        exact own2
      · exact hb.trans (kb.below (by omega) (by
          rintro j (h | h | h | h)
          · omega
          · omega
          · omega
          · exact (hN.own.lt j h).1))
end Go.Proofs.Ytnnicjbceadnbaa
