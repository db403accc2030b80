/- Walks: edited. -/
import Derived.Test.YtnnicjbceadnbaaWalk2
namespace Go.Proofs.Ytnnicjbceadnbaa
open Go.RowKit
open Sp (Ed)
set_option maxHeartbeats 1000000 in
theorem edited_any (l es : List Ed) (A A' : Option Addr) (c c' : Nat) (n : Int) (hl : es.length * (l.length + 1) + l.length ≤ 1073741824) (hok : ∀ p ∈ l, Sp.Okp p) (hsz : Sp.size l ≤ 4611686018427387904)
    (hn : 0 ≤ n) (hn2 : n ≤ 4611686018427387904) (hes : ∀ x ∈ es, (0 ≤ x.f ∧ x.f ≤ 4611686018427387904) ∧ (0 ≤ x.t ∧ x.t ≤ 4611686018427387904) ∧ x.s.length ≤ 4611686018427387904)
    (hfs : ∀ p ∈ l, p.f ≤ 4611686018427387904) (w : World) (hr : EdsAt w w.heap.size A l) (hre : EdsAt w w.heap.size A' es) :
    Calls Try.prog 29 #[.slice A l.length c, .int .i64 n, .slice A' es.length c'] w fun e w' => ∃ v, e = .returned v ∧ OwnEds w' w.heap.size 61 v (Sp.edited l n 0 es) ∧ Below w.heap.size w w' := by
  have hl0 : l.length ≤ 1073741824 := by omega
  have hel : es.length ≤ 1073741824 := by
    have : es.length * 1 ≤ es.length * (l.length + 1) := Nat.mul_le_mul_left _ (by omega)
    omega
  have HL := Lib.hid hl
  have HOK := Lib.hid hok
  have HFS := Lib.hid hfs
  have HES := Lib.hid hes
  clear hl hok hfs hes
  go_enter Try.func29, Try.ntmps29
  go_wp2_with fail
  go_loopw [7, 8, 13] (fun v a i wr => ∃ k : Nat, k ≤ es.length ∧ i = .int .i64 k ∧ a = .int .i64 (Sp.atTo 0 (es.take k)) ∧ OwnEds wr w.heap.size 61 v (Sp.edTo l 0 (es.take k)) ∧ Below w.heap.size w wr) (fun _ _ i _ => (es.length - intOf i).toNat)
  case atStart => exact ⟨0, by omega, rfl, rfl, OwnEds.nil _ _ _, Below.refl _ _⟩
  case round =>
    obtain ⟨k, hk, rfl, rfl, hown, hb⟩ := hrel
    have hz := hb.size
    have hat : 0 ≤ Sp.atTo 0 (es.take k) ∧ Sp.atTo 0 (es.take k) ≤ 4611686018427387904 :=
      Sp.atTo_mem 0 (es.take k) (fun z => 0 ≤ z ∧ z ≤ 4611686018427387904) (by omega) (fun x hx => (HES.out x (List.mem_of_mem_take hx)).2.1)
    have hlen := Sp.edTo_len l 0 (es.take k)
    rw [List.length_take, Nat.min_eq_left hk] at hlen
    by_cases hlt : k < es.length
    · obtain ⟨ad, rfl, hab, c1, c2, c3⟩ := EdsAt.at_ (hre.below hb) hlt
      have hto : Sp.edTo l 0 (es.take (k + 1)) = Sp.edTo l 0 (es.take k) ++ Sp.part (Sp.atTo 0 (es.take k)) es[k].f 0 l ++ Sp.added es[k].s := by
        rw [Sp.take_snoc es k hlt, Sp.edTo_snoc]
      have hat1 : Sp.atTo 0 (es.take (k + 1)) = es[k].t := by rw [Sp.take_snoc es k hlt, Sp.atTo_snoc]
      obtain ⟨⟨e1, e2⟩, ⟨e3, e4⟩, e5⟩ := HES.out es[k] (List.getElem_mem hlt)
      generalize es[k] = x at *
      have hp1 := Sp.part_len (Sp.atTo 0 (es.take k)) x.f 0 l
      have HTO := Lib.hid hto
      have HAT := Lib.hid hat1
      have hkl : k * (l.length + 1) + (l.length + 1) ≤ es.length * (l.length + 1) := by
        rw [← Nat.succ_mul]; exact Nat.mul_le_mul_right _ hlt
      have HLEN : Hid ((Sp.edTo l 0 (es.take k)).length + (Sp.part (Sp.atTo 0 (es.take k)) x.f 0 l).length + 1 ≤ 1073741824) := Lib.hid (by have := HL.out; omega)
      clear hto hat1 hkl hlen hp1
      generalize Sp.atTo 0 (es.take k) = at0 at *
      have hra := hr
      go_wp2_with fail
      refine (part_any l A c at0 x.f hl0 HOK.out hsz hat.1 hat.2 e1 e2 HFS.out _ ?_).mono ?_
      · exact (hr.below (hb.alloc hz _)).more (by simp; omega)
      rintro e w1 ⟨v1, rfl, hp1, hbp⟩
      have hz1 := hbp.size
      simp only [World.size_alloc] at hz1
      obtain ⟨A1, cc1, rfl, hr1⟩ := hp1.form
      obtain ⟨d0, d1, d2⟩ := box_ed hbp
      have hB1 := hb.trans (((Below.refl w.heap.size wr).alloc hz _).trans (hbp.mono (by simp; omega)))
      have hown1 : OwnEds w1 w.heap.size 61 _ _ := (hown.alloc _).below hbp (fun k hk => ((hown.alloc _).lt k hk).2)
      go_wp2_with (at_builtin; go_must (refine wpList_append_eds _ rfl (.tmp 17) (.tmp 22) 54 61 rfl pcT w.heap.size _ _ rfl hown1 _ _ cc1 _ rfl hr1 ?_ ?_ ?_))
      · have := HLEN.out; omega
      · omega
      intro v2 w2 hown2 hg2 hat2
      have hz2 := hg2.size
      have hne := hown.ne_ (Nat.le_refl wr.heap.size)
      have d1' := grown_box hg2 (by omega) hne d1
      have d2' := grown_box hg2 (by omega) hne d2
      have hB2 := hB1.trans (hown1.grown_below hg2 (by omega))
      clear d0 d1 d2 hB1
      go_wp2_with fail
      refine (added_any x.s e5 _).mono ?_
      rintro e w3 ⟨v3, rfl, hp3, hb3⟩
      have hz3 := hb3.size
      obtain ⟨A3, cc3, rfl, hr3⟩ := hp3.form
      have d1 := (hb3.cell (p := ⟨wr.heap.size, 1, none⟩) (by simp; omega)).trans d1'
      have hB3 := hB2.trans (hb3.mono (by omega))
      have hown3 : OwnEds w3 w.heap.size 61 _ _ := hown2.below hb3 (fun k hk => (hown2.lt k hk).2)
      have hadd := Sp.added_len x.s
      go_wp2_with (at_builtin; go_must (refine wpList_append_eds _ rfl (.tmp 24) (.tmp 27) 54 61 rfl pcT w.heap.size _ _ rfl hown3 _ _ cc3 _ rfl hr3 ?_ ?_ ?_))
      · have := HLEN.out; rw [List.length_append]; omega
      · omega
      intro v4 w4 hown4 hg4 hat4
      have hne4 : some wr.heap.size ≠ v2.ownBlock := by
        rcases hat2 with h | h
        · rw [h]; exact hne
        · rw [h]; intro e; injection e; omega
      have d1'' := grown_box hg4 (by omega) hne4 d1
      have hB4 := hB3.trans (hown3.grown_below hg4 (by omega))
      clear d1 d1' d2' hB3 hB2
      go_wp2_with fail
      go_roundw
      case rel => exact ⟨k + 1, by omega, by go_num, by rw [HAT.out], by rw [HTO.out, List.append_assoc]; exact hown4, hB4⟩
      case measure => simp [intOf]; omega
    · obtain rfl : k = es.length := by omega
      rw [List.take_length] at *
      have HE := Lib.hid (Sp.edited_eq l n 0 es)
      have hp1 := Sp.part_len (Sp.atTo 0 es) n 0 l
      have HLEN : Hid ((Sp.edTo l 0 es).length + (Sp.part (Sp.atTo 0 es) n 0 l).length ≤ 1073741824) := Lib.hid (by have := HL.out; omega)
      clear hlen hp1
      generalize Sp.atTo 0 es = at0 at *
      go_wp2_with fail
      refine (part_any l A c at0 n hl0 HOK.out hsz hat.1 hat.2 hn hn2 HFS.out _ ?_).mono ?_
      · exact (hr.below hb).more (by omega)
      rintro e w1 ⟨v1, rfl, hp1, hbp⟩
      have hz1 := hbp.size
      obtain ⟨A1, cc1, rfl, hr1⟩ := hp1.form
      have hB1 := hb.trans (hbp.mono (by omega))
      have hown1 : OwnEds w1 w.heap.size 61 _ _ := hown.below hbp (fun k hk => (hown.lt k hk).2)
      go_wp2_with (at_builtin; go_must (refine wpList_append_eds _ rfl (.tmp 32) (.tmp 36) 54 61 rfl pcT w.heap.size _ _ rfl hown1 _ _ cc1 _ rfl hr1 ?_ ?_ ?_))
      · exact HLEN.out
      · omega
      intro v2 w2 hown2 hg2 hat2
      have hB2 := hB1.trans (hown1.grown_below hg2 (by omega))
      go_wp2_with fail
      go_ret
      exact ⟨_, rfl, by rw [HE.out]; exact hown2, hB2⟩
end Go.Proofs.Ytnnicjbceadnbaa
