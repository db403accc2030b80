/- Walks of the reference: Splice. -/
import Derived.Test.YtnnicjbceadnbaaRef1
import Derived.Test.YtnnicjbceadnbaaPlainB
namespace Go.Proofs.Ytnnicjbceadnbaa
open Go.RowKit
open Sp (Ed Ce chk)

set_option maxHeartbeats 2000000 in
theorem rsplice_any (cs : List Ce) (es : List Ed) (A A' : Option Addr) (c c' : Nat) (hv : chk cs.length 0 (-1) es = 0) (hc : cs.length ≤ c) (hsz : es.length * cs.length + Sp.txt es + cs.length ≤ 1073741824) (hel : es.length ≤ 1073741824)
    (w : World) (hr : RowAt ceL w w.heap.size A cs) (hre : EdsAt w w.heap.size A' es) :
    Calls Try.prog 16 #[.slice A cs.length c, .slice A' es.length c'] w fun e w' => ∃ v, e = .returned v ∧ OwnRow ceL w' w.heap.size 59 v (Sp.spl cs es) ∧ Below w.heap.size w w' := by
  have hasc := Sp.chk_asc _ _ _ _ hv
  have hok := Sp.chk_ok _ _ _ _ hv
  obtain ⟨i59, hi59, h59z, h59s, _⟩ := info_parts (show (Try.prog.info? 59).map (fun i => (i.zero, i.size, i.bytes)) = some (some (.agg #[.int .i64 0, .int .u8 0]), 2, 16) by kernel_rfl)
  have HASC := Lib.hid hasc
  have HOK := Lib.hid hok
  have HSZ := Lib.hid hsz
  have hcl : cs.length ≤ 1073741824 := by omega
  clear hasc hok hv hsz
  go_enter Try.func16, Try.ntmps16
  go_wp2_with fail
  go_loopw [5, 6, 7] (fun v a i wr => ∃ k : Nat, k ≤ es.length ∧ i = .int .i64 k ∧ a = .int .i64 (Sp.atTo 0 (es.take k)) ∧ OwnRow ceL wr w.heap.size 59 v (Sp.splTo cs 0 (es.take k)) ∧ Below w.heap.size w wr) (fun _ _ i _ => (es.length - intOf i).toNat)
  case atStart => exact ⟨0, by omega, rfl, rfl, OwnRow.nil, Below.refl _ _⟩
  case round =>
    obtain ⟨k, hk, rfl, rfl, hown, hb⟩ := hrel
    have hz := hb.size
    have hat : 0 ≤ Sp.atTo 0 (es.take k) ∧ Sp.atTo 0 (es.take k) ≤ cs.length :=
      Sp.atTo_mem 0 (es.take k) (fun z => 0 ≤ z ∧ z ≤ cs.length) (by omega) (fun x hx => by have := HOK.out x (List.mem_of_mem_take hx); unfold Sp.Eok at this; omega)
    have hln := Sp.splTo_len cs 0 (es.take k)
    rw [List.length_take, Nat.min_eq_left hk] at hln
    have htx := Sp.txt_take_le es k
    by_cases hlt : k < es.length
    · obtain ⟨ad, rfl, hab, c1, c2, c3⟩ := EdsAt.at_ (hre.below hb) hlt
      have HCELL : Hid (∀ W : World, Below w.heap.size w W → W.cell? (ad.add (k * 3)) = some (.int .i64 es[k].f) ∧ W.cell? { block := (ad.add (k * 3)).block, off := (ad.add (k * 3)).off + 1 } = some (.int .i64 es[k].t) ∧ W.cell? { block := (ad.add (k * 3)).block, off := (ad.add (k * 3)).off + 2 } = some (.string ⟨es[k].s.toArray⟩)) := Lib.hid fun W hW => by
        obtain ⟨ad', ea, _, h1, h2, h3⟩ := EdsAt.at_ (hre.below hW) hlt
        cases ea
        exact ⟨h1, h2, h3⟩
      have hsn : Sp.splTo cs 0 (es.take (k + 1)) = Sp.splTo cs 0 (es.take k) ++ Sp.cut cs (Sp.atTo 0 (es.take k)) es[k].f ++ Sp.news es[k].s := by rw [Sp.take_snoc es k hlt, Sp.splTo_snoc]
      have hat1 : Sp.atTo 0 (es.take (k + 1)) = es[k].t := by rw [Sp.take_snoc es k hlt, Sp.atTo_snoc]
      have hfa := HASC.out k hlt
      have hek := HOK.out es[k] (List.getElem_mem hlt)
      unfold Sp.Eok at hek
      have htk : Sp.txt (es.take (k + 1)) = Sp.txt (es.take k) + es[k].s.length := by rw [Sp.take_snoc es k hlt, Sp.txt_snoc]
      have htl := Sp.txt_take_le es (k + 1)
      have hmul : (k + 1) * cs.length ≤ es.length * cs.length := Nat.mul_le_mul_right _ hlt
      rw [Nat.add_mul, Nat.one_mul] at hmul
      have hcut := Sp.cut_len cs (Sp.atTo 0 (es.take k)) es[k].f
      generalize es[k] = x at *
      have HLEN : Hid ((Sp.splTo cs 0 (es.take k)).length + (Sp.cut cs (Sp.atTo 0 (es.take k)) x.f).length + x.s.length ≤ 1073741824) := Lib.hid (by have := HSZ.out; omega)
      have hxs : x.s.length ≤ 1073741824 := by have := HSZ.out; omega
      have HS := Lib.hid hsn
      have HAT := Lib.hid hat1
      clear hsn hat1 hcut hmul htl htk htx hln
      generalize Sp.atTo 0 (es.take k) = a0 at *
      obtain ⟨q1, q2, q3⟩ := hek
      have hcutrow := ((hr.below hb).sub (show a0.toNat ≤ x.f.toNat by omega) (by omega) hc)
      have hcl2 : ((cs.drop a0.toNat).take (x.f.toNat - a0.toNat)).length = x.f.toNat - a0.toNat := by rw [List.length_take, List.length_drop]; omega
      have hsl := fun W => run_slice_lhI (P := Try.prog) 31 59 i59 Try.underlying31 hi59 A cs.length c a0 x.f hat.1 hfa (by omega) W
      rw [h59s] at hsl
      obtain ⟨A2, hA2⟩ : ∃ A2, A2 = (if c = a0.toNat then A else A.map (·.add (a0.toNat * 2))) := ⟨_, rfl⟩
      change RowAt ceL wr w.heap.size (if c = a0.toNat then A else A.map (·.add (a0.toNat * 2))) _ at hcutrow
      rw [← hA2] at hsl hcutrow
      rw [← hcl2] at hsl
      have HCUT : Hid (Sp.cut cs a0 x.f = (cs.drop a0.toNat).take (x.f.toNat - a0.toNat)) := Lib.hid rfl
      generalize (cs.drop a0.toNat).take (x.f.toNat - a0.toNat) = cu at *
      clear hA2 hcl2
      go_wp2_with (at_builtin; go_must (refine wpList_append_row _ rfl (.tmp 15) (.tmp 23) 31 59 16 rfl ceT w.heap.size _ _ rfl hown _ A2 _ cu rfl hcutrow ?_ ?_ ?_))
      any_goals (first | rfl | omega | (have := HLEN.out; rw [HCUT.out] at this; omega))
      intro v1 w1 hown1 hg1 hat1
      have hB1 := hb.trans (hown.grown_below hg1 (by omega))
      have hz1 := hB1.size
      clear hcutrow hsl c1 c2 c3 hg1 hat1
      obtain ⟨c1, c2, c3⟩ := HCELL.out w1 hB1
      go_wp2_with fail
      obtain ⟨wo, hwo⟩ : ∃ wo : World, wo = w1 := ⟨_, rfl⟩
      subst hwo
      go_loopw [5, 8] (fun v i wr => ∃ j : Nat, j ≤ x.s.length ∧ i = .int .i64 j ∧ OwnRow ceL wr w.heap.size 59 v (Sp.splTo cs 0 (es.take k) ++ cu ++ Sp.news (x.s.take j)) ∧ Below w.heap.size w wr) (fun _ i _ => (x.s.length - intOf i).toNat)
      case atStart => exact ⟨0, by omega, rfl, by simpa [Sp.news] using hown1, hB1⟩
      case round =>
        clear c1 c2 c3
        obtain ⟨j, hj, rfl, hown2, hb2⟩ := hrel
        have hz2 := hb2.size
        obtain ⟨c1, c2, c3⟩ := HCELL.out wr hb2
        by_cases hjl : j < x.s.length
        · have hnt := Sp.news_take x.s j hjl
          have HNT := Lib.hid hnt
          clear hnt
          have HL2 : Hid ((Sp.splTo cs 0 (es.take k) ++ cu ++ Sp.news (x.s.take j)).length + 1 ≤ 1073741824) := Lib.hid (by
            have := HLEN.out
            rw [HCUT.out] at this
            simp only [List.length_append, Sp.news, List.length_map, List.length_take]
            omega)
          go_wp2_with (at_builtin; go_must (refine wpList_append_row _ rfl (.tmp 35) (.tmp 44) 31 59 16 rfl ceT w.heap.size _ _ rfl (hown2.alloc _) _ _ 1 [⟨-1, x.s[j]⟩] rfl (RowAt.lit1 _ _ rfl _ ?_) ?_ ?_ ?_))
          any_goals (first | rfl | omega | (exact HL2.out) | (rw [World.size_alloc]; omega))
          intro v3 w3 hown3 hg3 hat3
          have hB3 := (hb2.alloc hz2 _).trans ((hown2.alloc _).grown_below hg3 (by rw [World.size_alloc]; omega))
          go_wp2_with fail
          go_roundw
          case rel => exact ⟨j + 1, by omega, by go_num, by rw [HNT.out, List.append_assoc]; exact hown3, hB3⟩
          case measure => simp [intOf]; omega
        · have hjj : x.s.take j = x.s := List.take_of_length_le (by omega)
          rw [hjj] at hown2
          clear hjj
          go_wp2_with fail
          go_roundw
          case rel => exact ⟨k + 1, by omega, by go_num, by rw [HAT.out], by rw [HS.out, HCUT.out]; exact hown2, hb2⟩
          case measure => simp [intOf]; omega
    · obtain rfl : k = es.length := by omega
      rw [List.take_length] at *
      have hsl := fun W => run_slice_lI (P := Try.prog) 31 59 i59 Try.underlying31 hi59 A cs.length c (Sp.atTo 0 es) hat.1 hat.2 W
      rw [h59s] at hsl
      have hdr := (hr.below hb).drop (show (Sp.atTo 0 es).toNat ≤ cs.length by omega) hc
      change RowAt ceL wr w.heap.size (if c = (Sp.atTo 0 es).toNat then A else A.map (·.add ((Sp.atTo 0 es).toNat * 2))) _ at hdr
      obtain ⟨A2, hA2⟩ : ∃ A2, A2 = (if c = (Sp.atTo 0 es).toNat then A else A.map (·.add ((Sp.atTo 0 es).toNat * 2))) := ⟨_, rfl⟩
      have hcl2 : (cs.drop (Sp.atTo 0 es).toNat).length = cs.length - (Sp.atTo 0 es).toNat := by rw [List.length_drop]
      rw [← hA2] at hsl hdr
      rw [← hcl2] at hsl
      have HSPL : Hid (Sp.spl cs es = Sp.splTo cs 0 es ++ cs.drop (Sp.atTo 0 es).toNat) := Lib.hid rfl
      have HLEN : Hid ((Sp.splTo cs 0 es).length + (cs.drop (Sp.atTo 0 es).toNat).length ≤ 1073741824) := Lib.hid (by have := HSZ.out; rw [hcl2]; omega)
      clear hA2 hcl2 hln htx
      generalize cs.drop (Sp.atTo 0 es).toNat = cu at *
      go_wp2_with (at_builtin; go_must (refine wpList_append_row _ rfl (.tmp 51) (.tmp 54) 31 59 16 rfl ceT w.heap.size _ _ rfl hown _ A2 _ cu rfl hdr ?_ ?_ ?_))
      any_goals (first | rfl | omega | (exact HLEN.out))
      intro v1 w1 hown1 hg1 hat1
      have hB1 := hb.trans (hown.grown_below hg1 (by omega))
      go_wp2_with fail
      go_ret
      exact ⟨_, rfl, by rw [HSPL.out]; exact hown1, hB1⟩
end Go.Proofs.Ytnnicjbceadnbaa
