/- The walk of SpliceParts. -/
import Derived.Test.YtnnicjbceadnbaaPlainN
import Derived.Test.YtnnicjbceadnbaaLawD
namespace Go.Proofs.Ytnnicjbceadnbaa
open Go.RowKit
open Sp (Ed Ce chk)
/-- what Valid makes of a short list, again. -/
theorem val_short' {n : Nat} {l : List Ed} (h : shortB l = true) : chk n 0 (-1) (Sp.valGo n [] l) = 0 ∧ (Sp.valGo n [] l).length ≤ 30 ∧ Sp.txt (Sp.valGo n [] l) ≤ 3000 := by
  obtain ⟨h1, h2⟩ := short_each h
  have := valGo_len n [] l
  simp only [List.length_nil, Sp.txt] at this
  exact ⟨valGo_ok _ _ _ rfl, by omega, by omega⟩
theorem take_all_snoc {q : List Ed} {p : List Ed} {k : Nat} (hk : k < q.length) : ((q.take (k + 1)).filter (notIn p)).map (mvR p) = ((q.take k).filter (notIn p)).map (mvR p) ++ (if q[k] ∈ p then [] else [mvR p q[k]]) := by
  rw [Sp.take_snoc q k hk, List.filter_append, List.map_append]
  congr 1
  by_cases h : q[k] ∈ p
  · rw [if_pos h]; simp [notIn, h]
  · rw [if_neg h]; simp [notIn, h]
theorem move_val (l : List Ed) (A : Option Addr) (c : Nat) (off : Int) (hl : l.length ≤ 30) (ho : off ≤ 1099511627776) (src : List UInt8) (h300 : src.length ≤ 300) (htx : Sp.txt l ≤ 3000) (hc : chk src.length 0 (-1) l = 0) (w : World) (hr : EdsAt w w.heap.size A l) :
    Calls Try.prog 21 #[.slice A l.length c, .int .i64 off] w fun e w' => ∃ (n : Int) (ok : Bool), e = .returned (.tuple #[.int .i64 n, .bool ok]) ∧ (ok = true → n = off + Sp.shift off l) ∧ -1000000 ≤ n ∧ n ≤ 1099511727776 ∧ Below w.heap.size w w' := by
  have hv := val_mem (Sp.chk_val src.length l 0 (-1) (by omega) (by omega) hc)
  have hb := shift_bd 300 off l (fun x hx => by have := hv x hx; omega) (by omega)
  refine (move_any l A c off (by omega) ho (fun x hx => by have := hv x hx; have := txt_mem l x hx; omega) w hr).mono ?_
  rintro e w' ⟨n, ok, rfl, hbl, hc⟩
  refine ⟨n, ok, rfl, ?_, ?_, ?_, hbl⟩
  · intro h; rcases hc with hc | hc
    · exact hc.2.2.2.2
    · rw [hc.1] at h; cases h
  · rcases hc with hc | hc
    · have := hc.2.1; have := hc.2.2.2.2; omega
    · have := hc.2.1; omega
  · rcases hc with hc | hc
    · have := hc.2.2.2.2; omega
    · have := hc.2.1; omega
set_option maxRecDepth 100000 in
set_option maxHeartbeats 4000000 in
theorem law_parts (src : List UInt8) (a b : List Ed) (A B : Option Addr) (c d : Nat) (hsrc : src.length ≤ 9223372036854775807) (hf : Fits a) (hf2 : Fits b) (w : World) (hr : EdsAt w w.heap.size A a) (hr2 : EdsAt w w.heap.size B b) :
    Calls Try.prog 7 #[.string ⟨src.toArray⟩, .slice A a.length c, .slice B b.length d] w fun e w' => e = .returned (.bool true) ∧ Below w.heap.size w w' := by
  have HF := Lib.hid hf
  have HF2 := Lib.hid hf2
  clear hf hf2
  obtain ⟨W0, hW0⟩ : ∃ W0, W0 = w.alloc (.cells #[.slice A a.length c, .slice B b.length d] 22) := ⟨_, rfl⟩
  have hrs : RowAt svL W0 (w.heap.size + 1) (some ⟨w.heap.size, 0, none⟩) [(⟨A, a.length, c⟩ : Sv), ⟨B, b.length, d⟩] := by rw [hW0]; exact RowAt.lits _ _ rfl _ rfl
  have hal : AllAt W0 (w.heap.size + 1) [(⟨A, a.length, c⟩ : Sv), ⟨B, b.length, d⟩] [a, b] := by
    rw [hW0]; exact ⟨rfl, (hr.alloc (Nat.le_refl _) _).more (by omega), rfl, (hr2.alloc (Nat.le_refl _) _).more (by omega), trivial⟩
  have hz0 : W0.heap.size = w.heap.size + 1 := by rw [hW0]; simp
  have hsm := small_any src [a, b] [(⟨A, a.length, c⟩ : Sv), ⟨B, b.length, d⟩] (some ⟨w.heap.size, 0, none⟩) 2 hsrc (by simp)
    (by intro l hl; simp only [List.mem_cons, List.not_mem_nil, or_false] at hl; rcases hl with rfl | rfl; exact HF.out.1; exact HF2.out.1)
    (by intro l hl x hx; simp only [List.mem_cons, List.not_mem_nil, or_false] at hl; rcases hl with rfl | rfl; exact (HF.out.2 x hx).1; exact (HF2.out.2 x hx).1)
    W0 (by rw [hz0]; exact hrs) (by rw [hz0]; exact hal)
  have hr1 : EdsAt W0 w.heap.size A a := by rw [hW0]; exact hr.alloc (Nat.le_refl _) _
  have hs1 : EdsAt W0 w.heap.size B b := by rw [hW0]; exact hr2.alloc (Nat.le_refl _) _
  have hb1 : Below w.heap.size w W0 := by rw [hW0]; exact (Below.refl _ _).alloc (Nat.le_refl _) _
  rw [hW0] at hsm
  have HSM : Hid (Calls Try.prog 10 #[.string ⟨src.toArray⟩, .slice (some ⟨w.heap.size, 0, none⟩) 2 2] (w.alloc (.cells #[.slice A a.length c, .slice B b.length d] 22)) fun e w' => e = .returned (.bool (smallB src [a, b])) ∧ (w.alloc (.cells #[.slice A a.length c, .slice B b.length d] 22)) = w') := hsm
  have HW0 := Lib.hid hW0
  have HZ0 := Lib.hid hz0
  clear hsm hrs hal hW0 hz0
  cases hb : smallB src [a, b] with
  | false =>
    rw [hb] at HSM
    clear hb
    go_enter Try.func7, Try.ntmps7
    go_wp2_with fail
    refine HSM.out.mono ?_
    rintro e w1 ⟨rfl, rfl⟩
    go_wp2_with fail
    refine (awake_any _).mono ?_
    rintro e w2 ⟨rfl, hb2⟩
    go_wp2_with fail
    go_ret
    exact ⟨rfl, ((Below.refl _ _).alloc (Nat.le_refl _) _).trans (hb2.mono (by simp))⟩
  | true =>
    rw [hb] at HSM
    simp only [smallB, List.all_cons, List.all_nil, Bool.and_true, Bool.and_eq_true, decide_eq_true_eq] at hb
    obtain ⟨⟨hsa, hsb⟩, h300⟩ := hb
    have hla := (short_each hsa).1
    have hlb := (short_each hsb).1
    obtain ⟨p, hp⟩ : ∃ p, Sp.valGo src.length [] a = p := ⟨_, rfl⟩
    obtain ⟨q, hq⟩ : ∃ q, Sp.valGo src.length [] b = q := ⟨_, rfl⟩
    have fp := val_short' (n := src.length) hsa
    have fq := val_short' (n := src.length) hsb
    rw [hp] at fp
    rw [hq] at fq
    have hlp := fp.2.1
    have hlq := fq.2.1
    have FP := Lib.hid fp
    have FQ := Lib.hid fq
    have HP := Lib.hid hp
    have HQ := Lib.hid hq
    clear hsa hsb fp fq hp hq
    obtain ⟨J, hJ⟩ := ded_ex p q
    have hjl := hJ.len
    have HJ := Lib.hid hJ
    clear hJ
    obtain ⟨S, hS⟩ : ∃ S, Sp.asm src (pieces src p) = S := ⟨_, rfl⟩
    have HS := Lib.hid hS
    clear hS
    have HSM2 : Hid (Small src p) := Lib.hid (small_of (by omega) (by omega) (by have := FP.out.2.2; omega))
    by_cases hv3 : chk src.length 0 (-1) J = 0
    · have HV3 := Lib.hid hv3
      clear hv3
      go_enter Try.func7, Try.ntmps7
      go_wp2_with fail
      refine HSM.out.mono ?_
      rintro e w1 ⟨rfl, rfl⟩
      rw [← HW0.out]
      have hz1 := HZ0.out
      go_wp2_with fail
      refine (valid_any src.length a A c (by omega) _ (hr1.more (by omega))).mono ?_
      rw [HP.out]
      rintro e w2 ⟨v2, rfl, own2, hb2⟩
      have hz2 := hb2.size
      obtain ⟨Ap, cp, rfl, hrp2⟩ := own2.form
      clear own2
      have hs2 := hs1.below (hb2.mono (by omega))
      go_wp2_with fail
      refine (valid_any src.length b B d (by omega) _ (hs2.more (by omega))).mono ?_
      rw [HQ.out]
      rintro e w3 ⟨v3, rfl, own3, hb3⟩
      have hz3 := hb3.size
      obtain ⟨Aq, cq, rfl, hrq3⟩ := own3.form
      clear own3
      have hrp3 := hrp2.below (hb3.mono (by omega))
      go_wp2_with fail
      refine (join_good src p q J Ap Aq cp cq (by omega) (by omega) FP.out.1 FQ.out.1 HJ.out HV3.out _ (hrp3.more (by omega)) (hrq3.more (by omega))).mono ?_
      rintro e w4 ⟨v4, rfl, own4, hb4⟩
      have hz4 := hb4.size
      obtain ⟨Aj, cj, rfl, hrj4⟩ := own4.form
      clear own4
      have hrp4 := hrp3.below (hb4.mono (by omega))
      have hrq4 := hrq3.below (hb4.mono (by omega))
      go_wp2_with fail
      refine (apply_yes src p Ap cp HSM2.out _ (hrp4.more (by omega)) FP.out.1).mono ?_
      rw [HS.out]
      rintro e w5 ⟨rfl, hb5⟩
      have hz5 := hb5.size
      have hrp5 := hrp4.below (hb5.mono (by omega))
      have hrq5 := hrq4.below (hb5.mono (by omega))
      have hrj5 := hrj4.below (hb5.mono (by omega))
      have hbw5 : Below w.heap.size w w5 := ((((hb1.trans (hb2.mono (by omega))).trans (hb3.mono (by omega))).trans (hb4.mono (by omega))).trans (hb5.mono (by omega)))
      have hz05 := hbw5.size
      have hrpx := hrp5.more (B' := w5.heap.size) (by omega)
      have hrqx := hrq5.more (B' := w5.heap.size) (by omega)
      have hrjx := hrj5.more (B' := w5.heap.size) (by omega)
      clear hrp2 hrp3 hrp4 hrp5 hrq3 hrq4 hrq5 hrj4 hrj5 hb1 hb2 hb3 hb4 hb5 hz1 hz2 hz3 hz4 hz5 hs1 hs2 hr1 hr hr2 HW0 HZ0 HSM
      go_wp2_with fail
      go_loopw [13, 14] (fun v i wr => ∃ k : Nat, k ≤ q.length ∧ i = .int .i64 k ∧ OwnEds wr w5.heap.size 48 v (((q.take k).filter (notIn p)).map (mvR p)) ∧ Hid (∀ x ∈ q.take k, x ∉ p → x.f < x.t) ∧ Below w5.heap.size w5 wr) (fun _ i _ => (q.length - intOf i).toNat)
      case atStart => exact ⟨0, by omega, rfl, OwnEds.nil _ _ _, Lib.hid (by simp), Below.refl _ _⟩
      case round =>
        obtain ⟨k, hk, rfl, hown, HG, hb6⟩ := hrel
        have hz6 := hb6.size
        by_cases hlt : k < q.length
        · obtain ⟨ad, rfl, hab2, c1, c2, c3⟩ := EdsAt.at_ (hrqx.below hb6) hlt
          have hsn := take_all_snoc (p := p) hlt
          have hsq := Sp.take_snoc q k hlt
          have hxv := val_mem (Sp.chk_val src.length q 0 (-1) (by omega) (by omega) FQ.out.1) q[k] (List.getElem_mem hlt)
          generalize q[k] = x at *
          have HSN := Lib.hid hsn
          have HSQ := Lib.hid hsq
          have hol : (((q.take k).filter (notIn p)).map (mvR p)).length ≤ 30 := by
            rw [List.length_map]
            have h1 := List.length_filter_le (notIn p) (q.take k)
            rw [List.length_take] at h1; omega
          clear hsn hsq
          generalize ((q.take k).filter (notIn p)).map (mvR p) = out at *
          have hx0 := hxv.1
          have hx1 := hxv.2.1
          have hx2 := hxv.2.2
          clear hxv
          go_wp2_with fail
          obtain ⟨wo, hwo⟩ : ∃ wo : World, wo = wr := ⟨_, rfl⟩
          subst hwo
          go_loopw [15, 16] (fun g i wr' => ∃ j : Nat, j ≤ p.length ∧ i = .int .i64 j ∧ g = .bool (decide (x ∈ p.take j)) ∧ ∃ n, wr' = wo.drewN n) (fun _ i _ => (p.length - intOf i).toNat)
          case atStart => exact ⟨0, by omega, rfl, by simp, 0, rfl⟩
          case round =>
            obtain ⟨j, hj, rfl, rfl, nq, rfl⟩ := hrel
            by_cases hjl2 : j < p.length
            · obtain ⟨ad3, rfl, hab3, d1, d2, d3⟩ := EdsAt.at_ (hrpx.below hb6) hjl2
              have h1 := Sp.take_snoc p j hjl2
              have he := eqEd p[j] x
              generalize p[j] = y at *
              have H1 := Lib.hid h1
              clear h1
              by_cases hin : x ∈ p.take j
              · have hd : decide (x ∈ p.take j) = true := by simpa using hin
                have HV : Hid (decide (x ∈ p.take (j + 1)) = true) := Lib.hid (by rw [H1.out]; simp [hin])
                rw [hd]
                clear hin hd he
                go_wp2_with fail
                go_quiet (fail)
                go_wp2_with fail
                go_roundw
                case rel => exact ⟨j + 1, by omega, by go_num, by rw [HV.out], _, rfl⟩
                case measure => simp [intOf]; omega
              · have hd : decide (x ∈ p.take j) = false := by simpa using hin
                have HN := Lib.hid hin
                rw [hd]
                clear hin hd
                by_cases hxy : y = x
                · have hd2 : decide (y = x) = true := by simpa using hxy
                  have HV : Hid (decide (x ∈ p.take (j + 1)) = true) := Lib.hid (by rw [H1.out]; simp [hxy])
                  rw [hd2] at he
                  clear hxy hd2
                  go_wp2_with fail
                  go_quiet (fail)
                  go_wp2_with fail
                  go_roundw
                  case rel => exact ⟨j + 1, by omega, by go_num, by rw [HV.out], _, rfl⟩
                  case measure => simp [intOf]; omega
                · have hd2 : decide (y = x) = false := by simpa using hxy
                  have HV : Hid (decide (x ∈ p.take (j + 1)) = false) := Lib.hid (by rw [H1.out]; simp [HN.out, Ne.symm hxy])
                  rw [hd2] at he
                  clear hxy hd2
                  go_wp2_with fail
                  go_quiet (fail)
                  go_wp2_with fail
                  go_roundw
                  case rel => exact ⟨j + 1, by omega, by go_num, by rw [HV.out], _, rfl⟩
                  case measure => simp [intOf]; omega
            · obtain rfl : j = p.length := by omega
              rw [List.take_length]
              have hb7 : Below w5.heap.size w5 (wo.drewN nq) := hb6.drewN nq
              have hown7 : OwnEds (wo.drewN nq) w5.heap.size 48 _ out := hown.drewN nq
              have hz7 : (wo.drewN nq).heap.size = wo.heap.size := rfl
              have c1 : (wo.drewN nq).cell? (ad.add (k * 3)) = _ := c1
              have c2 : (wo.drewN nq).cell? { block := (ad.add (k * 3)).block, off := (ad.add (k * 3)).off + 1 } = _ := c2
              clear hown hb6 hjl2 hj
              have c3 : (wo.drewN nq).cell? { block := (ad.add (k * 3)).block, off := (ad.add (k * 3)).off + 2 } = _ := c3
              by_cases hin : x ∈ p
              · have hd : decide (x ∈ p) = true := by simpa using hin
                have HV : Hid (((q.take (k + 1)).filter (notIn p)).map (mvR p) = out) := Lib.hid (by rw [HSN.out, if_pos hin, List.append_nil])
                have HG2 : Hid (∀ y ∈ q.take (k + 1), y ∉ p → y.f < y.t) := Lib.hid (by
                  rw [HSQ.out]
                  intro y hy hn
                  rcases List.mem_append.1 hy with hy | hy
                  · exact HG.out y hy hn
                  · rw [List.mem_singleton] at hy; subst hy; exact absurd hin hn)
                rw [hd]
                clear hin hd
                go_wp2_with fail
                refine (move_val p Ap cp x.f (by omega) (by omega) src (by omega) FP.out.2.2 FP.out.1 _ ((hrpx.below hb7).more (by omega))).mono ?_
                rintro e w8 ⟨n1, ok1, rfl, hn1, hlo1, hhi1, hb8⟩
                have hz8 := hb8.size
                have HN1 := Lib.hid hn1
                clear hn1
                have c1 := (hb8.cell (p := ad.add (k * 3)) (by rw [block_of_add]; omega)).trans c1
                have c2 := (hb8.cell (p := { block := (ad.add (k * 3)).block, off := (ad.add (k * 3)).off + 1 }) (by show (ad.add (k * 3)).block < _; rw [block_of_add]; omega)).trans c2
                have c3 := (hb8.cell (p := { block := (ad.add (k * 3)).block, off := (ad.add (k * 3)).off + 2 }) (by show (ad.add (k * 3)).block < _; rw [block_of_add]; omega)).trans c3
                have hown8 : OwnEds w8 w5.heap.size 48 u13 out := hown7.below hb8 (fun j hj => (hown7.lt j hj).2)
                have hb58 : Below w5.heap.size w5 w8 := hb7.trans (hb8.mono (by omega))
                clear hown7 hb8
                go_wp2_with fail
                refine (move_val p Ap cp (x.t - 1) (by omega) (by omega) src (by omega) FP.out.2.2 FP.out.1 _ ((hrpx.below hb58).more (by omega))).mono ?_
                rintro e w9 ⟨n2, ok2, rfl, hn2, hlo2, hhi2, hb9⟩
                have hz9 := hb9.size
                have HN2 := Lib.hid hn2
                clear hn2
                have c1 := (hb9.cell (p := ad.add (k * 3)) (by rw [block_of_add]; omega)).trans c1
                have c2 := (hb9.cell (p := { block := (ad.add (k * 3)).block, off := (ad.add (k * 3)).off + 1 }) (by show (ad.add (k * 3)).block < _; rw [block_of_add]; omega)).trans c2
                have c3 := (hb9.cell (p := { block := (ad.add (k * 3)).block, off := (ad.add (k * 3)).off + 2 }) (by show (ad.add (k * 3)).block < _; rw [block_of_add]; omega)).trans c3
                have hown9 : OwnEds w9 w5.heap.size 48 u13 out := hown8.below hb9 (fun j hj => (hown8.lt j hj).2)
                have hb59 : Below w5.heap.size w5 w9 := hb58.trans (hb9.mono (by omega))
                clear hown8 hb9 hb58
                go_wp2_with fail
                go_roundw
                case rel => exact ⟨k + 1, by omega, by go_num, by rw [HV.out]; exact hown9, HG2, hb59⟩
                case measure => simp [intOf]; omega
              · have hd : decide (x ∈ p) = false := by simpa using hin
                have HIN := Lib.hid hin
                rw [hd]
                clear hin hd
                go_wp2_with fail
                refine (move_val p Ap cp x.f (by omega) (by omega) src (by omega) FP.out.2.2 FP.out.1 _ ((hrpx.below hb7).more (by omega))).mono ?_
                rintro e w8 ⟨n1, ok1, rfl, hn1, hlo1, hhi1, hb8⟩
                have hz8 := hb8.size
                have HN1 := Lib.hid hn1
                clear hn1
                have c1 := (hb8.cell (p := ad.add (k * 3)) (by rw [block_of_add]; omega)).trans c1
                have c2 := (hb8.cell (p := { block := (ad.add (k * 3)).block, off := (ad.add (k * 3)).off + 1 }) (by show (ad.add (k * 3)).block < _; rw [block_of_add]; omega)).trans c2
                have c3 := (hb8.cell (p := { block := (ad.add (k * 3)).block, off := (ad.add (k * 3)).off + 2 }) (by show (ad.add (k * 3)).block < _; rw [block_of_add]; omega)).trans c3
                have hown8 : OwnEds w8 w5.heap.size 48 u13 out := hown7.below hb8 (fun j hj => (hown7.lt j hj).2)
                have hb58 : Below w5.heap.size w5 w8 := hb7.trans (hb8.mono (by omega))
                clear hown7 hb8
                go_wp2_with fail
                refine (move_val p Ap cp (x.t - 1) (by omega) (by omega) src (by omega) FP.out.2.2 FP.out.1 _ ((hrpx.below hb58).more (by omega))).mono ?_
                rintro e w9 ⟨n2, ok2, rfl, hn2, hlo2, hhi2, hb9⟩
                have hz9 := hb9.size
                have HN2 := Lib.hid hn2
                clear hn2
                have c1 := (hb9.cell (p := ad.add (k * 3)) (by rw [block_of_add]; omega)).trans c1
                have c2 := (hb9.cell (p := { block := (ad.add (k * 3)).block, off := (ad.add (k * 3)).off + 1 }) (by show (ad.add (k * 3)).block < _; rw [block_of_add]; omega)).trans c2
                have c3 := (hb9.cell (p := { block := (ad.add (k * 3)).block, off := (ad.add (k * 3)).off + 2 }) (by show (ad.add (k * 3)).block < _; rw [block_of_add]; omega)).trans c3
                have hown9 : OwnEds w9 w5.heap.size 48 u13 out := hown8.below hb9 (fun j hj => (hown8.lt j hj).2)
                have hb59 : Below w5.heap.size w5 w9 := hb58.trans (hb9.mono (by omega))
                clear hown8 hb9 hb58
                by_cases e1 : x.f = x.t
                · have q1 : (x.f == x.t) = true := by simpa using e1
                  clear e1
                  go_wp2_with fail
                  go_quiet (fail)
                  go_wp2_with fail
                  refine (awake_any _).mono ?_
                  rintro e w10 ⟨rfl, hb10⟩
                  go_wp2_with fail
                  go_ret
                  exact ⟨rfl, (hbw5.trans ((hb59.drewN _).mono (by omega))).trans (hb10.mono (by show _ ≤ w9.heap.size; omega))⟩
                · have q1 : (x.f == x.t) = false := by simpa using e1
                  have hft : x.f < x.t := by omega
                  clear e1
                  cases ok1 with
                  | false =>
                    go_wp2_with fail
                    go_quiet (fail)
                    go_wp2_with fail
                    refine (awake_any _).mono ?_
                    rintro e w10 ⟨rfl, hb10⟩
                    go_wp2_with fail
                    go_ret
                    exact ⟨rfl, (hbw5.trans ((hb59.drewN _).mono (by omega))).trans (hb10.mono (by show _ ≤ w9.heap.size; omega))⟩
                  | true =>
                    cases ok2 with
                    | false =>
                      go_wp2_with fail
                      go_quiet (fail)
                      go_wp2_with fail
                      refine (awake_any _).mono ?_
                      rintro e w10 ⟨rfl, hb10⟩
                      go_wp2_with fail
                      go_ret
                      exact ⟨rfl, (hbw5.trans ((hb59.drewN _).mono (by omega))).trans (hb10.mono (by show _ ≤ w9.heap.size; omega))⟩
                    | true =>
                      by_cases e2 : n2 - n1 = x.t - 1 - x.f
                      · have q2 : (n2 - n1 != x.t - 1 - x.f) = false := by simpa using e2
                        have k1 := HN1.out rfl
                        have k2 := HN2.out rfl
                        have HMV : Hid (mvR p x = ⟨n1, n2 + 1, x.s⟩) := Lib.hid (by
                          unfold mvR by_
                          congr 1
                          · omega
                          · omega)
                        have HV : Hid (((q.take (k + 1)).filter (notIn p)).map (mvR p) = out ++ [⟨n1, n2 + 1, x.s⟩]) := Lib.hid (by rw [HSN.out, if_neg HIN.out, HMV.out])
                        have HG2 : Hid (∀ y ∈ q.take (k + 1), y ∉ p → y.f < y.t) := Lib.hid (by
                          rw [HSQ.out]
                          intro y hy hn
                          rcases List.mem_append.1 hy with hy | hy
                          · exact HG.out y hy hn
                          · rw [List.mem_singleton] at hy; subst hy; exact hft)
                        clear e2 k1 k2
                        go_wp2_with fail
                        go_quiet (fail)
                        have hol2 : out.length + 1 ≤ 1073741824 := by omega
                        go_wp2_with (at_builtin; go_must (refine wpList_append_eds _ rfl (.tmp 144) (.tmp 154) 22 48 rfl edT w5.heap.size _ out rfl ((hown9.drewN _).alloc _) _ _ 1 [⟨n1, n2 + 1, x.s⟩] rfl (EdsAt.lit _ _ _ _ ?_) ?_ ?_ ?_))
                        any_goals (first | rfl | omega | (simp only [List.length_singleton]; omega) | (rw [World.size_alloc]; show _ ≤ w9.heap.size + 1; omega))
                        intro v10 w10 hown10 hg10 hat10
                        have hB10 := ((hb59.drewN _).alloc (by show _ ≤ w9.heap.size; omega) _).trans (((hown9.drewN _).alloc _).grown_below hg10 (by rw [World.size_alloc]; show _ ≤ w9.heap.size + 1; omega))
                        clear hg10 hat10 hown9
                        go_wp2_with fail
                        go_roundw
                        case rel => exact ⟨k + 1, by omega, by go_num, by rw [HV.out]; exact hown10, HG2, hB10⟩
                        case measure => simp [intOf]; omega
                      · have q2 : (n2 - n1 != x.t - 1 - x.f) = true := by simpa using e2
                        clear e2
                        go_wp2_with fail
                        go_quiet (fail)
                        go_wp2_with fail
                        refine (awake_any _).mono ?_
                        rintro e w10 ⟨rfl, hb10⟩
                        go_wp2_with fail
                        go_ret
                        exact ⟨rfl, (hbw5.trans ((hb59.drewN _).mono (by omega))).trans (hb10.mono (by show _ ≤ w9.heap.size; omega))⟩
        · obtain rfl : k = q.length := by omega
          rw [List.take_length] at hown HG
          obtain ⟨S', U, hF⟩ := parts_facts src p q J h300 FP.out.2 FQ.out.2 FP.out.1 FQ.out.1 HJ.out HV3.out HG.out
          obtain rfl : S' = S := by rw [← hF.text, HS.out]
          have HFF := Lib.hid hF
          clear hF
          have hol : ((q.filter (notIn p)).map (mvR p)).length ≤ 30 := by
            rw [List.length_map]
            have h1 := List.length_filter_le (notIn p) q
            omega
          generalize (q.filter (notIn p)).map (mvR p) = R at *
          obtain ⟨A13, c13, rfl, hr13⟩ := hown.form
          clear hown
          have hrj6 := hrjx.below hb6
          go_wp2_with fail
          refine (apply_yes S' R A13 c13 HFF.out.sR _ hr13 HFF.out.ok).mono ?_
          rw [HFF.out.out]
          rintro e w7 ⟨rfl, hb7⟩
          have hz7 := hb7.size
          have hrj7 := hrj6.below (hb7.mono (by omega))
          go_wp2_with fail
          refine (apply_yes src J Aj cj HFF.out.sJ _ (hrj7.more (by omega)) HV3.out).mono ?_
          rw [HFF.out.all]
          rintro e w8 ⟨rfl, hb8⟩
          have hz8 := hb8.size
          go_wp2_with fail
          refine (awake_any _).mono ?_
          rintro e w10 ⟨rfl, hb10⟩
          go_wp2_with fail
          go_ret
          exact ⟨rfl, (((hbw5.trans (hb6.mono (by omega))).trans (hb7.mono (by omega))).trans (hb8.mono (by omega))).trans (hb10.mono (by omega))⟩
    · have hv3' : (chk src.length 0 (-1) J != 0) = true := by simpa using hv3
      have HV3 := Lib.hid hv3
      clear hv3
      go_enter Try.func7, Try.ntmps7
      go_wp2_with fail
      refine HSM.out.mono ?_
      rintro e w1 ⟨rfl, rfl⟩
      rw [← HW0.out]
      have hz1 := HZ0.out
      go_wp2_with fail
      refine (valid_any src.length a A c (by omega) _ (hr1.more (by omega))).mono ?_
      rw [HP.out]
      rintro e w2 ⟨v2, rfl, own2, hb2⟩
      have hz2 := hb2.size
      obtain ⟨Ap, cp, rfl, hrp2⟩ := own2.form
      clear own2
      have hs2 := hs1.below (hb2.mono (by omega))
      go_wp2_with fail
      refine (valid_any src.length b B d (by omega) _ (hs2.more (by omega))).mono ?_
      rw [HQ.out]
      rintro e w3 ⟨v3, rfl, own3, hb3⟩
      have hz3 := hb3.size
      obtain ⟨Aq, cq, rfl, hrq3⟩ := own3.form
      clear own3
      have hrp3 := hrp2.below (hb3.mono (by omega))
      go_wp2_with fail
      refine (join_bad src p q Ap Aq cp cq (by omega) (by omega) 18 (by omega) (.inr (.inr ⟨FP.out.1, FQ.out.1, rfl, J, HJ.out, HV3.out⟩)) _ (hrp3.more (by omega)) (hrq3.more (by omega))).mono ?_
      rintro e w4 ⟨A4, c4, rfl, hb4⟩
      have hz4 := hb4.size
      go_wp2_with fail
      refine (awake_any _).mono ?_
      rintro e w10 ⟨rfl, hb10⟩
      go_wp2_with fail
      go_ret
      exact ⟨rfl, (((hb1.trans (hb2.mono (by omega))).trans (hb3.mono (by omega))).trans (hb4.mono (by omega))).trans (hb10.mono (by omega))⟩
end Go.Proofs.Ytnnicjbceadnbaa
