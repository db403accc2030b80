/- The walk of SpliceAssociates. -/
import Derived.Test.YtnnicjbceadnbaaPlainJ
import Derived.Test.YtnnicjbceadnbaaLawF
namespace Go.Proofs.Ytnnicjbceadnbaa
open Go.RowKit
open Sp (Ed Ce chk)
/-- the two blocks that the law makes ahead of everything else. -/
def boxed (w : World) (A B C : Option Addr) (a b c p q r : Nat) : World :=
  (w.alloc (.cells #[.slice A a p, .slice B b q, .slice C c r] 50)).alloc (.cells #[.slice A a p, .slice B b q, .slice C c r] 22)
theorem boxed_size (w : World) (A B C : Option Addr) (a b c p q r : Nat) : (boxed w A B C a b c p q r).heap.size = w.heap.size + 2 := by simp [boxed]
theorem boxed_below (w : World) (A B C : Option Addr) (a b c p q r : Nat) : Below w.heap.size w (boxed w A B C a b c p q r) := ((Below.refl _ _).alloc (Nat.le_refl _) _).alloc (by simp) _
theorem boxed_blk (w : World) (A B C : Option Addr) (a b c p q r : Nat) : Blk (boxed w A B C a b c p q r) w.heap.size 50 #[.slice A a p, .slice B b q, .slice C c r] := (Blk.new w 50 _).alloc _
theorem Blk.three {w : World} {g : Nat} {t : TypeId} {x y z : Value} (h : Blk w g t #[x, y, z]) : w.cell? ⟨g, 0, none⟩ = some x ∧ w.cell? ⟨g, 1, none⟩ = some y ∧ w.cell? ⟨g, 2, none⟩ = some z := ⟨h.cell 0, h.cell 1, h.cell 2⟩
theorem small_three (src : List UInt8) (a b c : List Ed) (A B C : Option Addr) (p q r : Nat) (hsrc : src.length ≤ 9223372036854775807) (hf : Fits a) (hf2 : Fits b) (hf3 : Fits c) (w : World) (hr : EdsAt w w.heap.size A a) (hr2 : EdsAt w w.heap.size B b) (hr3 : EdsAt w w.heap.size C c) :
    Calls Try.prog 10 #[.string ⟨src.toArray⟩, .slice (some ⟨w.heap.size + 1, 0, none⟩) 3 3] (boxed w A B C a.length b.length c.length p q r) fun e w' => e = .returned (.bool (smallB src [a, b, c])) ∧ (boxed w A B C a.length b.length c.length p q r) = w' := by
  have hrs : RowAt svL (boxed w A B C a.length b.length c.length p q r) (w.heap.size + 2) (some ⟨w.heap.size + 1, 0, none⟩) [(⟨A, a.length, p⟩ : Sv), ⟨B, b.length, q⟩, ⟨C, c.length, r⟩] := by
    have := RowAt.lits (L := svL) (w := w.alloc (.cells #[.slice A a.length p, .slice B b.length q, .slice C c.length r] 50)) (E := 22) [(⟨A, a.length, p⟩ : Sv), ⟨B, b.length, q⟩, ⟨C, c.length, r⟩] #[.slice A a.length p, .slice B b.length q, .slice C c.length r] rfl (w.heap.size + 1) (by simp)
    rw [World.size_alloc] at this
    exact this
  have hal : AllAt (boxed w A B C a.length b.length c.length p q r) (w.heap.size + 2) [(⟨A, a.length, p⟩ : Sv), ⟨B, b.length, q⟩, ⟨C, c.length, r⟩] [a, b, c] :=
    ⟨rfl, (hr.below (boxed_below ..)).more (by omega), rfl, (hr2.below (boxed_below ..)).more (by omega), rfl, (hr3.below (boxed_below ..)).more (by omega), trivial⟩
  exact small_any src [a, b, c] [(⟨A, a.length, p⟩ : Sv), ⟨B, b.length, q⟩, ⟨C, c.length, r⟩] (some ⟨w.heap.size + 1, 0, none⟩) 3 hsrc (by simp)
    (by intro l hl; simp only [List.mem_cons, List.not_mem_nil, or_false] at hl; rcases hl with rfl | rfl | rfl; exact hf.1; exact hf2.1; exact hf3.1)
    (by intro l hl x hx; simp only [List.mem_cons, List.not_mem_nil, or_false] at hl; rcases hl with rfl | rfl | rfl; exact (hf.2 x hx).1; exact (hf2.2 x hx).1; exact (hf3.2 x hx).1)
    _ (by rw [boxed_size]; exact hrs) (by rw [boxed_size]; exact hal)
/-- what Valid makes of a short list. -/
theorem val_short {n : Nat} {l : List Ed} (h : shortB l = true) : chk n 0 (-1) (Sp.valGo n [] l) = 0 ∧ (Sp.valGo n [] l).length ≤ 30 ∧ Sp.txt (Sp.valGo n [] l) ≤ 3000 := by
  obtain ⟨h1, h2⟩ := short_each h
  have := valGo_len n [] l
  simp only [List.length_nil, Sp.txt] at this
  exact ⟨valGo_ok _ _ _ rfl, by omega, by omega⟩
set_option maxHeartbeats 3000000 in
theorem law_associates (src : List UInt8) (a b c : List Ed) (A B C : Option Addr) (p q r : Nat) (hsrc : src.length ≤ 9223372036854775807) (hf : Fits a) (hf2 : Fits b) (hf3 : Fits c) (w : World) (hr : EdsAt w w.heap.size A a) (hr2 : EdsAt w w.heap.size B b) (hr3 : EdsAt w w.heap.size C c) :
    Calls Try.prog 9 #[.string ⟨src.toArray⟩, .agg #[.slice A a.length p, .slice B b.length q, .slice C c.length r]] w fun e w' => e = .returned (.bool true) ∧ Below w.heap.size w w' := by
  have hsm := small_three src a b c A B C p q r hsrc hf hf2 hf3 w hr hr2 hr3
  have hB0 := boxed_blk w A B C a.length b.length c.length p q r
  have hb0 := boxed_below w A B C a.length b.length c.length p q r
  have hz0 := boxed_size w A B C a.length b.length c.length p q r
  obtain ⟨W0, hW0⟩ : ∃ W0, W0 = boxed w A B C a.length b.length c.length p q r := ⟨_, rfl⟩
  rw [← hW0] at hsm hB0 hb0 hz0
  have HW0 : Hid ((w.alloc (.cells #[.slice A a.length p, .slice B b.length q, .slice C c.length r] 50)).alloc (.cells #[.slice A a.length p, .slice B b.length q, .slice C c.length r] 22) = W0) := Lib.hid (by rw [hW0]; rfl)
  have HSM := Lib.hid hsm
  clear hW0 hsm
  have hla : a.length ≤ 9223372036854775807 := hf.1
  cases hb : smallB src [a, b, c] with
  | false =>
    rw [hb] at HSM
    clear hb hB0
    go_enter Try.func9, Try.ntmps9
    go_wp2_with fail
    rw [HW0.out]
    refine HSM.out.mono ?_
    rintro e w1 ⟨rfl, rfl⟩
    go_wp2_with fail
    refine (awake_any _).mono ?_
    rintro e w2 ⟨rfl, hb2⟩
    go_wp2_with fail
    go_ret
    exact ⟨rfl, hb0.trans (hb2.mono (by omega))⟩
  | true =>
    rw [hb] at HSM
    simp only [smallB, List.all_cons, List.all_nil, Bool.and_true, Bool.and_eq_true, decide_eq_true_eq] at hb
    obtain ⟨⟨hsa, hsb, hsc⟩, h300⟩ := hb
    have hla30 := (short_each hsa).1
    have hlb30 := (short_each hsb).1
    have hlc30 := (short_each hsc).1
    obtain ⟨va, hva⟩ : ∃ va, Sp.valGo src.length [] a = va := ⟨_, rfl⟩
    obtain ⟨T1, hT1⟩ : ∃ T1, Sp.asm src (pieces src va) = T1 := ⟨_, rfl⟩
    obtain ⟨vb, hvb⟩ : ∃ vb, Sp.valGo T1.length [] b = vb := ⟨_, rfl⟩
    obtain ⟨T2, hT2⟩ : ∃ T2, Sp.asm T1 (pieces T1 vb) = T2 := ⟨_, rfl⟩
    obtain ⟨vc, hvc⟩ : ∃ vc, Sp.valGo T2.length [] c = vc := ⟨_, rfl⟩
    obtain ⟨T3, hT3⟩ : ∃ T3, Sp.asm T2 (pieces T2 vc) = T3 := ⟨_, rfl⟩
    have fa := val_short (n := src.length) hsa
    have fb := val_short (n := T1.length) hsb
    have fc := val_short (n := T2.length) hsc
    rw [hva] at fa
    rw [hvb] at fb
    rw [hvc] at fc
    obtain ⟨ab, bc, x, hF⟩ := assoc_facts src va vb vc T1 T2 T3 h300 fa.2 fb.2 fc.2 fa.1 hT1 fb.1 hT2 fc.1 hT3
    have HA := Lib.hid fa
    have HB := Lib.hid fb
    have HC := Lib.hid fc
    have HF := Lib.hid hF
    have HVA := Lib.hid hva
    have HVB := Lib.hid hvb
    have HVC := Lib.hid hvc
    have HT1 := Lib.hid hT1
    have HT2 := Lib.hid hT2
    have HT3 := Lib.hid hT3
    clear fa fb fc hF hva hvb hvc hT1 hT2 hT3 hsa hsb hsc
    have hr0 := hr.below hb0
    have hrb0 := hr2.below hb0
    have hrc0 := hr3.below hb0
    have hlx := HF.out.lx
    go_enter Try.func9, Try.ntmps9
    go_wp2_with fail
    rw [HW0.out]
    refine HSM.out.mono ?_
    rintro e w1 ⟨rfl, rfl⟩
    obtain ⟨q0, q1, q2⟩ := hB0.three
    go_wp2_with fail
    refine (valid_any src.length a A p (by omega) _ (hr0.more (by omega))).mono ?_
    rw [HVA.out]
    rintro e W1 ⟨v1, rfl, own1, hb1⟩
    have hz1 := hb1.size
    have hrb1 := hrb0.below (hb1.mono (by omega))
    have hrc1 := hrc0.below (hb1.mono (by omega))
    have hB1 := hB0.below hb1 (by omega)
    obtain ⟨p1, q1, r1⟩ := hB1.three
    clear q0 q1 q2
    obtain ⟨Aa, ca, rfl, hra1⟩ := own1.form
    clear own1
    go_wp2_with fail
    refine (apply_yes src va Aa ca HF.out.fab.one _ (hra1.more (by omega)) HA.out.1).mono ?_
    rw [HT1.out]
    rintro e W2 ⟨rfl, hb2⟩
    have hz2 := hb2.size
    have hra2 := hra1.below (hb2.mono (by omega))
    have hrb2 := hrb1.below (hb2.mono (by omega))
    have hrc2 := hrc1.below (hb2.mono (by omega))
    have hB2 := hB1.below hb2 (by omega)
    obtain ⟨p2, q2, r2⟩ := hB2.three
    clear p1 q1 r1
    go_wp2_with fail
    refine (valid_any T1.length b B q (by omega) _ (hrb2.more (by omega))).mono ?_
    rw [HVB.out]
    rintro e W3 ⟨v3, rfl, own3, hb3⟩
    have hz3 := hb3.size
    have hra3 := hra2.below (hb3.mono (by omega))
    have hrc3 := hrc2.below (hb3.mono (by omega))
    have hB3 := hB2.below hb3 (by omega)
    obtain ⟨p3, q3, r3⟩ := hB3.three
    clear p2 q2 r2
    obtain ⟨Ab, cb, rfl, hrvb3⟩ := own3.form
    clear own3
    go_wp2_with fail
    refine (apply_yes T1 vb Ab cb HF.out.fbc.one _ (hrvb3.more (by omega)) HB.out.1).mono ?_
    rw [HT2.out]
    rintro e W4 ⟨rfl, hb4⟩
    have hz4 := hb4.size
    have hra4 := hra3.below (hb4.mono (by omega))
    have hrvb4 := hrvb3.below (hb4.mono (by omega))
    have hrc4 := hrc3.below (hb4.mono (by omega))
    have hB4 := hB3.below hb4 (by omega)
    obtain ⟨p4, q4, r4⟩ := hB4.three
    clear p3 q3 r3
    go_wp2_with fail
    refine (valid_any T2.length c C r (by omega) _ (hrc4.more (by omega))).mono ?_
    rw [HVC.out]
    rintro e W5 ⟨v5, rfl, own5, hb5⟩
    have hz5 := hb5.size
    have hra5 := hra4.below (hb5.mono (by omega))
    have hrvb5 := hrvb4.below (hb5.mono (by omega))
    obtain ⟨Ac, cc, rfl, hrvc5⟩ := own5.form
    clear own5 hB0 hB1 hB2 hB3 hB4 p4 q4 r4
    go_wp2_with fail
    refine (apply_yes T2 vc Ac cc HF.out.sc _ (hrvc5.more (by omega)) HC.out.1).mono ?_
    rw [HT3.out]
    rintro e W6 ⟨rfl, hb6⟩
    have hz6 := hb6.size
    have hra6 := hra5.below (hb6.mono (by omega))
    have hrvb6 := hrvb5.below (hb6.mono (by omega))
    have hrvc6 := hrvc5.below (hb6.mono (by omega))
    go_wp2_with fail
    refine (compose_yes src va vb Aa Ab ca cb HF.out.fab _ (hra6.more (by omega)) (hrvb6.more (by omega)) HA.out.1 T1 HT1.out HB.out.1).mono ?_
    rw [HF.out.pab]
    rintro e W7 ⟨v7, rfl, own7, hb7⟩
    have hz7 := hb7.size
    have hra7 := hra6.below (hb7.mono (by omega))
    have hrvb7 := hrvb6.below (hb7.mono (by omega))
    have hrvc7 := hrvc6.below (hb7.mono (by omega))
    obtain ⟨Aab, cab, rfl, hrab7⟩ := own7.form
    clear own7
    go_wp2_with fail
    refine (compose_yes T1 vb vc Ab Ac cb cc HF.out.fbc _ (hrvb7.more (by omega)) (hrvc7.more (by omega)) HB.out.1 T2 HT2.out HC.out.1).mono ?_
    rw [HF.out.pbc]
    rintro e W8 ⟨v8, rfl, own8, hb8⟩
    have hz8 := hb8.size
    have hra8 := hra7.below (hb8.mono (by omega))
    have hrvc8 := hrvc7.below (hb8.mono (by omega))
    have hrab8 := hrab7.below (hb8.mono (by omega))
    obtain ⟨Abc, cbc, rfl, hrbc8⟩ := own8.form
    clear own8
    go_wp2_with fail
    refine (compose_yes src ab vc Aab Ac cab cc HF.out.fx _ (hrab8.more (by omega)) (hrvc8.more (by omega)) HF.out.oab T2 HF.out.t2 HC.out.1).mono ?_
    rw [HF.out.px]
    rintro e W9 ⟨v9, rfl, own9, hb9⟩
    have hz9 := hb9.size
    have hra9 := hra8.below (hb9.mono (by omega))
    have hrbc9 := hrbc8.below (hb9.mono (by omega))
    obtain ⟨Ax, cx, rfl, hrx9⟩ := own9.form
    clear own9
    go_wp2_with fail
    refine (compose_yes src va bc Aa Abc ca cbc HF.out.fy _ (hra9.more (by omega)) (hrbc9.more (by omega)) HA.out.1 T1 HT1.out HF.out.obc).mono ?_
    rw [HF.out.py]
    rintro e W10 ⟨v10, rfl, own10, hb10⟩
    have hz10 := hb10.size
    have hrx10 := hrx9.below (hb10.mono (by omega))
    obtain ⟨Ay, cy, rfl, hry10⟩ := own10.form
    clear own10
    go_wp2_with fail
    refine (apply_yes src x Ax cx HF.out.sx _ (hrx10.more (by omega)) HF.out.ox).mono ?_
    rw [HF.out.vx]
    rintro e W11 ⟨rfl, hb11⟩
    have hz11 := hb11.size
    have hrx11 := hrx10.below (hb11.mono (by omega))
    have hry11 := hry10.below (hb11.mono (by omega))
    go_wp2_with fail
    refine (requal_any x x Ax Ay cx cy (by omega) (by omega) _ (hrx11.more (by omega)) (hry11.more (by omega))).mono ?_
    rw [decide_eq_true rfl]
    rintro e w12 ⟨rfl, n12, rfl⟩
    go_wp2_with fail
    have hb12 : Below W11.heap.size W11 (W11.drewN n12) := ⟨rfl, rfl, rfl, Nat.le_refl _, fun _ _ => rfl⟩
    have hz12 : (W11.drewN n12).heap.size = W11.heap.size := rfl
    refine (awake_any _).mono ?_
    rintro e w13 ⟨rfl, hb13⟩
    go_wp2_with fail
    go_ret
    refine ⟨rfl, ?_⟩
    exact (((((((((((((hb0.trans (hb1.mono (by omega))).trans (hb2.mono (by omega))).trans (hb3.mono (by omega))).trans (hb4.mono (by omega))).trans (hb5.mono (by omega))).trans (hb6.mono (by omega))).trans (hb7.mono (by omega))).trans (hb8.mono (by omega))).trans (hb9.mono (by omega))).trans (hb10.mono (by omega))).trans (hb11.mono (by omega))).trans (hb12.mono (by omega))).trans (hb13.mono (by omega)))
end Go.Proofs.Ytnnicjbceadnbaa
