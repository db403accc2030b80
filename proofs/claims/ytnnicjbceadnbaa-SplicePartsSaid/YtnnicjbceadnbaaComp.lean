/- Walks: Compose. -/
import Derived.Test.YtnnicjbceadnbaaPlainI
namespace Go.Proofs.Ytnnicjbceadnbaa
open Go.RowKit
open Sp (Ed Ce chk)
/-- sizes that Compose keeps to. -/
structure Fit2 (src : List UInt8) (a b : List Ed) : Prop where
  one : Small src a
  prod : b.length * (2 * a.length + 2) + 2 * a.length + 1 ≤ 134217728
  txa : Sp.txt a ≤ 1048576
  lb : b.length ≤ 65536
  txb : Sp.txt b ≤ 1073741824
theorem pieces_txt (src : List UInt8) (l : List Ed) (h : Small src l) : Sp.txt (pieces src l) ≤ Sp.txt l := by
  obtain ⟨k1, k2, k3⟩ := Sp.kept_size src.length (by omega)
  obtain ⟨h1, h2, h3⟩ := Sp.edited_size (Sp.kept 0 src.length) src.length 0 l (fun p hp => (Sp.kept_ok _ (by omega) (by have := h.src_le; omega) p hp).1.1)
  rw [k2, Nat.mul_zero, Nat.zero_add] at h2
  exact h2
theorem mid_len (src : List UInt8) (a : List Ed) (h : Small src a) : ((Sp.asm src (pieces src a)).length : Int) = Sp.size (pieces src a) :=
  Sp.asm_len src (pieces src a) fun p hp => ⟨(pieces_ok src a h p hp).1, (pieces_ok src a h p hp).2.1⟩
set_option maxHeartbeats 1000000 in
theorem compose_no1 (src : List UInt8) (a b : List Ed) (A B : Option Addr) (c d : Nat) (hsm : Small src a) (w : World) (hr : EdsAt w w.heap.size A a) (hv : ¬ chk src.length 0 (-1) a = 0) :
    Calls Try.prog 26 #[.string ⟨src.toArray⟩, .slice A a.length c, .slice B b.length d] w fun e w' => e = .returned (.tuple #[.slice none 0 0, .int .i64 (chk src.length 0 (-1) a)]) ∧ Below w.heap.size w w' := by
  have hv' : (chk src.length 0 (-1) a != 0) = true := by simpa using hv
  have HV := Lib.hid hv
  clear hv
  go_enter Try.func26, Try.ntmps26
  go_wp2_with fail
  refine (apply_no src a A c hsm _ hr HV.out).mono ?_
  rintro e w1 ⟨rfl, hb1⟩
  go_wp2_with fail
  go_ret2
  exact ⟨rfl, hb1⟩
set_option maxHeartbeats 1000000 in
theorem compose_no2 (src : List UInt8) (a b : List Ed) (A B : Option Addr) (c d : Nat) (hsm : Small src a) (hlb : b.length ≤ 1073741824) (w : World) (hr : EdsAt w w.heap.size A a) (hr2 : EdsAt w w.heap.size B b) (hv : chk src.length 0 (-1) a = 0)
    (T : List UInt8) (hT : Sp.asm src (pieces src a) = T) (hv2 : ¬ chk T.length 0 (-1) b = 0) :
    Calls Try.prog 26 #[.string ⟨src.toArray⟩, .slice A a.length c, .slice B b.length d] w fun e w' => e = .returned (.tuple #[.slice none 0 0, .int .i64 (chk T.length 0 (-1) b)]) ∧ Below w.heap.size w w' := by
  have hv' : (chk T.length 0 (-1) b != 0) = true := by simpa using hv2
  have hml := mid_len src a hsm
  have hps := (pieces_size src a hsm).1
  rw [hT] at hml
  have HV := Lib.hid hv
  have HT := Lib.hid hT
  have htl : T.length ≤ 1073741824 := by omega
  clear hv hv2 hT hml hps
  go_enter Try.func26, Try.ntmps26
  go_wp2_with fail
  refine (apply_yes src a A c hsm _ hr HV.out).mono ?_
  rw [HT.out]
  rintro e w1 ⟨rfl, hb1⟩
  have hz1 := hb1.size
  go_wp2_with fail
  refine (check_list T B d b (by omega) (by omega) _ ((hr2.below hb1).more (by omega))).mono ?_
  rintro e w2 ⟨rfl, hb2⟩
  go_wp2_with fail
  go_ret2
  exact ⟨rfl, hb1.trans (hb2.mono (by omega))⟩
set_option maxHeartbeats 2000000 in
theorem compose_yes (src : List UInt8) (a b : List Ed) (A B : Option Addr) (c d : Nat) (hf : Fit2 src a b) (w : World) (hr : EdsAt w w.heap.size A a) (hr2 : EdsAt w w.heap.size B b) (hv : chk src.length 0 (-1) a = 0)
    (T : List UInt8) (hT : Sp.asm src (pieces src a) = T) (hv2 : chk T.length 0 (-1) b = 0) :
    Calls Try.prog 26 #[.string ⟨src.toArray⟩, .slice A a.length c, .slice B b.length d] w fun e w' => ∃ v, e = .returned (.tuple #[v, .int .i64 0]) ∧
      OwnEds w' w.heap.size 48 v (Sp.normal src.length 0 [] (Sp.edited (pieces src a) T.length 0 b)) ∧ Below w.heap.size w w' := by
  have hsm := hf.one
  have h' := hsm.src_le
  have hml := mid_len src a hsm
  have hps := pieces_size src a hsm
  rw [hT] at hml
  have hpk := pieces_ok src a hsm
  have hval := Sp.chk_ok _ _ _ _ hv
  have hval2 := Sp.chk_ok _ _ _ _ hv2
  have HVAL := Lib.hid hval
  have HVAL2 := Lib.hid hval2
  have HV := Lib.hid hv
  have HV2 := Lib.hid hv2
  have HT := Lib.hid hT
  have HSM := Lib.hid hsm
  have HPK := Lib.hid hpk
  have hpt := pieces_txt src a hsm
  have hff := Lib.hid hf
  have htl : T.length ≤ 1073741824 := by omega
  have htxb := fun x hx => txt_mem b x hx
  have HTXB := Lib.hid htxb
  have hedok : ∀ q ∈ Sp.edited (pieces src a) T.length 0 b, Sp.Pok src.length q := Sp.edited_ok src.length (by omega) (pieces src a) T.length 0 b hpk (fun x hx => by have := htxb x hx; have := hf.txb; omega)
  have hedsz := Sp.edited_size (pieces src a) T.length 0 b (fun p hp => (hpk p hp).1.1)
  have hp1 : b.length * ((pieces src a).length + 1) ≤ b.length * (2 * a.length + 2) := Nat.mul_le_mul_left _ (by omega)
  have hp2 : (b.length + 1) * Sp.txt (pieces src a) ≤ 65537 * 1048576 := Nat.mul_le_mul (by have := hf.lb; omega) (by have := hf.txa; omega)
  have hel : (Sp.edited (pieces src a) T.length 0 b).length ≤ 268435456 := by have := hf.prod; omega
  have het : Sp.txt (Sp.edited (pieces src a) T.length 0 b) ≤ 1099511627776 := by have := hf.txb; omega
  have HEL := Lib.hid hel
  have HET := Lib.hid het
  have HEK := Lib.hid hedok
  have hp3 : b.length * ((pieces src a).length + 1) + (pieces src a).length ≤ 1073741824 := by have := hf.prod; omega
  have HP3 := Lib.hid hp3
  have HPS := Lib.hid hps
  clear hv hv2 hT hml hps hval hval2 hpk hpt htxb hedok hedsz hp1 hp2 hel het hp3
  have hlb := hff.out.lb
  have hla : a.length ≤ 67108864 := by have := hff.out.prod; omega
  have htb := hff.out.txb
  clear hf
  obtain ⟨k1, k2, k3⟩ := Sp.kept_size src.length (by omega)
  have HK := Lib.hid k1
  have hko := Sp.kept_ok src.length (by omega) (by omega)
  have HKO := Lib.hid hko
  clear k1 k2 hko
  go_enter Try.func26, Try.ntmps26
  go_wp2_with fail
  refine (apply_yes src a A c HSM.out _ hr HV.out).mono ?_
  rw [HT.out]
  rintro e w1 ⟨rfl, hb1⟩
  have hz1 := hb1.size
  have hra1 := hr.below hb1
  have hrb1 := hr2.below hb1
  go_wp2_with fail
  refine (check_list T B d b (by omega) (by omega) _ (hrb1.more (by omega))).mono ?_
  rw [HV2.out]
  rintro e w2 ⟨rfl, hb2⟩
  have hz2 := hb2.size
  have hra2 := hra1.below (hb2.mono (by omega))
  have hrb2 := hrb1.below (hb2.mono (by omega))
  go_wp2_with fail
  refine (kept_any 0 src.length (by omega) (by omega) (by omega) _).mono ?_
  rintro e w3 ⟨v3, rfl, own3, hb3⟩
  have hz3 := hb3.size
  obtain ⟨A3, c3, rfl, hr3⟩ := own3.form
  have hra3 := hra2.below (hb3.mono (by omega))
  have hrb3 := hrb2.below (hb3.mono (by omega))
  clear own3
  go_wp2_with fail
  refine (edited_any (Sp.kept 0 src.length) a A3 A c3 c src.length ?_ (fun p hp => (HKO.out p hp).1) (by rw [HK.out]; omega) (by omega) (by omega) ?_ (fun p hp => by have := (HKO.out p hp).2.2.2.1; omega) _ hr3 (hra3.more (by omega))).mono ?_
  · have : a.length * ((Sp.kept 0 src.length).length + 1) ≤ a.length * 2 := Nat.mul_le_mul_left _ (by omega)
    omega
  · intro x hx
    obtain ⟨p, q, r⟩ := HVAL.out x hx
    have := txt_mem a x hx
    omega
  rw [show Sp.edited (Sp.kept 0 src.length) src.length 0 a = pieces src a from rfl]
  rintro e w4 ⟨v4, rfl, own4, hb4⟩
  have hz4 := hb4.size
  obtain ⟨A4, c4, rfl, hr4⟩ := own4.form
  have hrb4 := hrb3.below (hb4.mono (by omega))
  clear own4
  go_wp2_with fail
  refine (edited_any (pieces src a) b A4 B c4 d T.length HP3.out (fun p hp => (HPK.out p hp).1) (by have := HPS.out.1; omega) (by omega) (by omega) ?_ (fun p hp => by have := (HPK.out p hp).2.2.2.1; omega) _ hr4 (hrb4.more (by omega))).mono ?_
  · intro x hx
    obtain ⟨p, q, r⟩ := HVAL2.out x hx
    have := HTXB.out x hx
    omega
  rintro e w5 ⟨v5, rfl, own5, hb5⟩
  have hz5 := hb5.size
  obtain ⟨A5, c5, rfl, hr5⟩ := own5.form
  clear own5
  generalize hE : Sp.edited (pieces src a) T.length 0 b = E at *
  have HE := Lib.hid hE
  clear hE
  go_wp2_with fail
  refine (normal_any src.length E A5 c5 HEL.out HET.out (fun p hp => by obtain ⟨⟨q1, q2⟩, q3, q4, q5, q6⟩ := HEK.out p hp; omega) _ hr5).mono ?_
  rintro e w6 ⟨v6, rfl, own6, hb6⟩
  go_wp2_with fail
  go_ret2
  have hbb : Below w.heap.size w w5 := (((hb1.trans (hb2.mono (by omega))).trans (hb3.mono (by omega))).trans (hb4.mono (by omega))).trans (hb5.mono (by omega))
  rw [HE.out]
  exact ⟨v6, rfl, OwnEds.lower (base := w5.heap.size) own6 (by omega), hbb.trans (hb6.mono (by omega))⟩
end Go.Proofs.Ytnnicjbceadnbaa
