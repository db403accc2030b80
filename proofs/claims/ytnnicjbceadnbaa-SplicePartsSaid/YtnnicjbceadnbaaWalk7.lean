/- Walks: Apply. -/
import Derived.Test.YtnnicjbceadnbaaPlainB
import Derived.Test.YtnnicjbceadnbaaWalk1
import Derived.Test.YtnnicjbceadnbaaWalk3
import Derived.Test.YtnnicjbceadnbaaWalk4
namespace Go.Proofs.Ytnnicjbceadnbaa
open Go.RowKit
open Sp (Ed)
theorem check_list (src : List UInt8) (A : Option Addr) (c : Nat) (l : List Ed) (hs : src.length ≤ 1099511627776) (hl : l.length ≤ 1073741824) (w : World) (hr : EdsAt w w.heap.size A l) :
    Calls Try.prog 14 #[.string ⟨src.toArray⟩, .slice A l.length c] w fun e w' => e = .returned (.int .i64 (Sp.chk src.length 0 (-1) l)) ∧ Below w.heap.size w w' := by
  have e : (⟨src.toArray⟩ : ByteArray).size = src.length := by simp [ByteArray.size]
  have h := check_any ⟨src.toArray⟩ A c l (by rw [e]; unfold maxLen; omega) (by unfold maxLen; omega) w hr
  rw [e] at h
  exact h
/-- sizes that every call here keeps to. -/
def Small (src : List UInt8) (l : List Ed) : Prop := (l.length + 1) * (src.length + 32) + Sp.txt l ≤ 1073741824
theorem txt_mem (l : List Ed) : ∀ x ∈ l, x.s.length ≤ Sp.txt l := by
  induction l with
  | nil => intro x hx; cases hx
  | cons y r ih =>
    intro x hx
    rcases List.mem_cons.1 hx with rfl | hx
    · simp only [Sp.txt]; omega
    · have := ih x hx; simp only [Sp.txt]; omega
theorem Small.src_le {src : List UInt8} {l : List Ed} (h : Small src l) : src.length ≤ 1073741824 ∧ l.length ≤ 1073741824 ∧ Sp.txt l ≤ 1073741824 ∧ l.length * 32 + 32 ≤ 1073741824 := by
  unfold Small at h
  have h1 : 1 * (src.length + 32) ≤ (l.length + 1) * (src.length + 32) := Nat.mul_le_mul_right _ (by omega)
  have h2 : (l.length + 1) * 32 ≤ (l.length + 1) * (src.length + 32) := Nat.mul_le_mul_left _ (by omega)
  omega
def pieces (src : List UInt8) (l : List Ed) : List Ed := Sp.edited (Sp.kept 0 src.length) src.length 0 l
theorem pieces_ok (src : List UInt8) (l : List Ed) (h : Small src l) : ∀ p ∈ pieces src l, Sp.Pok src.length p := by
  have h' := h.src_le
  exact Sp.edited_ok src.length (by omega) _ _ _ _ (Sp.kept_ok _ (by omega) (by omega)) (fun x hx => by have := txt_mem l x hx; omega)
theorem pieces_size (src : List UInt8) (l : List Ed) (h : Small src l) : Sp.size (pieces src l) ≤ 1073741824 ∧ Sp.txt (pieces src l) ≤ 1073741824 ∧ (pieces src l).length ≤ 2 * l.length + 1 := by
  obtain ⟨k1, k2, k3⟩ := Sp.kept_size src.length (by omega)
  obtain ⟨h1, h2, h3⟩ := Sp.edited_size (Sp.kept 0 src.length) src.length 0 l (fun p hp => (Sp.kept_ok _ (by omega) (by have := h.src_le; omega) p hp).1.1)
  have h' := h.src_le
  unfold Small at h
  have e : (((l.length + 1) * (src.length + 32) : Nat) : Int) = (l.length + 1) * (src.length : Int) + (l.length + 1) * 32 := by
    rw [Nat.mul_add]; simp
  rw [k1] at h1
  rw [k2] at h2
  have e2 : l.length * ((Sp.kept 0 src.length).length + 1) ≤ l.length * 2 := Nat.mul_le_mul_left _ (by omega)
  unfold pieces
  refine ⟨by omega, by omega, by omega⟩

set_option maxHeartbeats 1000000 in
theorem apply_no (src : List UInt8) (l : List Ed) (A : Option Addr) (c : Nat) (hsm : Small src l) (w : World) (hr : EdsAt w w.heap.size A l) (hv : ¬ Sp.chk src.length 0 (-1) l = 0) :
    Calls Try.prog 12 #[.string ⟨src.toArray⟩, .slice A l.length c] w fun e w' => e = .returned (.tuple #[.string ⟨#[]⟩, .int .i64 (Sp.chk src.length 0 (-1) l)]) ∧ Below w.heap.size w w' := by
  have h' := hsm.src_le
  have hv' : (Sp.chk src.length 0 (-1) l != 0) = true := by simpa using hv
  clear hv
  go_enter Try.func12, Try.ntmps12
  go_wp2_with fail
  refine (check_list src A c l (by omega) (by omega) _ hr).mono ?_
  rintro e w1 ⟨rfl, hb1⟩
  go_wp2_with fail
  go_ret2
  exact ⟨rfl, hb1⟩
set_option maxHeartbeats 1000000 in
theorem apply_yes (src : List UInt8) (l : List Ed) (A : Option Addr) (c : Nat) (hsm : Small src l) (w : World) (hr : EdsAt w w.heap.size A l) (hv : Sp.chk src.length 0 (-1) l = 0) :
    Calls Try.prog 12 #[.string ⟨src.toArray⟩, .slice A l.length c] w fun e w' => e = .returned (.tuple #[.string ⟨(Sp.asm src (pieces src l)).toArray⟩, .int .i64 0]) ∧ Below w.heap.size w w' := by
  have h' := hsm.src_le
  have hval := Sp.chk_ok _ _ _ _ hv
  have HV := Lib.hid hv
  have HVAL := Lib.hid hval
  have HSM := Lib.hid hsm
  clear hv hval hsm
  obtain ⟨k1, k2, k3⟩ := Sp.kept_size src.length (by omega)
  have HK := Lib.hid k1
  have hko := Sp.kept_ok src.length (by omega) (by omega)
  clear k1 k2
  go_enter Try.func12, Try.ntmps12
  go_wp2_with fail
  refine (check_list src A c l (by omega) (by omega) _ hr).mono ?_
  rw [HV.out]
  rintro e w1 ⟨rfl, hb1⟩
  have hz1 := hb1.size
  go_wp2_with fail
  refine (kept_any 0 src.length (by omega) (by omega) (by omega) _).mono ?_
  rintro e w2 ⟨v2, rfl, own2, hb2⟩
  have hz2 := hb2.size
  obtain ⟨A2, c2, rfl, hr2⟩ := own2.form
  have hbb2 := hb1.trans (hb2.mono hz1)
  go_wp2_with fail
  refine (edited_any (Sp.kept 0 src.length) l A2 A c2 c src.length ?_ (fun p hp => (hko p hp).1) (by rw [HK.out]; omega) (by omega) (by omega) ?_ (fun p hp => by have := (hko p hp).2.2.2.1; omega) _ hr2 ((hr.below hbb2).more (by omega))).mono ?_
  · have : l.length * ((Sp.kept 0 src.length).length + 1) ≤ l.length * 2 := Nat.mul_le_mul_left _ (by omega)
    omega
  · intro x hx
    obtain ⟨a, b, d⟩ := HVAL.out x hx
    have := txt_mem l x hx
    omega
  rintro e w3 ⟨v3, rfl, own3, hb3⟩
  obtain ⟨A3, c3, rfl, hr3⟩ := own3.form
  have hps := pieces_size src l HSM.out
  have hpk := pieces_ok src l HSM.out
  unfold pieces at hps hpk
  have HPK := Lib.hid hpk
  have HP := Lib.hid hps.2.2
  have hps1 := hps.1
  clear hpk hps
  go_wp2_with fail
  refine (assemble_any src _ A3 c3 (by have := HP.out; omega) (fun p hp => ⟨(HPK.out p hp).1, (HPK.out p hp).2.1⟩) (by omega) (by omega) _ hr3).mono ?_
  rintro e w4 ⟨rfl, hb4⟩
  have hz3 := hb3.size
  go_wp2_with fail
  go_ret2
  exact ⟨rfl, (hbb2.trans (hb3.mono (by omega))).trans (hb4.mono (by omega))⟩
end Go.Proofs.Ytnnicjbceadnbaa
