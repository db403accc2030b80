/- Walks: scalar at the kinds Null, Int, Text. -/
import Derived.Test.YtoigpackhninoaaGreatDoorGrCheck
import Derived.Test.YtoigpackhninoaaGreatDoorGrUtf
import Derived.Test.YtoigpackhninoaaGreatDoorGrInt
namespace Go.Proofs.YtoigpackhninoaaGreatDoor
open Go.RowKit
set_option maxRecDepth 100000 in
set_option maxHeartbeats 4000000 in
theorem intvalid_any (n : Gr.Str) (hl : n.length ≤ 1073741823) (w : World) :
    Calls Tryz.prog 69 #[.string ⟨n.toArray⟩] w fun e w' => e = .returned (.bool (Gr.intB n)) ∧ Below w.heap.size w w' := by
  have HC := Lib.hid (fun W => intread_any n hl W)
  obtain ⟨r, hr⟩ : ∃ r, Gr.intB n = r := ⟨_, rfl⟩
  rw [hr] at HC ⊢
  clear hr
  go_enter Tryz.func69, Tryz.ntmps69
  go_wp2_with fail
  refine (HC.out _).mono ?_
  rintro e w2 ⟨b, A, m, c, rfl, hb⟩
  have HB := Lib.hid hb
  clear hb
  go_wp2_with fail
  go_ret
  exact ⟨rfl, HB.out.alloc HB.out.size _⟩
/-- the tables of UTF-8. -/
def UT (w : World) : Prop := Lib.Utf8Tabs 1 2 w ∧ 3 ≤ w.heap.size
theorem UT.stays : Stays UT := fun _ _ h hb => ⟨tabs_below h.1 (hb.mono h.2) (Nat.le_refl _), Nat.le_trans h.2 hb.size⟩
set_option maxRecDepth 100000 in
set_option maxHeartbeats 4000000 in
theorem scal_null (text : Gr.Str) : ScalOk UT 0 text text.isEmpty := by
  intro w _
  have ht := text_eq text
  go_enter Tryz.func42, Tryz.ntmps42
  go_wp2_with fail
  go_ret
  exact ⟨rfl, Below.refl _ _⟩
set_option maxRecDepth 100000 in
set_option maxHeartbeats 4000000 in
theorem scal_int (text : Gr.Str) (hl : text.length ≤ 1073741823) : ScalOk UT 2 text (Gr.intB text) := by
  intro w _
  have HC := Lib.hid (fun W => intvalid_any text hl W)
  obtain ⟨r, hr⟩ : ∃ r, Gr.intB text = r := ⟨_, rfl⟩
  rw [hr] at HC ⊢
  clear hr
  go_enter Tryz.func42, Tryz.ntmps42
  go_wp2_with fail
  refine (HC.out _).mono ?_
  rintro e w2 ⟨rfl, hb⟩
  have HB := Lib.hid hb
  clear hb
  go_wp2_with fail
  go_ret
  exact ⟨rfl, HB.out⟩
def utfB (s : Gr.Str) : Bool := (Utf.bad s).isNone
set_option maxRecDepth 100000 in
set_option maxHeartbeats 4000000 in
theorem scal_text (text : Gr.Str) (hl : text.length ≤ 1073741823) : ScalOk UT 5 text (utfB text) := by
  intro w hw
  have HC := Lib.hid (codepoint_any text hl w hw.1 hw.2 _ rfl)
  unfold utfB
  cases hr : Utf.bad text with
  | none =>
    rw [hr] at HC
    unfold ckVal at HC
    simp only at HC
    clear hr hw
    go_enter Tryz.func42, Tryz.ntmps42
    go_wp2_with fail
    refine HC.out.mono ?_
    rintro e w2 ⟨rfl, hb⟩
    have HB := Lib.hid hb
    clear hb
    go_wp2_with fail
    go_ret
    exact ⟨rfl, HB.out⟩
  | some i =>
    rw [hr] at HC
    unfold ckVal at HC
    simp only at HC
    clear hr hw
    go_enter Tryz.func42, Tryz.ntmps42
    go_wp2_with fail
    refine HC.out.mono ?_
    rintro e w2 ⟨rfl, hb⟩
    have HB := Lib.hid hb
    clear hb
    go_wp2_with fail
    go_ret
    exact ⟨rfl, HB.out⟩
end Go.Proofs.YtoigpackhninoaaGreatDoor
