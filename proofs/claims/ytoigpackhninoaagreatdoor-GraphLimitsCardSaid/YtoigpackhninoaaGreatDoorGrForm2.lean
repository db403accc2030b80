/- Walks: form. -/
import Derived.Test.YtoigpackhninoaaGreatDoorGrForm
namespace Go.Proofs.YtoigpackhninoaaGreatDoor
open Go.RowKit
/-- a scalar's answer, wherever the tables lie as T says. -/
def ScalOk (T : World → Prop) (kind : Int) (text : Gr.Str) (r : Bool) : Prop := ∀ w, T w → Calls Tryz.prog 42 #[.int .i64 kind, .string ⟨text.toArray⟩] w fun e w' => e = .returned (.bool r) ∧ Below w.heap.size w w'
/-- what the tables' condition must bear. -/
def Stays (T : World → Prop) : Prop := ∀ w w', T w → Below w.heap.size w w' → T w'
theorem text_eq (t : Gr.Str) : ((⟨t.toArray⟩ : ByteArray) == ⟨#[]⟩) = t.isEmpty := by
  show (t.toArray == #[]) = _
  cases t with
  | nil => rfl
  | cons a l => simp
set_option maxRecDepth 100000 in
set_option maxHeartbeats 8000000 in
theorem form_any (T : World → Prop) (hT : Stays T) (sclr : Int → Gr.Str → Bool) (kind : Int) (text : Gr.Str) (ord : Bool) (keys items : List Nat) (ka ia : Option Addr) (kc ic : Nat) (htl : text.length ≤ 1073741823)
    (hkl : keys.length ≤ 1073741823) (hil : items.length ≤ 1073741823)
    (hsc : kind ≠ 9 → kind ≠ 10 → kind ≠ 11 → ord = false → keys = [] → items = [] → ScalOk T kind text (sclr kind text)) (w : World) (hTw : T w) :
    Calls Tryz.prog 35 #[.agg #[.int .i64 kind, .string ⟨text.toArray⟩, .bool ord, .slice ka keys.length kc, .slice ia items.length ic]] w fun e w' => e = .returned (.bool (Gr.formB sclr ⟨kind, text, ord, keys, items⟩)) ∧ Below w.heap.size w w' := by
  have HS := Lib.hid hsc
  clear hsc
  obtain ⟨w1, hw1⟩ : ∃ w1, w.alloc (.cells #[.int .i64 kind, .string ⟨text.toArray⟩, .bool ord, .slice ka keys.length kc, .slice ia items.length ic] 35) = w1 := ⟨_, rfl⟩
  have l1 : Below w.heap.size w w1 := by rw [← hw1]; exact (Below.refl _ _).alloc (Nat.le_refl _) _
  have b1 : Blk w1 w.heap.size 35 #[.int .i64 kind, .string ⟨text.toArray⟩, .bool ord, .slice ka keys.length kc, .slice ia items.length ic] := by rw [← hw1]; exact Blk.new _ _ _
  have s0 : w1.cell? ⟨w.heap.size, 0, none⟩ = some (.int .i64 kind) := b1.cell 0
  have s1 : w1.cell? ⟨w.heap.size, 1, none⟩ = some (.string ⟨text.toArray⟩) := b1.cell 1
  have s2 : w1.cell? ⟨w.heap.size, 2, none⟩ = some (.bool ord) := b1.cell 2
  have s3 : w1.cell? ⟨w.heap.size, 3, none⟩ = some (.slice ka keys.length kc) := b1.cell 3
  have s4 : w1.cell? ⟨w.heap.size, 4, none⟩ = some (.slice ia items.length ic) := b1.cell 4
  have L1 := Lib.hid l1
  have HTW : Hid (T w1) := Lib.hid (hT _ _ hTw l1)
  have ht := text_eq text
  clear l1 b1 hTw
  go_enter Tryz.func35, Tryz.ntmps35
  go_upto_region 1 with fail
  (try rw [hw1])
  clear hw1
  by_cases h9 : kind = 9
  · subst h9
    cases he : text.isEmpty with
    | false =>
      rw [he] at ht
      have HF : Hid (Gr.formB sclr ⟨9, text, ord, keys, items⟩ = false) := Lib.hid (by simp [Gr.formB, he])
      go_wp2_with fail
      go_ret
      exact ⟨by rw [HF.out] <;> rfl, L1.out⟩
    | true =>
      rw [he] at ht
      cases ord with
      | true =>
        have HF : Hid (Gr.formB sclr ⟨9, text, true, keys, items⟩ = false) := Lib.hid (by simp [Gr.formB])
        go_wp2_with fail
        go_ret
        exact ⟨by rw [HF.out] <;> rfl, L1.out⟩
      | false =>
        by_cases hk : keys = []
        · subst hk
          have HF : Hid (Gr.formB sclr ⟨9, text, false, [], items⟩ = true) := Lib.hid (by simp [Gr.formB, he])
          go_wp2_with fail
          go_ret
          exact ⟨by rw [HF.out] <;> rfl, L1.out⟩
        · have h1 : ¬ ((keys.length : Int) = 0) := by have := List.length_pos_iff.2 hk; omega
          have h1b : ((keys.length : Int) == 0) = false := by simpa using hk
          have HF : Hid (Gr.formB sclr ⟨9, text, false, keys, items⟩ = false) := Lib.hid (by simp [Gr.formB, hk])
          go_wp2_with fail
          go_ret
          exact ⟨by rw [HF.out] <;> rfl, L1.out⟩
  · have h9b : (kind == 9) = false := by simpa using h9
    by_cases h10 : kind = 10
    · subst h10
      cases he : text.isEmpty with
      | false =>
        rw [he] at ht
        have HF : Hid (Gr.formB sclr ⟨10, text, ord, keys, items⟩ = false) := Lib.hid (by simp [Gr.formB, he])
        go_wp2_with fail
        go_ret
        exact ⟨by rw [HF.out] <;> rfl, L1.out⟩
      | true =>
        rw [he] at ht
        by_cases hki : keys.length = items.length
        · have h1b : ((keys.length : Int) == (items.length : Int)) = true := by simp [hki]
          have HKI := Lib.hid hki
          have h1 : (keys.length : Int) = (items.length : Int) := by omega
          have H1 := Lib.hid h1
          clear hki h1
          have HF : Hid (Gr.formB sclr ⟨10, text, ord, keys, items⟩ = true) := Lib.hid (by simp [Gr.formB, he, HKI.out])
          go_wp2_with fail
          go_ret
          exact ⟨by rw [HF.out] <;> rfl, L1.out⟩
        · have h1 : ¬ ((keys.length : Int) = (items.length : Int)) := by omega
          have h1b : ((keys.length : Int) == (items.length : Int)) = false := by simp; omega
          have HF : Hid (Gr.formB sclr ⟨10, text, ord, keys, items⟩ = false) := Lib.hid (by simp [Gr.formB, hki])
          go_wp2_with fail
          go_ret
          exact ⟨by rw [HF.out] <;> rfl, L1.out⟩
    · have h10b : (kind == 10) = false := by simpa using h10
      by_cases h11 : kind = 11
      · subst h11
        cases hn : Gr.nameB text with
        | false =>
          have HF : Hid (Gr.formB sclr ⟨11, text, ord, keys, items⟩ = false) := Lib.hid (by simp [Gr.formB, hn])
          have HN := Lib.hid hn
          go_wp2_with fail
          refine (name_any text htl _).mono ?_
          rintro e w2 ⟨rfl, hw2⟩
          subst hw2
          rw [HN.out]
          go_wp2_with fail
          go_ret
          exact ⟨by rw [HF.out] <;> rfl, L1.out⟩
        | true =>
          have HN := Lib.hid hn
          cases ord with
          | true =>
            have HF : Hid (Gr.formB sclr ⟨11, text, true, keys, items⟩ = false) := Lib.hid (by simp [Gr.formB])
            go_wp2_with fail
            refine (name_any text htl _).mono ?_
            rintro e w2 ⟨rfl, hw2⟩
            subst hw2
            rw [HN.out]
            go_wp2_with fail
            go_ret
            exact ⟨by rw [HF.out] <;> rfl, L1.out⟩
          | false =>
            by_cases hk : keys = []
            · subst hk
              by_cases h1 : items.length = 1
              · have HF : Hid (Gr.formB sclr ⟨11, text, false, [], items⟩ = true) := Lib.hid (by simp [Gr.formB, hn, h1])
                have h1b : ((items.length : Int) == 1) = true := by simp [h1]
                clear h1
                go_wp2_with fail
                refine (name_any text htl _).mono ?_
                rintro e w2 ⟨rfl, hw2⟩
                subst hw2
                rw [HN.out]
                go_wp2_with fail
                go_ret
                exact ⟨by rw [HF.out] <;> rfl, L1.out⟩
              · have HF : Hid (Gr.formB sclr ⟨11, text, false, [], items⟩ = false) := Lib.hid (by simp [Gr.formB, h1])
                have h1b : ((items.length : Int) == 1) = false := by simp; omega
                have h1i : ¬ ((items.length : Int) = 1) := by omega
                go_wp2_with fail
                refine (name_any text htl _).mono ?_
                rintro e w2 ⟨rfl, hw2⟩
                subst hw2
                rw [HN.out]
                go_wp2_with fail
                go_ret
                exact ⟨by rw [HF.out] <;> rfl, L1.out⟩
            · have h1 : ¬ ((keys.length : Int) = 0) := by have := List.length_pos_iff.2 hk; omega
              have h1b : ((keys.length : Int) == 0) = false := by simpa using hk
              have HF : Hid (Gr.formB sclr ⟨11, text, false, keys, items⟩ = false) := Lib.hid (by simp [Gr.formB, hk])
              go_wp2_with fail
              refine (name_any text htl _).mono ?_
              rintro e w2 ⟨rfl, hw2⟩
              subst hw2
              rw [HN.out]
              go_wp2_with fail
              go_ret
              exact ⟨by rw [HF.out] <;> rfl, L1.out⟩
      · have h11b : (kind == 11) = false := by simpa using h11
        cases ord with
        | true =>
          have HF : Hid (Gr.formB sclr ⟨kind, text, true, keys, items⟩ = false) := Lib.hid (by simp [Gr.formB, h9, h10, h11])
          go_wp2_with fail
          go_ret
          exact ⟨by rw [HF.out] <;> rfl, L1.out⟩
        | false =>
          by_cases hk : keys = []
          · subst hk
            by_cases hi : items = []
            · subst hi
              have HF : Hid (Gr.formB sclr ⟨kind, text, false, [], []⟩ = sclr kind text) := Lib.hid (by simp [Gr.formB, h9, h10, h11])
              have HC := Lib.hid (HS.out h9 h10 h11 rfl rfl rfl w1 HTW.out)
              obtain ⟨r, hr⟩ : ∃ r, sclr kind text = r := ⟨_, rfl⟩
              rw [hr] at HC HF
              clear hr
              go_wp2_with fail
              refine HC.out.mono ?_
              rintro e w2 ⟨rfl, hb2⟩
              have HB2 : Hid (Below w.heap.size w w2) := Lib.hid (L1.out.trans (hb2.mono L1.out.size))
              clear hb2
              go_wp2_with fail
              go_ret
              exact ⟨by rw [HF.out] <;> rfl, HB2.out⟩
            · have h1 : ¬ ((items.length : Int) = 0) := by have := List.length_pos_iff.2 hi; omega
              have h1b : ((items.length : Int) == 0) = false := by simpa using hi
              have HF : Hid (Gr.formB sclr ⟨kind, text, false, [], items⟩ = false) := Lib.hid (by simp [Gr.formB, h9, h10, h11, hi])
              go_wp2_with fail
              go_ret
              exact ⟨by rw [HF.out] <;> rfl, L1.out⟩
          · have h1 : ¬ ((keys.length : Int) = 0) := by have := List.length_pos_iff.2 hk; omega
            have h1b : ((keys.length : Int) == 0) = false := by simpa using hk
            have HF : Hid (Gr.formB sclr ⟨kind, text, false, keys, items⟩ = false) := Lib.hid (by simp [Gr.formB, h9, h10, h11, hk])
            go_wp2_with fail
            go_ret
            exact ⟨by rw [HF.out] <;> rfl, L1.out⟩
end Go.Proofs.YtoigpackhninoaaGreatDoor

