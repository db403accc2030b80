/- Walks: escape whole; a quoted text. -/
import Derived.Test.YtegdemnfjmaicaaDoorWalk6
import Derived.Test.YtegdemnfjmaicaaDoorPlainZ
import Derived.Outline
namespace Go.Proofs.YtegdemnfjmaicaaDoor
open Go.RowKit
theorem escape_any (pb a tz : Nat) (s : Ini.Str) (ha : a < tz) (ht : tz ≤ s.length) (hs : s.length ≤ 1073741824) (w : World) (hp : SrcAt w pb s) (v : Value) (hv : escVal (Ini.esc (seg s a tz)) = v) :
    Calls Tryd.prog 51 #[.pointer (some ⟨pb, 0, none⟩), .int .i64 a, .int .i64 tz] w fun e w' => e = .returned v ∧ Below w.heap.size w w' := by
  by_cases h1 : ∃ h : a + 1 < tz, s[a + 1]'(by omega) = 117
  · obtain ⟨h1, h117⟩ := h1
    by_cases h2 : ∃ h : a + 2 < tz, s[a + 2]'(by omega) = 123
    · obtain ⟨h2, h123⟩ := h2
      exact escape_u pb a tz s h2 ht hs w hp h117 h123 v hv
    · have hv' : v = .tuple #[.string ⟨#[]⟩, .int .i64 0, .int .i64 4] := by
        rw [← hv, seg_cons s a tz (by omega) ht, seg_cons s (a + 1) tz (by omega) ht, h117]
        by_cases h3 : a + 2 < tz
        · rw [seg_cons s (a + 2) tz (by omega) ht]
          have : s[a + 2]'(by omega) ≠ 123 := fun e => h2 ⟨h3, e⟩
          simp [Ini.esc, this, escVal]
        · rw [seg_nil s (a + 2) tz (by omega)]
          rfl
      have HV := Lib.hid hv'
      unfold SrcAt at hp
      have hlt : (a : Int) + 1 < (tz : Int) := by omega
      have q0 := byte_is s (a + 1) (by omega) 117 117 117 rfl h117 rfl
      by_cases h3 : a + 2 < tz
      · have hne : s[a + 2]'(by omega) ≠ 123 := fun e => h2 ⟨h3, e⟩
        obtain ⟨c, hcc⟩ : ∃ c, s[a + 2]'(by omega) = c := ⟨_, rfl⟩
        rw [hcc] at hne
        have q1 := byte_not s (a + 2) (by omega) c 123 123 rfl hcc hne
        have q2 : ((((⟨s.toArray⟩ : ByteArray)[a + 2]'(by simp [ByteArray.size]; omega)).toNat : Int) != 123) = true := by simpa using q1
        have hlt2 : (a : Int) + 2 < (tz : Int) := by omega
        clear hv hv' h117 hcc hne h2
        go_enter Tryd.func51, Tryd.ntmps51
        go_wp2_with fail
        go_ret3
        exact ⟨by rw [HV.out]; rfl, Below.refl _ _⟩
      · have hge : (tz : Int) ≤ (a : Int) + 2 := by omega
        clear hv hv' h117 h2
        go_enter Tryd.func51, Tryd.ntmps51
        go_wp2_with fail
        go_ret3
        exact ⟨by rw [HV.out]; rfl, Below.refl _ _⟩
  · exact (escape_plain pb a tz s ha ht hs w hp (fun h e => h1 ⟨h, e⟩) v hv).mono fun e w' ⟨he, hw⟩ => ⟨he, by rw [← hw]; exact Below.refl _ _⟩
/-- the parser's block; s: its source. -/
def ParAt (w : World) (pb : Nat) (s : Ini.Str) : Prop := ∃ cs : Array Value, w.heap[pb]? = some (.cells cs 62 (0, 0)) ∧ cs.size = 11 ∧ cs[2]? = some (.string ⟨s.toArray⟩)
theorem ParAt.src {w : World} {pb : Nat} {s : Ini.Str} (h : ParAt w pb s) : SrcAt w pb s := by
  obtain ⟨cs, h1, _, h3⟩ := h
  unfold SrcAt
  rw [Blk.cell (t := 62) (cs := cs) h1 2, h3]
theorem ParAt.lt {w : World} {pb : Nat} {s : Ini.Str} (h : ParAt w pb s) : pb < w.heap.size := by
  obtain ⟨cs, h1, _, h3⟩ := h
  exact Blk.lt (t := 62) (cs := cs) h1
theorem ParAt.below {B : Nat} {w w' : World} {pb : Nat} {s : Ini.Str} (h : ParAt w pb s) (hb : Below B w w') (hB : pb < B) : ParAt w' pb s := by
  obtain ⟨cs, h1, h2, h3⟩ := h
  exact ⟨cs, (hb.block pb hB).trans h1, h2, h3⟩
theorem ParAt.alloc {w : World} {pb : Nat} {s : Ini.Str} (h : ParAt w pb s) (o : Obj) : ParAt (w.alloc o) pb s := h.below ((Below.refl w.heap.size w).alloc (Nat.le_refl _) o) h.lt
theorem fail_par (pb a e : Nat) (s : Ini.Str) (w : World) (hp : ParAt w pb s) :
    Calls Tryd.prog 39 #[.pointer (some ⟨pb, 0, none⟩), .int .i64 a, .int .i64 e] w fun r w' => r = .returned (.bool false) ∧ FailAt w w' pb a e := by
  obtain ⟨cs, h1, h2, _⟩ := hp
  exact fail_any pb a e cs w h1 h2
/-- what a failure of a reader leaves. -/
def FailPost (w w' : World) (pb a e : Nat) : Prop := ∃ w1, Below w.heap.size w w1 ∧ FailAt w1 w' pb a e
/-- what quoted answers. -/
def QPost (w : World) (pb : Nat) (R : Ini.Res (Ini.Str × Nat)) (e : Ending) (w' : World) : Prop :=
  match R with
  | .err x c => e = .returned (.tuple #[.string ⟨#[]⟩, .int .i64 0, .bool false]) ∧ FailPost w w' pb x c
  | .ok (t, i) => e = .returned (.tuple #[.string ⟨t.toArray⟩, .int .i64 (i : Nat), .bool true]) ∧ Below w.heap.size w w'
theorem builder_later {B b : Nat} {bs : List Value} {w w' : World} (h : Lib.IsBuilder 106 5 B b bs w) (hb : Below w.heap.size w w') : Lib.IsBuilder 106 5 B b bs w' := by
  have key : ∀ p, Lib.BuilderAt 106 5 B b p bs w → Lib.BuilderAt 106 5 B b p bs w' := by
    rintro p ⟨h1, v, h2, h3, h4⟩
    have hlt : b < w.heap.size := Blk.lt (t := 106) (cs := #[p, v]) h2
    refine ⟨h1, v, (hb.block b hlt).trans h2, ?_, h4⟩
    refine ⟨h3.1, ?_⟩
    rcases h3.2 with hn | ⟨g, cap, cur, rfl, hbg, hgg, rest⟩
    · exact .inl hn
    · have hg : g < w.heap.size := Blk.lt (t := 5) (cs := cur) hgg
      exact .inr ⟨g, cap, cur, rfl, hbg, (hb.block g hg).trans hgg, rest⟩
  rcases h with h | h
  · exact .inl (key _ h)
  · exact .inr (key _ h)
set_option maxRecDepth 100000 in
set_option maxHeartbeats 4000000 in
theorem quoted_any (pb a tz : Nat) (s : Ini.Str) (ha : a < tz) (ht : tz ≤ s.length) (hs : s.length ≤ 1073741823) (w : World) (hp : ParAt w pb s) (R : Ini.Res (Ini.Str × Nat)) (hR : Ini.quoted (seg s a tz) a = R) :
    Calls Tryd.prog 42 #[.pointer (some ⟨pb, 0, none⟩), .int .i64 a, .int .i64 tz] w (QPost w pb R) := by
  have HR : Hid (Ini.Q (seg s (a + 1) tz) (a + 1) [] = R) := Lib.hid (by rw [← hR, seg_cons s a tz ha ht, Ini.quoted_Q])
  clear hR
  go_enter Tryd.func42, Tryd.ntmps42
  go_wp2_with fail
  go_loopw [10] (fun i wr => ∃ (k : Nat) (acc : Ini.Str), a < k ∧ k ≤ tz ∧ acc.length ≤ k ∧ i = .int .i64 k ∧ Hid (Ini.Q (seg s k tz) k acc = R) ∧ Lib.IsBuilder 106 5 w.heap.size w.heap.size (Lib.byteCells acc) wr ∧ Below w.heap.size w wr ∧ w.heap.size < wr.heap.size) (fun i _ => tz - (intOf i).toNat)
  case atStart => exact ⟨a + 1, [], by omega, by omega, by simp, by go_num, HR, Lib.fresh_isBuilder 106 5 w, (Below.refl _ _).alloc (Nat.le_refl _) _, by simp⟩
  case round =>
    obtain ⟨k, acc, h1, h2, h3, rfl, HQ, hB, hb, hz⟩ := hrel
    have hpr : ParAt wr pb s := hp.below hb hp.lt
    have hsrc := hpr.src
    unfold SrcAt at hsrc
    have HP := Lib.hid hpr
    have HB := Lib.hid hB
    clear hpr hB
    by_cases hlt : k < tz
    · have hlti : (k : Int) < (tz : Int) := by omega
      have hcons := seg_cons s k tz hlt ht
      obtain ⟨c, hcc⟩ : ∃ c, s[k]'(by omega) = c := ⟨_, rfl⟩
      rw [hcc] at hcons
      by_cases e34 : c = 34
      · have q1 := byte_is s k (by omega) c 34 34 rfl hcc e34
        have HE : Hid (R = .ok (acc, k + 1)) := Lib.hid (by rw [← HQ.out, hcons, e34, Ini.Q_end])
        clear hcons hcc e34
        go_wp2_with fail
        refine (Tryd.Builder_String_any w.heap.size w.heap.size acc _ HB.out (by omega)).mono ?_
        rintro e w2 ⟨rfl, hb2⟩
        go_wp2_with fail
        go_ret3
        rw [HE.out]
        exact ⟨by refine congrArg Ending.returned (congrArg Value.tuple ?_); go_num, hb.trans hb2⟩
      · have q1 := byte_not s k (by omega) c 34 34 rfl hcc e34
        have q1b : ((((⟨s.toArray⟩ : ByteArray)[k]'(by simp [ByteArray.size]; omega)).toNat : Int) != 34) = true := by simpa using q1
        by_cases e92 : c = 92
        · have q2 := byte_is s k (by omega) c 92 92 rfl hcc e92
          rw [e92] at hcons
          have HQ2 : Hid (Ini.Q (92 :: seg s (k + 1) tz) k acc = R) := Lib.hid (by rw [← hcons]; exact HQ.out)
          cases hesc : Ini.esc (seg s k tz) with
          | err x e =>
            have HE : Hid (R = .err k e) := Lib.hid (by rw [← HQ2.out, Ini.Q_esc, ← hcons, hesc])
            have hv : escVal (Ini.esc (seg s k tz)) = .tuple #[.string ⟨#[]⟩, .int .i64 0, .int .i64 (e : Int)] := by rw [hesc]; rfl
            have HVV := Lib.hid hv
            have hne : e ≠ 0 := by have := Ini.esc_err _ _ _ hesc; omega
            have hneb : ((e : Int) != 0) = true := by simpa using hne
            have HS := Lib.hid hesc
            have HC := Lib.hid hcons
            clear hcons hcc e34 e92 hesc hv q1
            go_wp2_with fail
            refine (escape_any pb k tz s hlt ht (by omega) _ HP.out.src _ HVV.out).mono ?_
            rintro e' w2 ⟨rfl, hb2⟩
            go_wp2_with fail
            refine (fail_par pb k e s _ (HP.out.below hb2 HP.out.lt)).mono ?_
            rintro e' w3 ⟨rfl, hf⟩
            have HF := Lib.hid hf
            clear hf
            go_wp2_with fail
            go_ret3
            rw [HE.out]
            exact ⟨rfl, w2, hb.trans (hb2.mono (by omega)), HF.out⟩
          | ok p =>
            obtain ⟨t, j⟩ := p
            obtain ⟨l1, l2, l3⟩ := Ini.esc_len _ _ _ hesc
            rw [seg_len s k tz ht] at l2
            have HE : Hid (Ini.Q (seg s (k + j) tz) (k + j) (acc ++ t) = R) := Lib.hid (by
              rw [← HQ2.out, Ini.Q_esc, ← hcons, hesc]
              show _ = Ini.Q ((seg s k tz).drop j) _ _
              unfold seg
              rw [List.drop_drop])
            have hv : escVal (Ini.esc (seg s k tz)) = .tuple #[.string ⟨t.toArray⟩, .int .i64 (j : Int), .int .i64 0] := by rw [hesc]; rfl
            have HVV := Lib.hid hv
            have HS := Lib.hid hesc
            have HC := Lib.hid hcons
            clear hcons hcc e34 e92 hesc hv q1
            go_wp2_with fail
            refine (escape_any pb k tz s hlt ht (by omega) _ HP.out.src _ HVV.out).mono ?_
            rintro e' w2 ⟨rfl, hb2⟩
            have hz2 := hb2.size
            go_wp2_with fail
            refine (writestring_any w.heap.size w.heap.size (Lib.byteCells acc) ⟨t.toArray⟩ _ (builder_later HB.out hb2) (by simp [Lib.byteCells, ByteArray.size]; omega) (by omega)).mono ?_
            rintro e' w3 ⟨rfl, hB3, hb3⟩
            have HB3 := Lib.hid hB3
            have hz3 := hb3.size
            clear hB3
            go_wp2_with fail
            go_roundw
            case rel => exact ⟨k + j, acc ++ t, by omega, by omega, by simp; omega, by go_num, HE, .inr (by rw [Lib.byteCells_append]; exact HB3.out), (hb.trans (hb2.mono (by omega))).trans hb3, by omega⟩
            case measure => simp [intOf]; omega
        · have q2 := byte_not s k (by omega) c 92 92 rfl hcc e92
          have q2b : ((((⟨s.toArray⟩ : ByteArray)[k]'(by simp [ByteArray.size]; omega)).toNat : Int) != 92) = true := by simpa using q2
          have HE : Hid (Ini.Q (seg s (k + 1) tz) (k + 1) (acc ++ [c]) = R) := Lib.hid (by rw [← HQ.out, hcons, Ini.Q_byte c _ _ _ e34 e92])
          have HCC : Hid ((((⟨s.toArray⟩ : ByteArray)[k]'(by simp [ByteArray.size]; omega)).toNat : Int) = (c.toNat : Int)) := Lib.hid (byte_is s k (by omega) c c c.toNat rfl hcc rfl)
          clear hcons hcc e34 e92 q1 q2
          go_wp2_with fail
          refine (writebyte_any w.heap.size w.heap.size (Lib.byteCells acc) _ _ HB.out (by simp [Lib.byteCells]; omega) (by omega)).mono ?_
          rw [HCC.out]
          rintro e' w3 ⟨rfl, hB3, hb3⟩
          have HB3 := Lib.hid hB3
          have hz3 := hb3.size
          clear hB3
          go_wp2_with fail
          go_roundw
          case rel => exact ⟨k + 1, acc ++ [c], by omega, by omega, by simp; omega, by go_num, HE, .inr (by rw [Lib.byteCells_append]; exact HB3.out), hb.trans hb3, by omega⟩
          case measure => simp [intOf]; omega
    · have hge : (tz : Int) ≤ (k : Int) := by omega
      have hlti : ¬ (k : Int) < (tz : Int) := by omega
      have hk : k = tz := by omega
      have HE : Hid (R = .err tz 4) := Lib.hid (by rw [← HQ.out, seg_nil s k tz (by omega), Ini.Q_nil, hk])
      clear hk
      go_wp2_with fail
      refine (fail_par pb tz 4 s _ HP.out).mono ?_
      rintro e' w3 ⟨rfl, hf⟩
      have HF := Lib.hid hf
      clear hf
      go_wp2_with fail
      go_ret3
      rw [HE.out]
      exact ⟨rfl, wr, hb, HF.out⟩
end Go.Proofs.YtegdemnfjmaicaaDoor
