/- Walks: the reference's Scalar, Encode; its reader's memory. -/
import Derived.Test.YtegdemnfjmaicaaDoorWalk32
import Derived.Test.YtegdemnfjmaicaaDoorMem3
namespace Go.Proofs.YtegdemnfjmaicaaDoor
open Go.RowKit
set_option maxRecDepth 100000 in
set_option maxHeartbeats 1000000 in
theorem rscalar_any (n : Nat) (hn : n < 16777216) (w : World) (r : Bool) (hr : Ini.isScalar n = r) :
    Calls Tryd.prog 56 #[.int .i32 n] w fun e w' => e = .returned (.bool r) ∧ w = w' := by
  have h0 : (0 : Int) ≤ (n : Int) := by omega
  by_cases h1 : n ≤ 1114111
  · have h1I : (n : Int) ≤ 1114111 := by omega
    by_cases h2 : n < 55296
    · have h2I : (n : Int) < 55296 := by omega
      have hT : Hid (r = true) := Lib.hid (by rw [← hr]; unfold Ini.isScalar; simp; omega)
      clear hr
      go_enter Tryd.func56, Tryd.ntmps56
      go_wp2_with fail
      go_ret
      exact ⟨by rw [hT.out]; rfl, rfl⟩
    · have h2I : ¬ ((n : Int) < 55296) := by omega
      have h2b : decide ((n : Int) < 55296) = false := by simpa using h2I
      by_cases h3 : 57343 < n
      · have h3I : (57343 : Int) < (n : Int) := by omega
        have hT : Hid (r = true) := Lib.hid (by rw [← hr]; unfold Ini.isScalar; simp; omega)
        clear hr
        go_enter Tryd.func56, Tryd.ntmps56
        go_wp2_with fail
        go_ret
        exact ⟨by rw [hT.out]; rfl, rfl⟩
      · have h3I : ¬ ((57343 : Int) < (n : Int)) := by omega
        have h3b : decide ((57343 : Int) < (n : Int)) = false := by simpa using h3I
        have hT : Hid (r = false) := Lib.hid (by rw [← hr]; unfold Ini.isScalar; simp; omega)
        clear hr
        go_enter Tryd.func56, Tryd.ntmps56
        go_wp2_with fail
        go_ret
        exact ⟨by rw [hT.out]; rfl, rfl⟩
  · have h1I : ¬ ((n : Int) ≤ 1114111) := by omega
    have h1b : decide ((n : Int) ≤ 1114111) = false := by simpa using h1I
    have hT : Hid (r = false) := Lib.hid (by rw [← hr]; unfold Ini.isScalar; simp; omega)
    clear hr
    go_enter Tryd.func56, Tryd.ntmps56
    go_wp2_with fail
    go_ret
    exact ⟨by rw [hT.out]; rfl, rfl⟩
/-- bytes laid one by one, as a string. -/
theorem enc_conv (l : Ini.Str) (C : Array Value) (k : Nat) (w : World) (hC : C.toList = byteL.all l) (hk : l.length = k) :
    (convert 92 9 (.slice (some ⟨w.heap.size, 0, none⟩) k k)).run Tryd.prog (w.alloc (.cells C 5)) = .ok (.string ⟨l.toArray⟩) (w.alloc (.cells C 5)) := by
  subst hk
  refine Go.run_convert_bytes_back (P := Tryd.prog) (w.alloc (.cells C 5)) 92 9 5 ⟨w.heap.size, 0, none⟩ l.length l Tryd.underlying92 Tryd.underlying5 Tryd.underlying9 ?_
  intro j hj
  have e : (⟨w.heap.size, 0, none⟩ : Addr).add j = ⟨w.heap.size, j, none⟩ := by
    unfold Addr.add
    by_cases h0 : j = 0
    · simp [h0]
    · simp [h0]
  rw [e]
  have hg : (w.alloc (.cells C 5)).heap[w.heap.size]? = some (.cells C 5) := heap_alloc_new w _
  unfold World.cell?
  rw [hg]
  show C[j]? = _
  rw [← Array.getElem?_toList, hC, bytes_all, List.getElem?_map, List.getElem?_eq_getElem hj]
  rfl
theorem byte_val (k : Nat) (hk : k < 256) : ((UInt8.ofNat k).toNat : Int) = (k : Int) := by
  rw [UInt8.toNat_ofNat_of_lt' (by simpa using hk)]
set_option maxRecDepth 100000 in
set_option maxHeartbeats 4000000 in
theorem rencode_any (n : Nat) (hn : n ≤ 1114111) (w : World) :
    Calls Tryd.prog 57 #[.int .i32 n] w fun e w' => e = .returned (.string ⟨(Ini.enc n).toArray⟩) ∧ Below w.heap.size w w' := by
  have hw1 : IntKind.i64.wrap (n : Int) = (n : Int) := IntWalk.i64_in _ (by omega)
  by_cases h1 : n < 128
  · have h1I : (n : Int) < 128 := by omega
    have HE : Hid (Ini.enc n = [UInt8.ofNat n]) := Lib.hid (by unfold Ini.enc; rw [if_pos h1])
    have hcv := enc_conv [UInt8.ofNat n] #[.int .u8 (n : Int)] 1 w (by rw [bytes_all]; simp only [List.map_cons, List.map_nil]; rw [byte_val n (by omega)]) rfl
    go_enter Tryd.func57, Tryd.ntmps57
    go_wp2_with fail
    go_ret
    exact ⟨by rw [HE.out]; rfl, (Below.refl _ _).alloc (Nat.le_refl _) _⟩
  · have h1I : ¬ ((n : Int) < 128) := by omega
    by_cases h2 : n < 2048
    · have h2I : (n : Int) < 2048 := by omega
      have he : Ini.enc n = [UInt8.ofNat (192 + n / 64), UInt8.ofNat (128 + n % 64)] := by unfold Ini.enc; rw [if_neg h1, if_pos h2]
      have hcv := enc_conv [UInt8.ofNat (192 + n / 64), UInt8.ofNat (128 + n % 64)] #[.int .u8 (192 + (n : Int) / 64), .int .u8 (128 + (n : Int) % 64)] 2 w (by rw [bytes_all]; simp only [List.map_cons, List.map_nil]; rw [byte_val (192 + n / 64) (by omega), byte_val (128 + n % 64) (by omega)]; rfl) rfl
      obtain ⟨T, hT⟩ : ∃ T, [UInt8.ofNat (192 + n / 64), UInt8.ofNat (128 + n % 64)] = T := ⟨_, rfl⟩
      rw [hT] at hcv he
      have HE := Lib.hid he
      clear hT he
      go_enter Tryd.func57, Tryd.ntmps57
      go_wp2_with fail
      go_ret
      exact ⟨by rw [HE.out]; rfl, (Below.refl _ _).alloc (Nat.le_refl _) _⟩
    · have h2I : ¬ ((n : Int) < 2048) := by omega
      by_cases h3 : n < 65536
      · have h3I : (n : Int) < 65536 := by omega
        have he : Ini.enc n = [UInt8.ofNat (224 + n / 4096), UInt8.ofNat (128 + n / 64 % 64), UInt8.ofNat (128 + n % 64)] := by unfold Ini.enc; rw [if_neg h1, if_neg h2, if_pos h3]
        have hcv := enc_conv [UInt8.ofNat (224 + n / 4096), UInt8.ofNat (128 + n / 64 % 64), UInt8.ofNat (128 + n % 64)] #[.int .u8 (224 + (n : Int) / 4096), .int .u8 (128 + (n : Int) / 64 % 64), .int .u8 (128 + (n : Int) % 64)] 3 w (by rw [bytes_all]; simp only [List.map_cons, List.map_nil]; rw [byte_val (224 + n / 4096) (by omega), byte_val (128 + n / 64 % 64) (by omega), byte_val (128 + n % 64) (by omega)]; rfl) rfl
        obtain ⟨T, hT⟩ : ∃ T, [UInt8.ofNat (224 + n / 4096), UInt8.ofNat (128 + n / 64 % 64), UInt8.ofNat (128 + n % 64)] = T := ⟨_, rfl⟩
        rw [hT] at hcv he
        have HE := Lib.hid he
        clear hT he
        go_enter Tryd.func57, Tryd.ntmps57
        go_wp2_with fail
        go_ret
        exact ⟨by rw [HE.out]; rfl, (Below.refl _ _).alloc (Nat.le_refl _) _⟩
      · have h3I : ¬ ((n : Int) < 65536) := by omega
        have he : Ini.enc n = [UInt8.ofNat (240 + n / 262144), UInt8.ofNat (128 + n / 4096 % 64), UInt8.ofNat (128 + n / 64 % 64), UInt8.ofNat (128 + n % 64)] := by unfold Ini.enc; rw [if_neg h1, if_neg h2, if_neg h3]
        have hcv := enc_conv [UInt8.ofNat (240 + n / 262144), UInt8.ofNat (128 + n / 4096 % 64), UInt8.ofNat (128 + n / 64 % 64), UInt8.ofNat (128 + n % 64)] #[.int .u8 (240 + (n : Int) / 262144), .int .u8 (128 + (n : Int) / 4096 % 64), .int .u8 (128 + (n : Int) / 64 % 64), .int .u8 (128 + (n : Int) % 64)] 4 w (by rw [bytes_all]; simp only [List.map_cons, List.map_nil]; rw [byte_val (240 + n / 262144) (by omega), byte_val (128 + n / 4096 % 64) (by omega), byte_val (128 + n / 64 % 64) (by omega), byte_val (128 + n % 64) (by omega)]; rfl) rfl
        obtain ⟨T, hT⟩ : ∃ T, [UInt8.ofNat (240 + n / 262144), UInt8.ofNat (128 + n / 4096 % 64), UInt8.ofNat (128 + n / 64 % 64), UInt8.ofNat (128 + n % 64)] = T := ⟨_, rfl⟩
        rw [hT] at hcv he
        have HE := Lib.hid he
        clear hT he
        go_enter Tryd.func57, Tryd.ntmps57
        go_wp2_with fail
        go_ret
        exact ⟨by rw [HE.out]; rfl, (Below.refl _ _).alloc (Nat.le_refl _) _⟩
/-! The reference's reader: its block (type 74) and rows. -/
def rcells (V : PV) (s : Ini.Str) (k : Nat) : Array Value := #[.int .i64 3, .string ⟨s.toArray⟩, V.nv, .int .i64 0, V.sv, V.tv, .int .i64 (k : Int), V.at_, V.e_]
structure RAt (B : Nat) (V : PV) (w : World) (rb : Nat) (s : Ini.Str) (st : Ini.St) : Prop where
  le : B ≤ rb
  base : B ≤ w.heap.size
  blk : Blk w rb 74 (rcells V s st.span)
  nodes : OwnRow nodeL w B 49 V.nv V.vs
  spans : OwnRow spanL w B 45 V.sv st.spans
  notes : OwnRow noteL w B 54 V.tv st.notes
  rows : Rows B w V.vs st.nodes
def failV (z : Bool) (V : PV) (x c : Nat) : PV := if z then { V with at_ := .int .i64 (x : Int), e_ := .int .i64 (c : Int) } else V
def E0 (z : Bool) (V : PV) : Prop := if z then V.e_ = .int .i64 0 else ∃ c : Nat, c ≠ 0 ∧ V.e_ = .int .i64 (c : Int)
section
variable {B : Nat} {V : PV} {w w' w2 : World} {rb : Nat} {s : Ini.Str} {st : Ini.St}
theorem RAt.later (h : RAt B V w rb s st) (hb : Below w.heap.size w w') : RAt B V w' rb s st :=
  ⟨h.le, Nat.le_trans h.base hb.size, h.blk.below hb h.blk.lt, h.nodes.later hb, h.spans.later hb, h.notes.later hb, h.rows.kept (KeptT.later hb)⟩
theorem RAt.src (h : RAt B V w rb s st) : w.cell? ⟨rb, 1, none⟩ = some (.string ⟨s.toArray⟩) := h.blk.cell 1
/-- a cell of the block that is no row. -/
theorem RAt.set1 (h : RAt B V w rb s st) (i : Nat) (u : Value) (V' : PV) (st' : Ini.St) (hV : V'.nv = V.nv ∧ V'.sv = V.sv ∧ V'.tv = V.tv ∧ V'.vs = V.vs) (hst : st'.nodes = st.nodes ∧ st'.spans = st.spans ∧ st'.notes = st.notes)
    (hc : (rcells V s st.span).setIfInBounds i u = rcells V' s st'.span) : RAt B V' (w.setCell ⟨rb, i, none⟩ u) rb s st' := by
  have kT : ∀ t, t ≠ 74 → KeptT t w (w.setCell ⟨rb, i, none⟩ u) := fun t ht => KeptT.setCell (p := ⟨rb, i, none⟩) h.blk ht u
  obtain ⟨v1, v2, v3, v4⟩ := hV
  obtain ⟨s1, s2, s3⟩ := hst
  refine ⟨h.le, by rw [setCell_size]; exact h.base, ?_, ?_, ?_, ?_, ?_⟩
  · have := h.blk.set_ i u
    rw [hc] at this
    exact this
  · rw [v1, v4]; exact h.nodes.kept (kT _ (by decide))
  · rw [v2, s2]; exact h.spans.kept (kT _ (by decide))
  · rw [v3, s3]; exact h.notes.kept (kT _ (by decide))
  · rw [v4, s1]; exact h.rows.kept (kT _ (by decide))
theorem RAt.fail_ (h : RAt B V w rb s st) (x c : Nat) : RAt B { V with at_ := .int .i64 (x : Int), e_ := .int .i64 (c : Int) } ((w.setCell ⟨rb, 7, none⟩ (.int .i64 (x : Int))).setCell ⟨rb, 8, none⟩ (.int .i64 (c : Int))) rb s st := by
  have h1 := h.set1 7 (.int .i64 (x : Int)) { V with at_ := .int .i64 (x : Int) } st ⟨rfl, rfl, rfl, rfl⟩ ⟨rfl, rfl, rfl⟩ rfl
  exact h1.set1 8 (.int .i64 (c : Int)) { V with at_ := .int .i64 (x : Int), e_ := .int .i64 (c : Int) } st ⟨rfl, rfl, rfl, rfl⟩ ⟨rfl, rfl, rfl⟩ rfl
end
set_option maxRecDepth 100000 in
set_option maxHeartbeats 1000000 in
theorem rfail_any (B rb x c : Nat) (V : PV) (s : Ini.Str) (st : Ini.St) (w : World) (h : RAt B V w rb s st) (z : Bool) (hz : E0 z V) :
    Calls Tryd.prog 45 #[.pointer (some ⟨rb, 0, none⟩), .int .i64 x, .int .i64 c] w fun e w' => e = .returned (.tuple #[]) ∧ Below B w w' ∧ RAt B (failV z V x c) w' rb s st := by
  have HR := Lib.hid h
  have hle := h.le
  have c8 : w.cell? ⟨rb, 8, none⟩ = some V.e_ := h.blk.cell 8
  have pf : ∀ i, w.frozen? ⟨rb, i, none⟩ = false := h.blk.frozen
  have c7 : w.cell? ⟨rb, 7, none⟩ = some V.at_ := h.blk.cell 7
  have hlt := h.blk.lt
  clear h
  cases z with
  | true =>
    have hz : V.e_ = .int .i64 0 := hz
    rw [hz] at c8
    clear hz
    go_enter Tryd.func45, Tryd.ntmps45
    go_wp2_with fail
    (try go_end0)
    exact ⟨rfl, ((Below.refl _ _).setCell hle _).setCell hle _, HR.out.fail_ x c⟩
  | false =>
    obtain ⟨k, hk0, hk⟩ : ∃ c : Nat, c ≠ 0 ∧ V.e_ = .int .i64 (c : Int) := hz
    rw [hk] at c8
    have k1 : ¬ ((k : Int) = 0) := by omega
    have k1b : ((k : Int) == 0) = false := by simpa using k1
    clear hk
    go_enter Tryd.func45, Tryd.ntmps45
    go_wp2_with fail
    (try go_end0)
    exact ⟨rfl, Below.refl _ _, HR.out⟩
end Go.Proofs.YtegdemnfjmaicaaDoor
