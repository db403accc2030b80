/- Walks: SameDoc at two like documents. -/
import Derived.Test.YtegdemnfjmaicaaDoorWalk29
namespace Go.Proofs.YtegdemnfjmaicaaDoor
open Go.RowKit
theorem note_get {w : World} {B : Nat} {A : Option Addr} {l : List Ini.Note} {k : Nat} (h : RowAt noteL w B A l) (hk : k < l.length) : ∃ ad, A = some ad ∧ ad.block < B ∧ w.cell? (ad.add (k * 3)) = some (.int .i64 (l[k].from_ : Int)) ∧
    w.cell? { block := (ad.add (k * 3)).block, off := (ad.add (k * 3)).off + 1 } = some (.int .i64 (l[k].to_ : Int)) ∧ w.cell? { block := (ad.add (k * 3)).block, off := (ad.add (k * 3)).off + 2 } = some (.string ⟨l[k].text.toArray⟩) := by
  obtain ⟨ad, h1, h2, h3, h4⟩ := h.get hk
  exact ⟨ad, h1, h2, h3 _ rfl, h4 1 _ (by omega) rfl, h4 2 _ (by omega) rfl⟩
theorem eq_span (x0 x1 x2 x3 x4 x5 x6 : Int) (x7 : Bool) (W : World) : (Op.equalIn 10000 45 (.agg #[.int .i64 x0, .int .i64 x1, .int .i64 x2, .int .i64 x3, .int .i64 x4, .int .i64 x5, .int .i64 x6, .bool false, .bool x7]) (.agg #[.int .i64 x0, .int .i64 x1, .int .i64 x2, .int .i64 x3, .int .i64 x4, .int .i64 x5, .int .i64 x6, .bool false, .bool x7])).run Tryd.prog W = .ok true W := by
  simp [go_sem]
theorem eq_note (x0 x1 : Int) (x2 : Ini.Str) (W : World) : (Op.equalIn 10000 54 (.agg #[.int .i64 x0, .int .i64 x1, .string ⟨x2.toArray⟩]) (.agg #[.int .i64 x0, .int .i64 x1, .string ⟨x2.toArray⟩])).run Tryd.prog W = .ok true W := by
  simp [go_sem]
/-- a document's value. -/
def docV (f : Int) (s : Ini.Str) (A : Option Addr) (n c : Nat) (B : Option Addr) (m d : Nat) (C : Option Addr) (k g : Nat) : Array Value := #[.int .i64 f, .string ⟨s.toArray⟩, .slice A n c, .int .i64 0, .slice B m d, .slice C k g]
set_option maxRecDepth 100000 in
set_option maxHeartbeats 8000000 in
theorem samedoc_same (f : Int) (s : Ini.Str) (A A' B B' C C' : Option Addr) (c c' d d' g g' : Nat) (vs us : List NV) (ns : List Ini.Nd) (sps : List Ini.Sp) (nts : List Ini.Note) (w : World)
    (h : GAt w w.heap.size A vs ns) (h' : GAt w w.heap.size A' us ns) (hs : RowAt spanL w w.heap.size B sps) (hs' : RowAt spanL w w.heap.size B' sps) (hn : RowAt noteL w w.heap.size C nts) (hn' : RowAt noteL w w.heap.size C' nts)
    (hl : ns.length ≤ 1073741823) (hsl : sps.length ≤ 1073741823) (hnl : nts.length ≤ 1073741823) (hkl : ∀ n ∈ ns, n.keys.length ≤ 1073741824 ∧ n.items.length ≤ 1073741824) :
    Calls Tryd.prog 12 #[.agg (docV f s A vs.length c B sps.length d C nts.length g), .agg (docV f s A' us.length c' B' sps.length d' C' nts.length g')] w fun e w' => e = .returned (.bool true) ∧ Below w.heap.size w w' := by
  have HG := Lib.hid h
  have HG' := Lib.hid h'
  have HS := Lib.hid hs
  have HS' := Lib.hid hs'
  have HN := Lib.hid hn
  have HN' := Lib.hid hn'
  clear h h' hs hs' hn hn'
  go_enter Tryd.func12, Tryd.ntmps12
  obtain ⟨w1, hw1⟩ : ∃ w1, (w.alloc (.cells (docV f s A vs.length c B sps.length d C nts.length g) 29)).alloc (.cells (docV f s A' us.length c' B' sps.length d' C' nts.length g') 29) = w1 := ⟨_, rfl⟩
  have l1 : Below w.heap.size w w1 := by rw [← hw1]; exact ((Below.refl _ _).alloc (Nat.le_refl _) _).alloc (by simp) _
  have z1 : w.heap.size + 2 ≤ w1.heap.size := by rw [← hw1]; simp
  have b1 : Blk w1 w.heap.size 29 (docV f s A vs.length c B sps.length d C nts.length g) := by rw [← hw1]; exact (Blk.new w 29 _).alloc _
  have b2 : Blk w1 (w.heap.size + 1) 29 (docV f s A' us.length c' B' sps.length d' C' nts.length g') := by
    rw [← hw1]
    have := Blk.new (w.alloc (.cells (docV f s A vs.length c B sps.length d C nts.length g) 29)) 29 (docV f s A' us.length c' B' sps.length d' C' nts.length g')
    rw [World.size_alloc] at this
    exact this
  have p0 : w1.cell? ⟨w.heap.size, 0, none⟩ = some (.int .i64 f) := b1.cell 0
  have p1 : w1.cell? ⟨w.heap.size, 1, none⟩ = some (.string ⟨s.toArray⟩) := b1.cell 1
  have p2 : w1.cell? ⟨w.heap.size, 2, none⟩ = some (.slice A vs.length c) := b1.cell 2
  have p3 : w1.cell? ⟨w.heap.size, 3, none⟩ = some (.int .i64 0) := b1.cell 3
  have p4 : w1.cell? ⟨w.heap.size, 4, none⟩ = some (.slice B sps.length d) := b1.cell 4
  have p5 : w1.cell? ⟨w.heap.size, 5, none⟩ = some (.slice C nts.length g) := b1.cell 5
  have q0 : w1.cell? ⟨w.heap.size + 1, 0, none⟩ = some (.int .i64 f) := b2.cell 0
  have q1 : w1.cell? ⟨w.heap.size + 1, 1, none⟩ = some (.string ⟨s.toArray⟩) := b2.cell 1
  have q2 : w1.cell? ⟨w.heap.size + 1, 2, none⟩ = some (.slice A' us.length c') := b2.cell 2
  have q3 : w1.cell? ⟨w.heap.size + 1, 3, none⟩ = some (.int .i64 0) := b2.cell 3
  have q4 : w1.cell? ⟨w.heap.size + 1, 4, none⟩ = some (.slice B' sps.length d') := b2.cell 4
  have q5 : w1.cell? ⟨w.heap.size + 1, 5, none⟩ = some (.slice C' nts.length g') := b2.cell 5
  have L1 := Lib.hid l1
  have Z1 := Lib.hid z1
  have B1 := Lib.hid b1
  have B2 := Lib.hid b2
  clear b1 b2 l1 z1
  unfold docV at hw1 ⊢
  go_upto_region 1 with fail
  (try rw [hw1])
  clear hw1
  go_wp2_with fail
  refine (samegraph_any A A' c c' vs us ns ns w1 ((HG.out.below L1.out).more L1.out.size) ((HG'.out.below L1.out).more L1.out.size) hl true (by simp) hkl).mono ?_
  rintro e w2 ⟨rfl, hb2⟩
  have L2 : Hid (Below w.heap.size w w2) := Lib.hid (L1.out.trans (hb2.mono L1.out.size))
  have b1 : Blk w2 w.heap.size 29 (docV f s A vs.length c B sps.length d C nts.length g) := B1.out.below hb2 (by have := Z1.out; omega)
  have b2 : Blk w2 (w.heap.size + 1) 29 (docV f s A' us.length c' B' sps.length d' C' nts.length g') := B2.out.below hb2 (by have := Z1.out; omega)
  have r4 : w2.cell? ⟨w.heap.size, 4, none⟩ = some (.slice B sps.length d) := b1.cell 4
  have r5 : w2.cell? ⟨w.heap.size, 5, none⟩ = some (.slice C nts.length g) := b1.cell 5
  have t4 : w2.cell? ⟨w.heap.size + 1, 4, none⟩ = some (.slice B' sps.length d') := b2.cell 4
  have t5 : w2.cell? ⟨w.heap.size + 1, 5, none⟩ = some (.slice C' nts.length g') := b2.cell 5
  have B1 := Lib.hid b1
  have B2 := Lib.hid b2
  clear p0 p1 p2 p3 p4 p5 q0 q1 q2 q3 q4 q5 hb2 b1 b2
  go_wp2_with fail
  clear r4 r5 t4 t5
  go_loopw [5] (fun s5 wr => ∃ k : Nat, k ≤ sps.length ∧ s5 = .int .i64 k ∧ Hid (Below w2.heap.size w2 wr)) (fun s5 _ => sps.length - (intOf s5).toNat)
  case atStart => exact ⟨0, by omega, rfl, Lib.hid (Below.refl _ _)⟩
  case round =>
    obtain ⟨k, hk, rfl, HW⟩ := hrel
    have L3 : Hid (Below w.heap.size w wr) := Lib.hid (L2.out.trans (HW.out.mono L2.out.size))
    have r4 : wr.cell? ⟨w.heap.size, 4, none⟩ = some (.slice B sps.length d) := (B1.out.below HW.out B1.out.lt).cell 4
    have r5 : wr.cell? ⟨w.heap.size, 5, none⟩ = some (.slice C nts.length g) := (B1.out.below HW.out B1.out.lt).cell 5
    have t4 : wr.cell? ⟨w.heap.size + 1, 4, none⟩ = some (.slice B' sps.length d') := (B2.out.below HW.out B2.out.lt).cell 4
    have t5 : wr.cell? ⟨w.heap.size + 1, 5, none⟩ = some (.slice C' nts.length g') := (B2.out.below HW.out B2.out.lt).cell 5
    by_cases hlt : k < sps.length
    · have hkI : (k : Int) < (sps.length : Int) := by omega
      obtain ⟨ad, rfl, _, y0, y1, y2, y3, y4, y5, y6, y7, y8⟩ := span_at (HS.out.below L3.out) hlt
      obtain ⟨ad', rfl, _, z0, z1, z2, z3, z4, z5, z6, z7, z8⟩ := span_at (HS'.out.below L3.out) hlt
      obtain ⟨⟨x0, x1, x2, x3, x4, x5, x6, x7⟩, hx⟩ : ∃ x, sps[k] = x := ⟨_, rfl⟩
      rw [hx] at y0 y1 y2 y3 y4 y5 y6 y8 z0 z1 z2 z3 z4 z5 z6 z8
      simp only at y0 y1 y2 y3 y4 y5 y6 y8 z0 z1 z2 z3 z4 z5 z6 z8
      have heqp := eq_span x0 x1 x2 x3 x4 x5 x6 x7
      clear hx
      go_upto_region 6 with fail
      go_quiet (fail)
      go_wp2_with fail
      go_roundw
      case rel => exact ⟨k + 1, by omega, by go_num, Lib.hid (by first | exact HW.out | exact below_drewN HW.out _)⟩
      case measure => simp [intOf]; omega
    · have hkI : ¬ ((k : Int) < (sps.length : Int)) := by omega
      go_wp2_with fail
      clear r4 r5 t4 t5
      go_loopw [6] (fun s6 wr => ∃ k : Nat, k ≤ nts.length ∧ s6 = .int .i64 k ∧ Hid (Below w2.heap.size w2 wr)) (fun s6 _ => nts.length - (intOf s6).toNat)
      case atStart => exact ⟨0, by omega, rfl, HW⟩
      case round =>
        clear HW L3
        obtain ⟨k, hk, rfl, HW⟩ := hrel
        have L3 : Hid (Below w.heap.size w wr) := Lib.hid (L2.out.trans (HW.out.mono L2.out.size))
        have r5 : wr.cell? ⟨w.heap.size, 5, none⟩ = some (.slice C nts.length g) := (B1.out.below HW.out B1.out.lt).cell 5
        have t5 : wr.cell? ⟨w.heap.size + 1, 5, none⟩ = some (.slice C' nts.length g') := (B2.out.below HW.out B2.out.lt).cell 5
        by_cases hlt : k < nts.length
        · have hkI : (k : Int) < (nts.length : Int) := by omega
          obtain ⟨ad, rfl, _, y0, y1, y2⟩ := note_get (HN.out.below L3.out) hlt
          obtain ⟨ad', rfl, _, z0, z1, z2⟩ := note_get (HN'.out.below L3.out) hlt
          obtain ⟨⟨x0, x1, x2⟩, hx⟩ : ∃ x, nts[k] = x := ⟨_, rfl⟩
          rw [hx] at y0 y1 y2 z0 z1 z2
          simp only at y0 y1 y2 z0 z1 z2
          have heqp := eq_note x0 x1 x2
          clear hx
          go_upto_region 11 with fail
          go_quiet (fail)
          go_wp2_with fail
          go_roundw
          case rel => exact ⟨k + 1, by omega, by go_num, Lib.hid (by first | exact HW.out | exact below_drewN HW.out _)⟩
          case measure => simp [intOf]; omega
        · have hkI : ¬ ((k : Int) < (nts.length : Int)) := by omega
          go_wp2_with fail
          go_ret
          exact ⟨rfl, L3.out⟩
end Go.Proofs.YtegdemnfjmaicaaDoor
