/- Walks: reached, counts, inKeys. -/
import Derived.Test.YtoigpackhninoaaGreatDoorGrReached
import Derived.Laws.EntriesVeiled
namespace Go.Proofs.YtoigpackhninoaaGreatDoor
open Go.RowKit
theorem kept_of {g : Nat} {w w1 w2 : World} (h1 : Below w.heap.size w w1) (h2 : Kept1 g w1 w2) : KeptBut' w w2 (fun k => k = g) :=
  ⟨h2.os.trans h1.os, h2.tape.trans h1.tape, h2.output.trans h1.output, by rw [h2.size]; exact h1.size, fun k hk hg => (h2.block k hg).trans (h1.block k hk)⟩
set_option maxRecDepth 100000 in
set_option maxHeartbeats 4000000 in
theorem reached_any (mb : Nat) (A : Option Addr) (c : Nat) (root : Int) (vs : List NV) (ns : List Gr.Nd) (B : Nat) (hr : Gr.Refs ns) (hl : ns.length ≤ 1073741823) (hks : ∀ n ∈ ns, n.keys.length ≤ 1073741823 ∧ n.items.length ≤ 1073741823)
    (m : List Bool) (a : Nat) (w : World) (h : GAt w B A vs ns) (hB : B ≤ mb) (hm : Blk w mb 4 (bcells m)) (hml : m.length = ns.length) (ha : a < ns.length) (hu : Gr.unm ns.length m ≤ ns.length) :
    Calls Tryz.prog 34 #[.agg #[.slice A ns.length c, .int .i64 root], .int .i64 a, .slice (some ⟨mb, 0, none⟩) ns.length ns.length] w fun e w' => e = .returned (.tuple #[]) ∧ KeptBut' w w' (fun k => k = mb) ∧ Blk w' mb 4 (bcells (Gr.dvisit (Gr.succ ns) ns.length m a)) := by
  have hBw : B ≤ w.heap.size := Nat.le_trans hB (Nat.le_of_lt hm.lt)
  have H := Lib.hid h
  have HM := Lib.hid hm
  clear h hm
  go_enter Tryz.func34, Tryz.ntmps34
  go_upto_region 3 with fail
  obtain ⟨w3, hw3⟩ : ∃ w3, ((w.alloc (.cells #[.slice A ns.length c, .int .i64 root] 24)).alloc (.cells #[.slice (some ⟨mb, 0, none⟩) ns.length ns.length] 62)).alloc (.cells #[.func (.func 63) #[] #[.pointer (some ⟨w.heap.size + 1, 0, none⟩), .pointer (some ⟨w.heap.size, 0, none⟩), .pointer (some ⟨w.heap.size + 1 + 1, 0, none⟩)]] 88) = w3 := ⟨_, rfl⟩
  have l3 : Below w.heap.size w w3 := by rw [← hw3]; exact (((Below.refl _ _).alloc (Nat.le_refl _) _).alloc (by simp) _).alloc (by simp; omega) _
  have b1 : Blk w3 w.heap.size 24 #[.slice A ns.length c, .int .i64 root] := by rw [← hw3]; exact ((Blk.new _ _ _).alloc _).alloc _
  have b2 : Blk w3 (w.heap.size + 1) 62 #[.slice (some ⟨mb, 0, none⟩) ns.length ns.length] := by
    rw [← hw3]
    have := Blk.new (w.alloc (.cells #[.slice A ns.length c, .int .i64 root] 24)) 62 #[.slice (some ⟨mb, 0, none⟩) ns.length ns.length]
    rw [World.size_alloc] at this
    exact this.alloc _
  have b3 : Blk w3 (w.heap.size + 1 + 1) 88 #[.func (.func 63) #[] #[.pointer (some ⟨w.heap.size + 1, 0, none⟩), .pointer (some ⟨w.heap.size, 0, none⟩), .pointer (some ⟨w.heap.size + 1 + 1, 0, none⟩)]] := by
    rw [← hw3]
    have := Blk.new ((w.alloc (.cells #[.slice A ns.length c, .int .i64 root] 24)).alloc (.cells #[.slice (some ⟨mb, 0, none⟩) ns.length ns.length] 62)) 88 #[.func (.func 63) #[] #[.pointer (some ⟨w.heap.size + 1, 0, none⟩), .pointer (some ⟨w.heap.size, 0, none⟩), .pointer (some ⟨w.heap.size + 1 + 1, 0, none⟩)]]
    rw [World.size_alloc, World.size_alloc] at this
    exact this
  have v0 : w3.cell? ⟨w.heap.size + 1 + 1, 0, none⟩ = some (.func (.func 63) #[] #[.pointer (some ⟨w.heap.size + 1, 0, none⟩), .pointer (some ⟨w.heap.size, 0, none⟩), .pointer (some ⟨w.heap.size + 1 + 1, 0, none⟩)]) := b3.cell 0
  have hRV : RV w3 mb (w.heap.size + 1) w.heap.size (w.heap.size + 1 + 1) A c root vs ns B := ⟨b2, b1, b3, H.out.below (l3.mono hBw), hB⟩
  have HC := Lib.hid (visit_any mb (w.heap.size + 1) w.heap.size (w.heap.size + 1 + 1) A c root vs ns B hr hl hks ns.length m a w3 hRV (HM.out.below l3 HM.out.lt) hml ha hu)
  have L3 := Lib.hid l3
  rw [hw3]
  clear hw3 l3 b1 b2 b3 hRV
  go_wp2_with fail
  refine HC.out.mono ?_
  rintro e w5 ⟨rfl, hk5, hb5⟩
  have HK5 := Lib.hid hk5
  have HB5 := Lib.hid hb5
  clear hk5 hb5
  go_wp2_with fail
  go_end0
  exact ⟨rfl, kept_of L3.out HK5.out, HB5.out⟩
end Go.Proofs.YtoigpackhninoaaGreatDoor
