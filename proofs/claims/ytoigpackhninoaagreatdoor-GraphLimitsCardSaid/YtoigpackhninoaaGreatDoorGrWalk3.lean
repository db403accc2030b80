/- Walks: counts. -/
import Derived.Test.YtoigpackhninoaaGreatDoorGrWalk2
namespace Go.Proofs.YtoigpackhninoaaGreatDoor
open Go.RowKit
theorem cstep_len (l : List Nat) (x : Nat) : (Gr.cstep l x).length = l.length := by unfold Gr.cstep; simp
theorem cfold_len (L l : List Nat) : (L.foldl Gr.cstep l).length = l.length := by
  induction L generalizing l with
  | nil => rfl
  | cons x L ih => rw [List.foldl_cons, ih, cstep_len]
theorem cstep_le (l : List Nat) (x y : Nat) : (Gr.cstep l x).getD y 0 ≤ l.getD y 0 + 1 := by
  unfold Gr.cstep
  by_cases h : x = y
  · subst h
    by_cases hx : x < l.length
    · rw [Gr.getD_set_self _ _ _ _ hx]; exact Nat.le_refl _
    · rw [List.set_eq_of_length_le (by omega)]; omega
  · rw [Gr.getD_set_ne _ _ _ _ _ h]; omega
theorem cfold_le (L l : List Nat) (y : Nat) : (L.foldl Gr.cstep l).getD y 0 ≤ l.getD y 0 + L.length := by
  induction L generalizing l with
  | nil => simp
  | cons x L ih =>
    rw [List.foldl_cons, List.length_cons]
    have := ih (Gr.cstep l x)
    have := cstep_le l x y
    omega
theorem refs_take (ns : List Gr.Nd) (j : Nat) (h : j < ns.length) : Gr.refs (ns.take (j + 1)) = Gr.refs (ns.take j) ++ (ns[j].keys ++ ns[j].items) := by
  unfold Gr.refs
  rw [List.take_succ_eq_append_getElem h, List.flatMap_append]
  simp
theorem refs_le (ns : List Gr.Nd) (j : Nat) : (Gr.refs (ns.take j)).length ≤ (Gr.refs ns).length := by
  have : Gr.refs ns = Gr.refs (ns.take j) ++ Gr.refs (ns.drop j) := by
    unfold Gr.refs
    rw [← List.flatMap_append, List.take_append_drop]
  rw [this, List.length_append]
  omega
/-- a node's cells. -/
def ncells (n : Gr.Nd) (k i : SV) : Array Value := #[.int .i64 n.kind, .string ⟨n.text.toArray⟩, .bool n.ord, k.v, i.v]
set_option maxRecDepth 100000 in
set_option maxHeartbeats 4000000 in
theorem counts_any (A : Option Addr) (c : Nat) (root : Nat) (vs : List NV) (ns : List Gr.Nd) (hr : Gr.Refs ns) (hl : ns.length ≤ 1073741823) (hks : ∀ n ∈ ns, n.keys.length ≤ 1073741823 ∧ n.items.length ≤ 1073741823) (hrl : (Gr.refs ns).length ≤ 1125899906842624)
    (w : World) (h : GAt w w.heap.size A vs ns) (hroot : root < ns.length) :
    Calls Tryz.prog 36 #[.agg #[.slice A ns.length c, .int .i64 root]] w fun e w' => ∃ ob, e = .returned (.slice (some ⟨ob, 0, none⟩) ns.length ns.length) ∧ w.heap.size ≤ ob ∧ Below w.heap.size w w' ∧ Blk w' ob 3 (icells (Gr.counts ns root)) := by
  have H := Lib.hid h
  have hmk := fun W => make_ints ns.length (by omega) W
  have hrI : (root : Int) < (ns.length : Int) := by omega
  clear h
  go_enter Tryz.func36, Tryz.ntmps36
  go_upto_region 2 with fail
  obtain ⟨w2, hw2⟩ : ∃ w2, (w.alloc (.cells #[.slice A ns.length c, .int .i64 root] 24)).alloc (.cells (icells (List.replicate ns.length 0)) 3) = w2 := ⟨_, rfl⟩
  have l2 : Below w.heap.size w w2 := by rw [← hw2]; exact ((Below.refl _ _).alloc (Nat.le_refl _) _).alloc (by simp) _
  have bg : Blk w2 w.heap.size 24 #[.slice A ns.length c, .int .i64 root] := by rw [← hw2]; exact (Blk.new _ _ _).alloc _
  have bo : Blk w2 (w.heap.size + 1) 3 (icells (List.replicate ns.length 0)) := by
    rw [← hw2]
    have := Blk.new (w.alloc (.cells #[.slice A ns.length c, .int .i64 root] 24)) 3 (icells (List.replicate ns.length 0))
    rw [World.size_alloc] at this
    exact this
  have g1 : w2.cell? ⟨w.heap.size, 1, none⟩ = some (.int .i64 root) := bg.cell 1
  have z0 : w2.cell? ⟨w.heap.size + 1, root, none⟩ = some (.int .i64 0) := by
    rw [bo.cell, icells_get (by simpa using hroot)]
    simp [List.getD_eq_getElem?_getD, hroot]
  have zf : ∀ i, w2.frozen? ⟨w.heap.size + 1, i, none⟩ = false := bo.frozen
  rw [hw2]
  clear hw2
  go_upto_region 3 with fail
  obtain ⟨l0, hl0⟩ : ∃ l0, Gr.cstep (List.replicate ns.length 0) root = l0 := ⟨_, rfl⟩
  obtain ⟨w3, hw3⟩ : ∃ w3, w2.setCell ⟨w.heap.size + 1, root, none⟩ (.int .i64 1) = w3 := ⟨_, rfl⟩
  have b3 : Blk w3 (w.heap.size + 1) 3 (icells l0) := by
    rw [← hw3, ← hl0]
    unfold Gr.cstep
    have e : (List.replicate ns.length 0).getD root 0 = 0 := by simp [List.getD_eq_getElem?_getD, hroot]
    rw [e, ← icells_set]
    exact bo.set_ root _
  have bg3 : Blk w3 w.heap.size 24 #[.slice A ns.length c, .int .i64 root] := by rw [← hw3]; exact bg.far (by simp) _
  have g0 : w3.cell? ⟨w.heap.size, 0, none⟩ = some (.slice A ns.length c) := bg3.cell 0
  have L3 : Hid (Below w.heap.size w w3) := Lib.hid (by rw [← hw3]; exact l2.setCell (by simp) _)
  have HL0 : Hid (l0.length = ns.length ∧ ∀ x, l0.getD x 0 ≤ 1) := Lib.hid (by
    rw [← hl0]
    refine ⟨by rw [cstep_len]; simp, fun x => ?_⟩
    have := cstep_le (List.replicate ns.length 0) root x
    have e : (List.replicate ns.length 0).getD x 0 = 0 := by simp [List.getD_eq_getElem?_getD, List.getElem?_replicate]; split <;> rfl
    omega)
  have HRES : Hid (Gr.counts ns root = (Gr.refs ns).foldl Gr.cstep l0) := Lib.hid (by rw [← hl0]; rfl)
  have HB3 := Lib.hid b3
  rw [hw3]
  obtain ⟨ob, hob⟩ : ∃ ob, w.heap.size + 1 = ob := ⟨_, rfl⟩
  rw [hob] at HB3 ⊢
  have HLO : Hid (w.heap.size ≤ ob ∧ w.heap.size ≤ w3.heap.size) := Lib.hid ⟨by omega, L3.out.size⟩
  clear hw3 l2 bg bo g1 z0 zf b3 bg3 hob hl0
  go_upto_region 4 with fail
  clear g0 hrI
  go_loopw [24] (fun s24 wr => ∃ j : Nat, j ≤ ns.length ∧ s24 = .int .i64 j ∧ Hid (KB ob w3 wr ∧ Blk wr ob 3 (icells ((Gr.refs (ns.take j)).foldl Gr.cstep l0)))) (fun s24 _ => ns.length - (intOf s24).toNat)
  case atStart => exact ⟨0, by omega, rfl, Lib.hid ⟨KB.refl _ _, by simpa [Gr.refs] using HB3.out⟩⟩
  case round =>
    obtain ⟨j, hj, rfl, HW⟩ := hrel
    obtain ⟨wq, hwq⟩ : ∃ wq, wq = wr := ⟨_, rfl⟩
    subst hwq
    by_cases hlt : j < ns.length
    · have hltI : (j : Int) < (ns.length : Int) := by omega
      obtain ⟨ad, k, i, rfl, hN⟩ := (H.out.below (L3.out.trans (HW.out.1.below HLO.out.1 HLO.out.2))).node hlt
      obtain ⟨ka, kn, kc⟩ := k
      obtain ⟨ia, inn, ic⟩ := i
      have hnm : ns[j] ∈ ns := List.getElem_mem hlt
      obtain ⟨hkl, hil⟩ := hks _ hnm
      have HRF : Hid (∀ x ∈ ns[j].keys ++ ns[j].items, x < ns.length) := Lib.hid (hr _ hnm)
      obtain ⟨R, hR⟩ : ∃ R, Gr.refs (ns.take j) = R := ⟨_, rfl⟩
      have HRR := Lib.hid hR
      have HRJ : Hid (Gr.refs (ns.take (j + 1)) = R ++ (ns[j].keys ++ ns[j].items)) := Lib.hid (by rw [refs_take ns j hlt, hR])
      have HRB : Hid (R.length + ns[j].keys.length + ns[j].items.length ≤ 1125899906842624) := Lib.hid (by
        have h1 := refs_le ns (j + 1)
        rw [HRJ.out] at h1
        simp only [List.length_append] at h1
        omega)
      obtain ⟨n, hn⟩ : ∃ n, ns[j] = n := ⟨_, rfl⟩
      rw [hn] at hN HRF HRJ HRB hkl hil
      obtain rfl : kn = n.keys.length := hN.kn
      obtain rfl : inn = n.items.length := hN.inn
      have x0 := hN.c0
      have x1 := hN.c1
      have x2 := hN.c2
      have x3 := hN.c3
      have x4 := hN.c4
      have HKR := Lib.hid hN.keys
      have HIR := Lib.hid hN.items
      have HLQ : Hid (w.heap.size ≤ ob ∧ w.heap.size ≤ wq.heap.size) := Lib.hid ⟨HLO.out.1, Nat.le_trans HLO.out.2 HW.out.1.size⟩
      clear hN hnm hR hn
      go_upto_region 6 with fail
      obtain ⟨w5, hw5⟩ : ∃ w5, wq.alloc (.cells #[.int .i64 n.kind, .string ⟨n.text.toArray⟩, .bool n.ord, .slice ka n.keys.length kc, .slice ia n.items.length ic] 35) = w5 := ⟨_, rfl⟩
      have b5 : Blk w5 wq.heap.size 35 (ncells n ⟨ka, n.keys.length, kc⟩ ⟨ia, n.items.length, ic⟩) := by rw [← hw5]; exact Blk.new _ _ _
      have s3 : w5.cell? ⟨wq.heap.size, 3, none⟩ = some (.slice ka n.keys.length kc) := b5.cell 3
      have HA : Hid (KB ob wq w5 ∧ Blk w5 ob 3 (icells (R.foldl Gr.cstep l0)) ∧ Blk w5 wq.heap.size 35 (ncells n ⟨ka, n.keys.length, kc⟩ ⟨ia, n.items.length, ic⟩)) := Lib.hid ⟨by rw [← hw5]; exact (KB.refl _ _).alloc _, by
        have := HW.out.2
        rw [HRR.out] at this
        rw [← hw5]; exact this.alloc _, b5⟩
      rw [hw5]
      obtain ⟨ncs, hncs⟩ : ∃ ncs, ncells n ⟨ka, n.keys.length, kc⟩ ⟨ia, n.items.length, ic⟩ = ncs := ⟨_, rfl⟩
      have HC4 : Hid (ncs[4]? = some (.slice ia n.items.length ic)) := Lib.hid (by rw [← hncs]; rfl)
      rw [hncs] at HA
      clear hncs
      obtain ⟨nb, hnb⟩ : ∃ nb, wq.heap.size = nb := ⟨_, rfl⟩
      rw [hnb] at HA s3 ⊢
      clear hw5 b5 x0 x1 x2 x3 x4 hnb
      go_upto_region 7 with fail
      clear s3
      go_loopw [31] (fun s31 wr => ∃ k : Nat, k ≤ n.keys.length ∧ s31 = .int .i64 k ∧ Hid (KB ob wq wr ∧ Blk wr ob 3 (icells ((R ++ n.keys.take k).foldl Gr.cstep l0)) ∧ Blk wr nb 35 ncs)) (fun s31 _ => n.keys.length - (intOf s31).toNat)
      case atStart => exact ⟨0, by omega, rfl, Lib.hid ⟨HA.out.1, by simpa using HA.out.2.1, HA.out.2.2⟩⟩
      case round =>
        obtain ⟨k, hk, rfl, HI⟩ := hrel
        by_cases hlk : k < n.keys.length
        · have hlkI : (k : Int) < (n.keys.length : Int) := by omega
          obtain ⟨x, hx⟩ : ∃ x, n.keys[k] = x := ⟨_, rfl⟩
          obtain ⟨ad2, rfl, _, y0⟩ := int_at (HKR.out.below (HI.out.1.below HLQ.out.1 HLQ.out.2)) hlk
          rw [hx] at y0
          have hxn : x < ns.length := HRF.out x (by simp [← hx])
          obtain ⟨acc, hacc⟩ : ∃ acc, (R ++ n.keys.take k).foldl Gr.cstep l0 = acc := ⟨_, rfl⟩
          have hal : acc.length = ns.length := by rw [← hacc, cfold_len, HL0.out.1]
          have hav : acc.getD x 0 ≤ 1125899906842625 := by
            rw [← hacc]
            have h1 := cfold_le (R ++ n.keys.take k) l0 x
            have h2 := HL0.out.2 x
            have h3 := HRB.out
            rw [List.length_append, List.length_take] at h1
            omega
          have hkb : k ≤ 1073741823 := by omega
          have hb := HI.out.2.1
          rw [hacc] at hb
          obtain ⟨v, hv⟩ : ∃ v, acc.getD x 0 = v := ⟨_, rfl⟩
          have z0 : wr.cell? ⟨ob, x, none⟩ = some (.int .i64 (v : Int)) := by rw [hb.cell, icells_get (by omega), hv]
          have zf : ∀ i, wr.frozen? ⟨ob, i, none⟩ = false := hb.frozen
          have hxI : (x : Int) < (ns.length : Int) := by omega
          rw [hv] at hav
          have HN2 : Hid (KB ob wq (wr.setCell ⟨ob, x, none⟩ (.int .i64 ((v : Int) + 1))) ∧ Blk (wr.setCell ⟨ob, x, none⟩ (.int .i64 ((v : Int) + 1))) ob 3 (icells ((R ++ n.keys.take (k + 1)).foldl Gr.cstep l0)) ∧ Blk (wr.setCell ⟨ob, x, none⟩ (.int .i64 ((v : Int) + 1))) nb 35 ncs) := Lib.hid (by
            refine ⟨HI.out.1.set _ _, ?_, HI.out.2.2.far (HI.out.2.2.ne_ hb (by decide)) _⟩
            rw [take_snocN _ _ hlk, ← List.append_assoc, List.foldl_append, hacc, hx]
            show Blk _ _ _ (icells (Gr.cstep acc x))
            unfold Gr.cstep
            rw [hv, ← icells_set, show (((v + 1 : Nat)) : Int) = (v : Int) + 1 from by omega]
            exact hb.set_ x _)
          clear hb hacc hal hv hx HI
          go_wp2_with fail
          go_roundw
          case rel => exact ⟨k + 1, by omega, by go_num, HN2⟩
          case measure => simp [intOf]; omega
        · have hlkI : ¬ ((k : Int) < (n.keys.length : Int)) := by omega
          have HA2 : Hid (KB ob wq wr ∧ Blk wr ob 3 (icells ((R ++ n.keys).foldl Gr.cstep l0)) ∧ Blk wr nb 35 ncs) := Lib.hid ⟨HI.out.1, by have := HI.out.2.1; rw [show k = n.keys.length from by omega, List.take_length] at this; exact this, HI.out.2.2⟩
          clear HI HA
          obtain ⟨R1, hR1⟩ : ∃ R1, R ++ n.keys = R1 := ⟨_, rfl⟩
          have HA := Lib.hid HA2.out
          rw [hR1] at HA
          have HRB1 : Hid (R1.length + n.items.length ≤ 1125899906842624) := Lib.hid (by rw [← hR1, List.length_append]; have := HRB.out; omega)
          have HRJ1 : Hid (Gr.refs (ns.take (j + 1)) = R1 ++ n.items) := Lib.hid (by rw [HRJ.out, ← hR1, List.append_assoc])
          clear HRB HRJ hR1 HA2 hk hlk
          have HRJ := HRJ1
          have HRB := HRB1
          clear HRB1 HRJ1
          have s4 : wr.cell? ⟨nb, 4, none⟩ = some (.slice ia n.items.length ic) := (HA.out.2.2.cell 4).trans HC4.out
          go_upto_region 12 with fail
          clear s4 hlkI
          go_loopw [45] (fun s45 wr => ∃ k : Nat, k ≤ n.items.length ∧ s45 = .int .i64 k ∧ Hid (KB ob wq wr ∧ Blk wr ob 3 (icells ((R1 ++ n.items.take k).foldl Gr.cstep l0)) ∧ Blk wr nb 35 ncs)) (fun s45 _ => n.items.length - (intOf s45).toNat)
          case atStart => exact ⟨0, by omega, rfl, Lib.hid ⟨HA.out.1, by simpa using HA.out.2.1, HA.out.2.2⟩⟩
          case round =>
            obtain ⟨k, hk, rfl, HI⟩ := hrel
            by_cases hlk : k < n.items.length
            · have hlkI : (k : Int) < (n.items.length : Int) := by omega
              obtain ⟨x, hx⟩ : ∃ x, n.items[k] = x := ⟨_, rfl⟩
              obtain ⟨ad2, rfl, _, y0⟩ := int_at (HIR.out.below (HI.out.1.below HLQ.out.1 HLQ.out.2)) hlk
              rw [hx] at y0
              have hxn : x < ns.length := HRF.out x (by simp [← hx])
              obtain ⟨acc, hacc⟩ : ∃ acc, (R1 ++ n.items.take k).foldl Gr.cstep l0 = acc := ⟨_, rfl⟩
              have hal : acc.length = ns.length := by rw [← hacc, cfold_len, HL0.out.1]
              have hav : acc.getD x 0 ≤ 1125899906842625 := by
                rw [← hacc]
                have h1 := cfold_le (R1 ++ n.items.take k) l0 x
                have h2 := HL0.out.2 x
                have h3 := HRB.out
                rw [List.length_append, List.length_take] at h1
                omega
              have hkb : k ≤ 1073741823 := by omega
              have hb := HI.out.2.1
              rw [hacc] at hb
              obtain ⟨v, hv⟩ : ∃ v, acc.getD x 0 = v := ⟨_, rfl⟩
              have z0 : wr.cell? ⟨ob, x, none⟩ = some (.int .i64 (v : Int)) := by rw [hb.cell, icells_get (by omega), hv]
              have zf : ∀ i, wr.frozen? ⟨ob, i, none⟩ = false := hb.frozen
              have hxI : (x : Int) < (ns.length : Int) := by omega
              rw [hv] at hav
              have HN2 : Hid (KB ob wq (wr.setCell ⟨ob, x, none⟩ (.int .i64 ((v : Int) + 1))) ∧ Blk (wr.setCell ⟨ob, x, none⟩ (.int .i64 ((v : Int) + 1))) ob 3 (icells ((R1 ++ n.items.take (k + 1)).foldl Gr.cstep l0)) ∧ Blk (wr.setCell ⟨ob, x, none⟩ (.int .i64 ((v : Int) + 1))) nb 35 ncs) := Lib.hid (by
                refine ⟨HI.out.1.set _ _, ?_, HI.out.2.2.far (HI.out.2.2.ne_ hb (by decide)) _⟩
                rw [take_snocN _ _ hlk, ← List.append_assoc, List.foldl_append, hacc, hx]
                show Blk _ _ _ (icells (Gr.cstep acc x))
                unfold Gr.cstep
                rw [hv, ← icells_set, show (((v + 1 : Nat)) : Int) = (v : Int) + 1 from by omega]
                exact hb.set_ x _)
              clear hb hacc hal hv hx HI
              go_wp2_with fail
              go_roundw
              case rel => exact ⟨k + 1, by omega, by go_num, HN2⟩
              case measure => simp [intOf]; omega
            · have hlkI : ¬ ((k : Int) < (n.items.length : Int)) := by omega
              have HA2 : Hid (KB ob wq wr ∧ Blk wr ob 3 (icells ((R1 ++ n.items).foldl Gr.cstep l0)) ∧ Blk wr nb 35 ncs) := Lib.hid ⟨HI.out.1, by have := HI.out.2.1; rw [show k = n.items.length from by omega, List.take_length] at this; exact this, HI.out.2.2⟩
              clear HI HA
              have HE : Hid (KB ob w3 wr ∧ Blk wr ob 3 (icells ((Gr.refs (ns.take (j + 1))).foldl Gr.cstep l0))) := Lib.hid ⟨HW.out.1.trans HA2.out.1, by have := HA2.out.2.1; rw [HRJ.out]; exact this⟩
              clear hk
              go_wp2_with fail
              go_roundw
              case rel => exact ⟨j + 1, by omega, by go_num, HE⟩
              case measure => simp [intOf]; omega
    · have hltI : ¬ ((j : Int) < (ns.length : Int)) := by omega
      have HE : Hid (Below w.heap.size w wq ∧ Blk wq ob 3 (icells (Gr.counts ns root))) := Lib.hid ⟨L3.out.trans (HW.out.1.below HLO.out.1 HLO.out.2), by
        have := HW.out.2
        rw [show j = ns.length from by omega, List.take_length] at this
        rw [HRES.out]; exact this⟩
      clear HW
      go_wp2_with fail
      go_ret
      exact ⟨ob, rfl, HLO.out.1, HE.out⟩
end Go.Proofs.YtoigpackhninoaaGreatDoor

