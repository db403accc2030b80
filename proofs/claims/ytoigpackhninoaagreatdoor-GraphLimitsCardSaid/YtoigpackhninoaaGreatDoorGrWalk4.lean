/- Walks: inKeys. -/
import Derived.Test.YtoigpackhninoaaGreatDoorGrWalk3
namespace Go.Proofs.YtoigpackhninoaaGreatDoor
open Go.RowKit
theorem keys_take (ns : List Gr.Nd) (j : Nat) (h : j < ns.length) : Gr.allKeys (ns.take (j + 1)) = Gr.allKeys (ns.take j) ++ ns[j].keys := by
  unfold Gr.allKeys
  rw [List.take_succ_eq_append_getElem h, List.flatMap_append]
  simp
theorem keys_lt {ns : List Gr.Nd} (hr : Gr.Refs ns) : ∀ x ∈ Gr.allKeys ns, x < ns.length := by
  intro x hx
  obtain ⟨y, hy, hxy⟩ := List.mem_flatMap.1 hx
  exact hr y hy x (List.mem_append_left _ hxy)
theorem keys_sub (ns : List Gr.Nd) (j : Nat) : ∀ x ∈ Gr.allKeys (ns.take j), x ∈ Gr.allKeys ns := by
  intro x hx
  obtain ⟨y, hy, hxy⟩ := List.mem_flatMap.1 hx
  exact List.mem_flatMap.2 ⟨y, List.mem_of_mem_take hy, hxy⟩
theorem unm_bound (n : Nat) (m : List Bool) : Gr.unm n m ≤ n := Nat.le_trans List.countP_le_length (by simp)
theorem vfold_len {ns : List Gr.Nd} (hr : Gr.Refs ns) (L : List Nat) (m : List Bool) (hL : ∀ x ∈ L, x < ns.length) (hm : m.length = ns.length) : (L.foldl (Gr.dvisit (Gr.succ ns) ns.length) m).length = ns.length :=
  (Gr.fold_ok (Gr.dvisit_ok hr.succ ns.length) L m hL hm (unm_bound _ _)).len
set_option maxRecDepth 100000 in
set_option maxHeartbeats 4000000 in
theorem inKeys_any (A : Option Addr) (c : Nat) (root : Int) (vs : List NV) (ns : List Gr.Nd) (hr : Gr.Refs ns) (hl : ns.length ≤ 1073741823) (hks : ∀ n ∈ ns, n.keys.length ≤ 1073741823 ∧ n.items.length ≤ 1073741823)
    (w : World) (h : GAt w w.heap.size A vs ns) :
    Calls Tryz.prog 37 #[.agg #[.slice A ns.length c, .int .i64 root]] w fun e w' => ∃ ob, e = .returned (.slice (some ⟨ob, 0, none⟩) ns.length ns.length) ∧ w.heap.size ≤ ob ∧ Below w.heap.size w w' ∧ Blk w' ob 4 (bcells (Gr.inKeys ns)) := by
  have H := Lib.hid h
  have hmk := fun W => make_bools ns.length (by omega) W
  clear h
  go_enter Tryz.func37, Tryz.ntmps37
  go_upto_region 2 with fail
  obtain ⟨w3, hw3⟩ : ∃ w3, (w.alloc (.cells #[.slice A ns.length c, .int .i64 root] 24)).alloc (.cells (bcells (List.replicate ns.length false)) 4) = w3 := ⟨_, rfl⟩
  have l3 : Below w.heap.size w w3 := by rw [← hw3]; exact ((Below.refl _ _).alloc (Nat.le_refl _) _).alloc (by simp) _
  have bg : Blk w3 w.heap.size 24 #[.slice A ns.length c, .int .i64 root] := by rw [← hw3]; exact (Blk.new _ _ _).alloc _
  obtain ⟨m0, hm0⟩ : ∃ m0, List.replicate ns.length false = m0 := ⟨_, rfl⟩
  rw [hm0] at hw3
  have bo : Blk w3 (w.heap.size + 1) 4 (bcells m0) := by
    rw [← hw3]
    have := Blk.new (w.alloc (.cells #[.slice A ns.length c, .int .i64 root] 24)) 4 (bcells m0)
    rw [World.size_alloc] at this
    exact this
  have g0 : w3.cell? ⟨w.heap.size, 0, none⟩ = some (.slice A ns.length c) := bg.cell 0
  have HM0 : Hid (m0.length = ns.length) := Lib.hid (by rw [← hm0]; simp)
  have HRES : Hid (Gr.inKeys ns = (Gr.allKeys ns).foldl (Gr.dvisit (Gr.succ ns) ns.length) m0) := Lib.hid (by rw [← hm0]; rfl)
  have L3 := Lib.hid l3
  have HB3 := Lib.hid bo
  have HBG := Lib.hid bg
  rw [hm0, hw3]
  obtain ⟨ob, hob⟩ : ∃ ob, w.heap.size + 1 = ob := ⟨_, rfl⟩
  obtain ⟨gb, hgb⟩ : ∃ gb, w.heap.size = gb := ⟨_, rfl⟩
  have HLO : Hid (w.heap.size ≤ ob ∧ w.heap.size ≤ w3.heap.size ∧ gb ≠ ob) := Lib.hid ⟨by omega, L3.out.size, by omega⟩
  rw [hob] at HB3 ⊢
  rw [hgb] at g0 HBG
  rw [show (Value.pointer (some ({ block := w.heap.size, off := 0 } : Addr))) = .pointer (some { block := gb, off := 0 }) from by rw [hgb]]
  clear hw3 l3 bo bg hm0 hob hgb
  go_upto_region 3 with fail
  clear g0
  go_loopw [15] (fun s15 wr => ∃ j : Nat, j ≤ ns.length ∧ s15 = .int .i64 j ∧ Hid (KB ob w3 wr ∧ Blk wr ob 4 (bcells ((Gr.allKeys (ns.take j)).foldl (Gr.dvisit (Gr.succ ns) ns.length) m0)))) (fun s15 _ => ns.length - (intOf s15).toNat)
  case atStart => exact ⟨0, by omega, rfl, Lib.hid ⟨KB.refl _ _, by simpa [Gr.allKeys] using HB3.out⟩⟩
  case round =>
    obtain ⟨j, hj, rfl, HW⟩ := hrel
    obtain ⟨wq, hwq⟩ : ∃ wq, wq = wr := ⟨_, rfl⟩
    subst hwq
    by_cases hlt : j < ns.length
    · have hltI : (j : Int) < (ns.length : Int) := by omega
      have HGQ : Hid (GAt wq w.heap.size A vs ns) := Lib.hid (H.out.below (L3.out.trans (HW.out.1.below HLO.out.1 HLO.out.2.1)))
      obtain ⟨ad, k, i, rfl, hN⟩ := HGQ.out.node hlt
      obtain ⟨ka, kn, kc⟩ := k
      obtain ⟨ia, inn, ic⟩ := i
      have hnm : ns[j] ∈ ns := List.getElem_mem hlt
      obtain ⟨hkl, hil⟩ := hks _ hnm
      have HRF : Hid (∀ x ∈ ns[j].keys, x < ns.length) := Lib.hid (fun x hx => hr _ hnm x (List.mem_append_left _ hx))
      obtain ⟨m1, hm1⟩ : ∃ m1, (Gr.allKeys (ns.take j)).foldl (Gr.dvisit (Gr.succ ns) ns.length) m0 = m1 := ⟨_, rfl⟩
      have HM1 : Hid (m1.length = ns.length) := Lib.hid (by rw [← hm1]; exact vfold_len hr _ _ (fun x hx => keys_lt hr x (keys_sub ns j x hx)) HM0.out)
      have HMR := Lib.hid hm1
      have HRJ : Hid ((Gr.allKeys (ns.take (j + 1))).foldl (Gr.dvisit (Gr.succ ns) ns.length) m0 = ns[j].keys.foldl (Gr.dvisit (Gr.succ ns) ns.length) m1) := Lib.hid (by rw [keys_take ns j hlt, List.foldl_append, hm1])
      obtain ⟨n, hn⟩ : ∃ n, ns[j] = n := ⟨_, rfl⟩
      rw [hn] at hN HRF HRJ hkl hil
      obtain rfl : kn = n.keys.length := hN.kn
      obtain rfl : inn = n.items.length := hN.inn
      have x0 := hN.c0
      have x1 := hN.c1
      have x2 := hN.c2
      have x3 := hN.c3
      have x4 := hN.c4
      have HKR := Lib.hid hN.keys
      have HLQ : Hid (w.heap.size ≤ ob ∧ w.heap.size ≤ wq.heap.size) := Lib.hid ⟨HLO.out.1, Nat.le_trans HLO.out.2.1 HW.out.1.size⟩
      clear hN hnm hm1 hn
      go_upto_region 5 with fail
      obtain ⟨w5, hw5⟩ : ∃ w5, wq.alloc (.cells #[.int .i64 n.kind, .string ⟨n.text.toArray⟩, .bool n.ord, .slice ka n.keys.length kc, .slice ia n.items.length ic] 35) = w5 := ⟨_, rfl⟩
      have b5 : Blk w5 wq.heap.size 35 (ncells n ⟨ka, n.keys.length, kc⟩ ⟨ia, n.items.length, ic⟩) := by rw [← hw5]; exact Blk.new _ _ _
      have s3 : w5.cell? ⟨wq.heap.size, 3, none⟩ = some (.slice ka n.keys.length kc) := b5.cell 3
      have HA : Hid (KB ob wq w5 ∧ Blk w5 ob 4 (bcells m1)) := Lib.hid ⟨by rw [← hw5]; exact (KB.refl _ _).alloc _, by
        have := HW.out.2
        rw [HMR.out] at this
        rw [← hw5]; exact this.alloc _⟩
      rw [hw5]
      clear hw5 b5 x0 x1 x2 x3 x4
      go_upto_region 6 with fail
      clear s3
      go_loopw [22] (fun s22 wr => ∃ k : Nat, k ≤ n.keys.length ∧ s22 = .int .i64 k ∧ Hid (KB ob wq wr ∧ Blk wr ob 4 (bcells ((n.keys.take k).foldl (Gr.dvisit (Gr.succ ns) ns.length) m1)))) (fun s22 _ => n.keys.length - (intOf s22).toNat)
      case atStart => exact ⟨0, by omega, rfl, Lib.hid ⟨HA.out.1, by simpa using HA.out.2⟩⟩
      case round =>
        obtain ⟨k, hk, rfl, HI⟩ := hrel
        by_cases hlk : k < n.keys.length
        · have hlkI : (k : Int) < (n.keys.length : Int) := by omega
          obtain ⟨x, hx⟩ : ∃ x, n.keys[k] = x := ⟨_, rfl⟩
          obtain ⟨ad2, rfl, _, y0⟩ := int_at (HKR.out.below (HI.out.1.below HLQ.out.1 HLQ.out.2)) hlk
          rw [hx] at y0
          have bgr : Blk wr gb 24 _ := HI.out.1.blk (HW.out.1.blk HBG.out HLO.out.2.2) HLO.out.2.2
          have g0 : wr.cell? ⟨gb, 0, none⟩ = some (.slice (some ad) ns.length c) := bgr.cell 0
          have g1 : wr.cell? ⟨gb, 1, none⟩ = some (.int .i64 root) := bgr.cell 1
          have HC := Lib.hid (reached_any ob (some ad) c root vs ns w.heap.size hr hl hks ((n.keys.take k).foldl (Gr.dvisit (Gr.succ ns) ns.length) m1) x wr (HGQ.out.below (HI.out.1.below HLQ.out.1 HLQ.out.2)) HLO.out.1 HI.out.2
            (vfold_len hr _ _ (fun y hy => HRF.out y (List.mem_of_mem_take hy)) HM1.out) (HRF.out x (hx ▸ List.getElem_mem hlk)) (unm_bound _ _))
          have HT : Hid ((n.keys.take (k + 1)).foldl (Gr.dvisit (Gr.succ ns) ns.length) m1 = Gr.dvisit (Gr.succ ns) ns.length ((n.keys.take k).foldl (Gr.dvisit (Gr.succ ns) ns.length) m1) x) := Lib.hid (by rw [take_snocN _ _ hlk, List.foldl_append, hx]; rfl)
          clear hx bgr
          go_wp2_with fail
          refine HC.out.mono ?_
          rintro e w6 ⟨rfl, hk6, hb6⟩
          have HN2 : Hid (KB ob wq w6 ∧ Blk w6 ob 4 (bcells ((n.keys.take (k + 1)).foldl (Gr.dvisit (Gr.succ ns) ns.length) m1))) := Lib.hid ⟨HI.out.1.trans hk6, by rw [HT.out]; exact hb6⟩
          clear hk6 hb6
          go_wp2_with fail
          go_roundw
          case rel => exact ⟨k + 1, by omega, by go_num, HN2⟩
          case measure => simp [intOf]; omega
        · have hlkI : ¬ ((k : Int) < (n.keys.length : Int)) := by omega
          have HE : Hid (KB ob w3 wr ∧ Blk wr ob 4 (bcells ((Gr.allKeys (ns.take (j + 1))).foldl (Gr.dvisit (Gr.succ ns) ns.length) m0))) := Lib.hid ⟨HW.out.1.trans HI.out.1, by
            have := HI.out.2
            rw [show k = n.keys.length from by omega, List.take_length] at this
            rw [HRJ.out]; exact this⟩
          clear HI hk
          go_wp2_with fail
          go_roundw
          case rel => exact ⟨j + 1, by omega, by go_num, HE⟩
          case measure => simp [intOf]; omega
    · have hltI : ¬ ((j : Int) < (ns.length : Int)) := by omega
      have HE : Hid (Below w.heap.size w wq ∧ Blk wq ob 4 (bcells (Gr.inKeys ns))) := Lib.hid ⟨L3.out.trans (HW.out.1.below HLO.out.1 HLO.out.2.1), by
        have := HW.out.2
        rw [show j = ns.length from by omega, List.take_length] at this
        rw [HRES.out]; exact this⟩
      clear HW
      go_wp2_with fail
      go_ret
      exact ⟨ob, rfl, HLO.out.1, HE.out⟩
end Go.Proofs.YtoigpackhninoaaGreatDoor
