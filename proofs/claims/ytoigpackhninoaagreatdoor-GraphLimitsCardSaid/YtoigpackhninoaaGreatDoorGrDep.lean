/- Walks: depth. -/
import Derived.Test.YtoigpackhninoaaGreatDoorGrDepS
namespace Go.Proofs.YtoigpackhninoaaGreatDoor
open Go.RowKit
/-- what the depth's walk reads. -/
structure DepF (w : World) (gb rC rB : Nat) (A Az : Option Addr) (c : Nat) (root : Int) (vs : List NV) (ns : List Gr.Nd) (inn : List Int) (sizes : List Nat) : Prop where
  bg : Blk w gb 24 #[.slice A ns.length c, .int .i64 root]
  lg : gb < rB
  bc : Blk w rC 3 (jcells inn)
  lc : rC < rB
  rz : RowAt intL w rB Az sizes
  at_ : GAt w rB A vs ns
theorem DepF.below {w w' : World} {gb rC rB : Nat} {A Az : Option Addr} {c : Nat} {root : Int} {vs : List NV} {ns : List Gr.Nd} {inn : List Int} {sizes : List Nat} (h : DepF w gb rC rB A Az c root vs ns inn sizes) (hb : Below rB w w') : DepF w' gb rC rB A Az c root vs ns inn sizes :=
  ⟨h.bg.below hb h.lg, h.lg, h.bc.below hb h.lc, h.lc, h.rz.below hb, h.at_.below hb⟩
theorem cn_eq (t : Gr.TS) (v : Nat) : t.cn v = t.inn.getD v (-1) := rfl
set_option maxRecDepth 100000 in
set_option maxHeartbeats 8000000 in
theorem depth_any (A : Option Addr) (c root : Nat) (vs : List NV) (ns : List Gr.Nd) (hr : Gr.Refs ns) (hl : ns.length ≤ 1073741823) (hks : ∀ n ∈ ns, n.keys.length ≤ 1073741823 ∧ n.items.length ≤ 1073741823) (hroot : root < ns.length)
    (hall : ∀ v, v < ns.length → Gr.Reach (Gr.succ ns) root v) (w : World) (h : GAt w w.heap.size A vs ns) :
    Calls Tryz.prog 39 #[.agg #[.slice A ns.length c, .int .i64 root]] w fun e w' => e = .returned (.tuple #[.int .i64 (Gr.depth ns root).1, .bool (Gr.depth ns root).2]) ∧ Below w.heap.size w w' := by
  obtain ⟨hC, hCl, hCz⟩ := Gr.tcomp_ok hr.succ root hroot hall
  have HC := Lib.hid hC
  have H := Lib.hid h
  have HCOMP := Lib.hid (fun W hW => components_any A c root vs ns hr hl hks hroot W (h.below hW |>.more hW.size))
  obtain ⟨t, ht⟩ : ∃ t, Gr.tcomp (Gr.succ ns) ns.length root = t := ⟨_, rfl⟩
  rw [ht] at hCl hCz HC
  have HT := Lib.hid ht
  obtain ⟨m, hm⟩ : ∃ m, t.sizes.length = m := ⟨_, rfl⟩
  have HM := Lib.hid hm
  rw [hm] at hCz
  have hml : m ≤ 1073741823 := by omega
  have hmk := fun W => make_ints m (by omega) W
  have hms := fun W => make_slices m (by omega) W
  have hrI : (root : Int) < (ns.length : Int) := by omega
  have HCL := Lib.hid hCl
  have HCZ := Lib.hid hCz
  clear h hC ht hm hCl hCz
  go_enter Tryz.func39, Tryz.ntmps39
  go_upto_region 1 with fail
  obtain ⟨w1, hw1⟩ : ∃ w1, w.alloc (.cells #[.slice A ns.length c, .int .i64 root] 24) = w1 := ⟨_, rfl⟩
  (try rw [hw1])
  have l1 : Below w.heap.size w w1 := by rw [← hw1]; exact (Below.refl _ _).alloc (Nat.le_refl _) _
  have b1 : Blk w1 w.heap.size 24 #[.slice A ns.length c, .int .i64 root] := by rw [← hw1]; exact Blk.new _ _ _
  obtain ⟨gb, hgb⟩ : ∃ gb, w.heap.size = gb := ⟨_, rfl⟩
  have HGB := Lib.hid hgb
  have L1 := Lib.hid l1
  (try rw [hgb])
  rw [hgb] at b1
  have HB1 := Lib.hid b1
  have g0 : w1.cell? ⟨gb, 0, none⟩ = some (.slice A ns.length c) := b1.cell 0
  have g1 : w1.cell? ⟨gb, 1, none⟩ = some (.int .i64 root) := b1.cell 1
  have HCW := Lib.hid (HCOMP.out w1 l1)
  clear hw1 hgb l1 b1
  go_wp2_with fail
  refine HCW.out.mono ?_
  rintro e w2 ⟨rC, Az, cz, rfl, h1, h2, h3, h4⟩
  rw [HT.out] at h3 h4 ⊢
  rw [HM.out] at h4 ⊢
  obtain ⟨Az', cz', hAz, hrz⟩ := h4.form
  rw [HM.out] at hAz
  injection hAz with e1 _ e2
  subst e1
  subst e2
  obtain ⟨rB, hrB⟩ : ∃ rB, w2.heap.size = rB := ⟨_, rfl⟩
  have hlo : gb < rB := by have := h2.size; have := HB1.out.lt; omega
  have HF2 : Hid (DepF w2 gb rC rB A Az c root vs ns t.inn t.sizes) := Lib.hid ⟨HB1.out.below h2 HB1.out.lt, hlo, h3, by have := h3.lt; omega, by rw [← hrB]; exact hrz, (H.out.below (L1.out.trans (h2.mono (by have := L1.out.size; omega)))).more (by have := HGB.out; omega)⟩
  have HL2 : Hid (Below w.heap.size w w2) := Lib.hid (L1.out.trans (h2.mono L1.out.size))
  clear h1 h2 h3 h4 g0 g1 hrz
  go_upto_region 5 with fail
  obtain ⟨w4, hw4⟩ : ∃ w4, (w2.alloc (.cells (icells (List.replicate m 0)) 3)).alloc (.cells (Array.replicate m (Value.slice none 0 0)) 33) = w4 := ⟨_, rfl⟩
  have l4 : Below rB w2 w4 := by rw [← hw4, ← hrB]; exact ((Below.refl _ _).alloc (Nat.le_refl _) _).alloc (by simp) _
  have hs4 : w4.heap.size = rB + 1 + 1 := by rw [← hw4]; simp [hrB]
  have b4 : Blk w4 rB 3 (icells (List.replicate m 0)) := by rw [← hw4, ← hrB]; exact (Blk.new _ _ _).alloc _
  have m4 : Blk w4 (rB + 1) 33 (Array.replicate m (Value.slice none 0 0)) := by
    rw [← hw4, ← hrB]
    have := Blk.new (w2.alloc (.cells (icells (List.replicate m 0)) 3)) 33 (Array.replicate m (Value.slice none 0 0))
    rw [World.size_alloc] at this
    exact this
  obtain ⟨rM, hrM⟩ : ∃ rM, rB + 1 = rM := ⟨_, rfl⟩
  rw [hrM] at m4 hs4
  obtain ⟨D, hD⟩ : ∃ D, rM + 1 = D := ⟨_, rfl⟩
  rw [hD] at hs4
  have HLO : Hid (gb < rB ∧ rB < rM ∧ rM < D ∧ w4.heap.size = D ∧ w.heap.size = gb) := Lib.hid ⟨hlo, by omega, by omega, hs4, HGB.out⟩
  have HF4 := Lib.hid (HF2.out.below l4)
  have HL4 : Hid (Below w.heap.size w w4) := Lib.hid (HL2.out.trans (l4.mono (by rw [HGB.out]; omega)))
  have HB4 := Lib.hid b4
  have HME : Hid (Mems w4 D rM (List.replicate m (.slice none 0 0)) (List.replicate m [])) := Lib.hid (Mems.start (by simpa using m4) (by omega) (by omega))
  rw [hrM, hw4]
  have hci := fun v (hv : v < ns.length) => HC.out.rng v hv
  have HCI := Lib.hid hci
  clear hw4 hrB l4 hs4 b4 m4 hrM hD hlo hci hmk hms
  go_upto_region 6 with fail
  go_loopw [31] (fun s31 wr => ∃ i : Nat, i ≤ ns.length ∧ s31 = .int .i64 i ∧ Hid (KB rM w4 wr ∧ ∃ mv, Mems wr D rM mv (memsL t.cn i m))) (fun s31 _ => ns.length - (intOf s31).toNat)
  case atStart => exact ⟨0, by omega, rfl, Lib.hid ⟨KB.refl _ _, _, by rw [memsL_zero]; exact HME.out⟩⟩
  case round =>
    obtain ⟨i, hi, rfl, HW⟩ := hrel
    by_cases hlt : i < ns.length
    · have hltI : (i : Int) < (ns.length : Int) := by omega
      obtain ⟨hk, mv, hM⟩ := HW.out
      obtain ⟨hc0, hc1⟩ := HCI.out i hlt
      obtain ⟨cc, hcc⟩ : ∃ cc : Nat, t.cn i = (cc : Int) := ⟨(t.cn i).toNat, by omega⟩
      rw [hcc, HM.out] at hc1
      have hccm : cc < m := by omega
      have hccI : (cc : Int) < (m : Int) := by omega
      have hmv : cc < mv.length := by rw [hM.len, memsL_len]; exact hccm
      have y0 : wr.cell? ⟨rC, i, none⟩ = some (.int .i64 (cc : Int)) := by
        have := ((HF4.out.below (hk.below (by have := HLO.out; omega) (by have := HLO.out; omega))).bc).cell i
        rw [this, jcells_get (by rw [HCL.out]; exact hlt), ← cn_eq, hcc]
      have hc2 : cc < (memsL t.cn i m).length := by rw [memsL_len]; exact hccm
      obtain ⟨Ac, capc, hme, z0, hra⟩ := hM.at_ hc2
      have hov := hM.own cc hmv hc2
      have hmvc : mv[cc] = .slice Ac (memsL t.cn i m)[cc].length capc := by
        have h1 := hM.blk.cell cc
        rw [z0] at h1
        simpa [List.getElem?_eq_getElem hmv] using h1.symm
      rw [memsL_get] at z0 hov hmvc
      clear hra hme hc2
      have hml2 := members_len t.cn i cc
      obtain ⟨L, hL⟩ : ∃ L, Gr.members t.cn i cc = L := ⟨_, rfl⟩
      rw [hL] at z0 hov hml2 hmvc
      rw [hmvc] at hov
      have HLL : Hid (memsL t.cn (i + 1) m = (memsL t.cn i m).set cc (L ++ [i])) := Lib.hid (by rw [memsL_succ _ _ _ _ hcc, hL])
      have zf : ∀ j, wr.frozen? ⟨rM, j, none⟩ = false := hM.blk.frozen
      have HOV := Lib.hid hov
      have HMM : Hid (∃ hmv : cc < mv.length, KB rM w4 wr ∧ Mems wr D rM mv (memsL t.cn i m) ∧ mv[cc] = .slice Ac L.length capc) := Lib.hid ⟨hmv, hk, hM, hmvc⟩
      have HLH : Hid (D ≤ wr.heap.size ∧ L.length + 1 ≤ 1073741823) := Lib.hid ⟨hM.hd, by omega⟩
      clear hk hM hc0 hc1 hcc hmv hov hmvc hml2 hL
      go_upto_region 8 with fail
      clear y0
      go_wp2_with (at_builtin; go_must (refine wpList_append_row _ rfl (.tmp 41) (.tmp 43) 33 3 8 rfl intT D (.slice Ac L.length capc) L rfl (HOV.out.alloc _) _ _ 1 [i] rfl (RowAt.lit1 _ _ rfl _ ?_) ?_ ?_ ?_))
      any_goals (first | rfl | (have := HLH.out; omega) | (have := HLH.out; simp; omega) | (rw [World.size_alloc]; have := HLH.out; omega))
      intro v' w3 hown hg hat
      obtain ⟨hmv, hk, hM, hmvc⟩ := HMM.out
      have hMa := hM.alloc (.cells #[.int .i64 i] 3)
      rw [← hmvc] at hg hat
      have hM2 := hMa.grown hmv hown hg (by rw [World.size_alloc]; exact hat)
      have hk2 := hMa.grownKB (hk.alloc _) HLO.out.2.2.2.1 hmv v' hg
      have hb3 : Blk w3 rM 33 mv.toArray := hMa.blk.grown hg (fun e => by have := ((hMa.own cc hmv (by rw [memsL_len]; omega)).lt rM e.symm).1; have := HLO.out; omega)
      have pc3 : w3.cell? ⟨rM, cc, none⟩ = some mv[cc] := by rw [hb3.cell]; simp [List.getElem?_eq_getElem hmv]
      rw [hmvc] at pc3
      have pf3 : ∀ j, w3.frozen? ⟨rM, j, none⟩ = false := hb3.frozen
      obtain ⟨g3, cap3, hv3, _⟩ := hown.shape (by simp)
      obtain ⟨n3, hn3⟩ : ∃ n3, (L ++ [i]).length = n3 := ⟨_, rfl⟩
      rw [hn3] at hv3
      subst hv3
      have HNX : Hid (KB rM w4 (w3.setCell ⟨rM, cc, none⟩ (.slice (some ⟨g3, 0, none⟩) n3 cap3)) ∧ ∃ mv, Mems (w3.setCell ⟨rM, cc, none⟩ (.slice (some ⟨g3, 0, none⟩) n3 cap3)) D rM mv (memsL t.cn (i + 1) m)) := Lib.hid ⟨hk2, _, by rw [HLL.out]; exact hM2⟩
      clear hmvc hk hM hMa hown hg hat hM2 hk2 hb3 hn3 z0 zf hmv
      go_wp2_with fail
      go_roundw
      case rel => exact ⟨i + 1, by omega, by go_num, HNX⟩
      case measure => simp [intOf]; omega
    · have hltI : ¬ ((i : Int) < (ns.length : Int)) := by omega
      have hie : i = ns.length := by omega
      obtain ⟨hk, mv, hM⟩ := HW.out
      rw [hie] at hM
      obtain ⟨wl, hwl⟩ : ∃ wl, wl = wr := ⟨_, rfl⟩
      subst hwl
      have HML : Hid (Mems wl D rM mv (memsL t.cn ns.length m)) := Lib.hid hM
      have HFL : Hid (DepF wl gb rC rB A Az c root vs ns t.inn t.sizes) := Lib.hid (HF4.out.below (hk.below (by have := HLO.out; omega) (by have := HLO.out; omega)))
      have HLL : Hid (Below w.heap.size w wl ∧ D ≤ wl.heap.size) := Lib.hid ⟨HL4.out.trans (hk.below (by have := HLO.out; omega) (by have := HLO.out; omega)), hM.hd⟩
      have HBL : Hid (Blk wl rB 3 (icells (List.replicate m 0))) := Lib.hid (hk.blk HB4.out (by have := HLO.out; omega))
      clear hk hM HW hie hi hlt
      go_upto_region 11 with fail
      clear hltI
      go_loopw [6, 49] (fun s6 s49 wr => ∃ (k : Nat) (p : List Nat × Bool), k ≤ m ∧ s49 = .int .i64 k ∧ s6 = .bool p.2 ∧ Hid (p = (List.range k).foldl (Gr.dcomp (Gr.succ ns) t.cn ns.length t.sizes) (List.replicate m 0, true) ∧ KB rB wl wr ∧ Blk wr rB 3 (icells p.1))) (fun _ s49 _ => m - (intOf s49).toNat)
      case atStart => exact ⟨0, (List.replicate m 0, true), by omega, rfl, rfl, Lib.hid ⟨rfl, KB.refl _ _, HBL.out⟩⟩
      case round =>
        obtain ⟨k, p, hk, rfl, rfl, HW⟩ := hrel
        obtain ⟨wq, hwq⟩ : ∃ wq, wq = wr := ⟨_, rfl⟩
        subst hwq
        by_cases hlt : k < m
        · have hltI : (k : Int) < (m : Int) := by omega
          have hM := HML.out.kb HW.out.2.1 (by have := HLO.out; omega) (by have := HLO.out; omega)
          obtain ⟨Ak, capk, hmv, z0, hrk⟩ := hM.at_ (c := k) (by rw [memsL_len]; exact hlt)
          clear hrk
          rw [memsL_get] at z0 hmv
          have HRK : Hid (∀ W, KB rB wl W → RowAt intL W W.heap.size Ak (Gr.members t.cn ns.length k)) := Lib.hid (fun W hW => by
            have := (HML.out.kb hW (by have := HLO.out; omega) (by have := HLO.out; omega)).row (c := k) (by rw [memsL_len]; exact hlt) hmv
            rwa [memsL_get] at this)
          clear hmv
          have hML := members_len t.cn ns.length k
          have HLI : Hid (∀ x ∈ Gr.members t.cn ns.length k, x < ns.length) := Lib.hid (members_lt t.cn ns.length k)
          have HDC : Hid (Gr.dcomp (Gr.succ ns) t.cn ns.length t.sizes p k = ((((Gr.members t.cn ns.length k).foldl (fun p i => (Gr.succ ns i).foldl (Gr.dstep t.cn k) p) p).1.set k (((Gr.members t.cn ns.length k).foldl (fun p i => (Gr.succ ns i).foldl (Gr.dstep t.cn k) p) p).1.getD k 0 + t.sizes.getD k 0)), ((Gr.members t.cn ns.length k).foldl (fun p i => (Gr.succ ns i).foldl (Gr.dstep t.cn k) p) p).2)) := Lib.hid rfl
          obtain ⟨Lk, hLk⟩ : ∃ Lk, Gr.members t.cn ns.length k = Lk := ⟨_, rfl⟩
          rw [hLk] at z0 HRK hML HLI HDC
          have hsN : ∀ j, t.sizes.getD j 0 ≤ ns.length := fun j => by
            by_cases hj : j < t.sizes.length
            · rw [HC.out.cnt j hj]; exact Nat.le_trans List.countP_le_length (by simp)
            · simp [List.getD_eq_getElem?_getD, List.getElem?_eq_none (Nat.le_of_not_lt hj)]
          have HSN := Lib.hid hsN
          have hpl : p.1.length = m := by rw [HW.out.1, dcomps_len]; simp
          have hsm : Sml (k * ns.length) p := by
            rw [HW.out.1]
            refine Sml.comps (fun j => ?_) hsN k
            simp [List.getD_eq_getElem?_getD, List.getElem?_replicate]; split <;> simp
          obtain ⟨M, hMM⟩ : ∃ M, k * ns.length = M := ⟨_, rfl⟩
          rw [hMM] at hsm
          have HMB : Hid (M ≤ 1152921504606846976) := Lib.hid (by rw [← hMM]; exact Nat.le_trans (Nat.mul_le_mul (show k ≤ 1073741824 by omega) (show ns.length ≤ 1073741824 by omega)) (by decide))
          have HPL := Lib.hid hpl
          have HSM := Lib.hid hsm
          clear hM hLk hsN hpl hsm hMM
          go_upto_region 14 with fail
          clear z0
          go_loopw [6, 57] (fun s6 s57 wr => ∃ (j : Nat) (q : List Nat × Bool), j ≤ Lk.length ∧ s57 = .int .i64 j ∧ s6 = .bool q.2 ∧ Hid (q = (Lk.take j).foldl (fun p i => (Gr.succ ns i).foldl (Gr.dstep t.cn k) p) p ∧ KB rB wl wr ∧ Blk wr rB 3 (icells q.1))) (fun _ s57 _ => Lk.length - (intOf s57).toNat)
          case atStart => exact ⟨0, p, by omega, rfl, rfl, Lib.hid ⟨rfl, HW.out.2.1, HW.out.2.2⟩⟩
          case round =>
            obtain ⟨j, q, hj, rfl, rfl, HV⟩ := hrel
            obtain ⟨wv, hwv⟩ : ∃ wv, wv = wr := ⟨_, rfl⟩
            subst hwv
            by_cases hjl : j < Lk.length
            · have hjlI : (j : Int) < (Lk.length : Int) := by omega
              obtain ⟨i, hi⟩ : ∃ i, Lk[j] = i := ⟨_, rfl⟩
              have hin : i < ns.length := by rw [← hi]; exact HLI.out _ (List.getElem_mem hjl)
              obtain ⟨adk, rfl, hadk, y0⟩ := int_at (HRK.out _ HV.out.2.1) hjl
              rw [hi] at y0
              have hFv := HFL.out.below (HV.out.2.1.below (B := rB) (Nat.le_refl _) (by have := HLL.out; have := HLO.out; omega))
              have g0 : wv.cell? ⟨gb, 0, none⟩ = some (.slice A ns.length c) := hFv.bg.cell 0
              obtain ⟨ad, ks, is, rfl, hN⟩ := hFv.at_.node hin
              obtain ⟨ka, kn, kc⟩ := ks
              obtain ⟨ia, inn, ic⟩ := is
              have hnm : ns[i] ∈ ns := List.getElem_mem hin
              obtain ⟨hkl, hil⟩ := hks _ hnm
              have hsc : Gr.succ ns i = ns[i].keys ++ ns[i].items := by unfold Gr.succ; rw [List.getElem?_eq_getElem hin]
              have HRF : Hid (∀ x ∈ ns[i].keys ++ ns[i].items, x < ns.length) := Lib.hid (hr _ hnm)
              obtain ⟨n, hn⟩ : ∃ n, ns[i] = n := ⟨_, rfl⟩
              rw [hn] at hN hkl hil hsc HRF
              obtain rfl : kn = n.keys.length := hN.kn
              obtain rfl : inn = n.items.length := hN.inn
              have x3 := hN.c3
              have x4 := hN.c4
              have HTK : Hid ((Lk.take (j + 1)).foldl (fun p i => (Gr.succ ns i).foldl (Gr.dstep t.cn k) p) p = (n.keys ++ n.items).foldl (Gr.dstep t.cn k) q) := Lib.hid (by
                rw [take_snocN _ _ hjl, List.foldl_append, ← HV.out.1, hi, List.foldl_cons, List.foldl_nil, hsc])
              have HKI : Hid (RowAt intL wv rB ka n.keys ∧ RowAt intL wv rB ia n.items) := Lib.hid ⟨hN.keys, hN.items⟩
              have hinI : (i : Int) < (ns.length : Int) := by omega
              clear hFv hN hnm hsc hn hi
              go_upto_region 16 with fail
              go_region_held3 (fun w' => w'.cell? ⟨gb, 0, none⟩ = some (.slice (some ad) ns.length c) ∧ w'.cell? { block := (ad.add (i * 5)).block, off := (ad.add (i * 5)).off + 3 } = some (.slice ka n.keys.length kc) ∧ w'.cell? { block := (ad.add (i * 5)).block, off := (ad.add (i * 5)).off + 4 } = some (.slice ia n.items.length ic)) (go_keep) (fail)
              go_upto_region 17 with fail
              clear x3 x4 g0 y0
              obtain ⟨w5, hw5⟩ : ∃ w5, (wv.alloc (.cells #[.slice ka n.keys.length kc, .slice ia n.items.length ic] 33)).drew = w5 := ⟨_, rfl⟩
              obtain ⟨lb, hlb⟩ : ∃ lb, wv.heap.size = lb := ⟨_, rfl⟩
              have b5 : Blk w5 lb 33 #[.slice ka n.keys.length kc, .slice ia n.items.length ic] := by rw [← hw5, ← hlb]; exact (Blk.new _ _ _).drew
              have k5 : KB rB wv w5 := by rw [← hw5]; exact ((KB.refl _ _).alloc _).drewN 1
              have HLB : Hid (rB < lb ∧ rB ≤ wv.heap.size) := Lib.hid ⟨by have := HV.out.2.2.lt; omega, Nat.le_of_lt HV.out.2.2.lt⟩
              have HB5 : Hid (KB rB wl w5 ∧ Blk w5 rB 3 (icells q.1) ∧ Blk w5 lb 33 #[.slice ka n.keys.length kc, .slice ia n.items.length ic]) := Lib.hid ⟨HV.out.2.1.trans k5, by rw [← hw5]; exact (HV.out.2.2.alloc _).drew, b5⟩
              have HKI5 : Hid (RowAt intL w5 rB ka n.keys ∧ RowAt intL w5 rB ia n.items) := Lib.hid ⟨HKI.out.1.below (k5.below (Nat.le_refl _) HLB.out.2), HKI.out.2.below (k5.below (Nat.le_refl _) HLB.out.2)⟩
              rw [hw5, hlb]
              clear hw5 b5 k5 hlb
              go_loopw [6, 75] (fun s6 s75 wr => ∃ (r : Nat) (q2 : List Nat × Bool), r ≤ 2 ∧ s75 = .int .i64 r ∧ s6 = .bool q2.2 ∧ Hid (q2 = (if r = 0 then [] else if r = 1 then n.keys else n.keys ++ n.items).foldl (Gr.dstep t.cn k) q ∧ KB rB w5 wr ∧ Blk wr rB 3 (icells q2.1) ∧ Blk wr lb 33 #[.slice ka n.keys.length kc, .slice ia n.items.length ic])) (fun _ s75 _ => 2 - (intOf s75).toNat)
              case atStart => exact ⟨0, q, by omega, rfl, rfl, Lib.hid ⟨rfl, KB.refl _ _, HB5.out.2⟩⟩
              case round =>
                obtain ⟨r, q2, hr2, rfl, rfl, HR⟩ := hrel
                obtain ⟨wx, hwx⟩ : ∃ wx, wx = wr := ⟨_, rfl⟩
                subst hwx
                by_cases hrl : r < 2
                · have hrlI : (r : Int) < 2 := by omega
                  obtain ⟨Ax, Lx, cx, e1, HX⟩ : ∃ Ax Lx cx, wx.cell? ⟨lb, r, none⟩ = some (.slice Ax (Lx : List Nat).length cx) ∧ Hid (RowAt intL w5 rB Ax Lx ∧ (if r + 1 = 0 then [] else if r + 1 = 1 then n.keys else n.keys ++ n.items) = (if r = 0 then [] else if r = 1 then n.keys else n.keys ++ n.items) ++ Lx ∧ (∀ x ∈ Lx, x < ns.length) ∧ Lx.length ≤ 1073741823) := by
                    obtain rfl | rfl : r = 0 ∨ r = 1 := by omega
                    · exact ⟨ka, n.keys, kc, HR.out.2.2.2.cell 0, Lib.hid ⟨HKI5.out.1, by simp, fun x hx => HRF.out x (List.mem_append_left _ hx), hkl⟩⟩
                    · exact ⟨ia, n.items, ic, HR.out.2.2.2.cell 1, Lib.hid ⟨HKI5.out.2, by simp, fun x hx => HRF.out x (List.mem_append_right _ hx), hil⟩⟩
                  have hxl := HX.out.2.2.2
                  go_upto_region 20 with fail
                  clear e1
                  go_loopw [6, 81] (fun s6 s81 wr => ∃ (y : Nat) (q3 : List Nat × Bool), y ≤ Lx.length ∧ s81 = .int .i64 y ∧ s6 = .bool q3.2 ∧ Hid (q3 = (Lx.take y).foldl (Gr.dstep t.cn k) q2 ∧ KB rB w5 wr ∧ Blk wr rB 3 (icells q3.1) ∧ Blk wr lb 33 #[.slice ka n.keys.length kc, .slice ia n.items.length ic])) (fun _ s81 _ => Lx.length - (intOf s81).toNat)
                  case atStart => exact ⟨0, q2, by omega, rfl, rfl, Lib.hid ⟨rfl, HR.out.2⟩⟩
                  case round =>
                    obtain ⟨y, q3, hy, rfl, rfl, HY⟩ := hrel
                    by_cases hyl : y < Lx.length
                    · have hylI : (y : Int) < (Lx.length : Int) := by omega
                      obtain ⟨x, hx⟩ : ∃ x, Lx[y] = x := ⟨_, rfl⟩
                      have hxn : x < ns.length := by rw [← hx]; exact HX.out.2.2.1 _ (List.getElem_mem hyl)
                      have hkw5 : Below rB w5 wr := HY.out.2.1.below (Nat.le_refl _) (Nat.le_of_lt HB5.out.2.1.lt)
                      obtain ⟨adx, rfl, hadx, y0⟩ := int_at (HX.out.1.below hkw5) hyl
                      rw [hx] at y0
                      obtain ⟨hd0, hd1⟩ := HCI.out x hxn
                      obtain ⟨d, hd⟩ : ∃ d : Nat, t.cn x = (d : Int) := ⟨(t.cn x).toNat, by omega⟩
                      rw [hd, HM.out] at hd1
                      have hdI : (d : Int) < (m : Int) := by omega
                      have hFr := (HFL.out.below (HB5.out.1.below (B := rB) (Nat.le_refl _) (by have := HLL.out; have := HLO.out; omega))).below hkw5
                      have r0 : wr.cell? ⟨rC, x, none⟩ = some (.int .i64 (d : Int)) := by
                        rw [hFr.bc.cell, jcells_get (by rw [HCL.out]; exact hxn), ← cn_eq, hd]
                      have hxnI : (x : Int) < (ns.length : Int) := by omega
                      have HTX : Hid ((Lx.take (y + 1)).foldl (Gr.dstep t.cn k) q2 = Gr.dstep t.cn k q3 x) := Lib.hid (by rw [take_snocN _ _ hyl, List.foldl_append, ← HY.out.1, hx]; rfl)
                      have hyb : y ≤ 1073741823 := by omega
                      by_cases hdk : d = k
                      · have hdkb : ((k : Int) == (k : Int)) = true := by simp
                        rw [hdk] at r0
                        have HNX : Hid ((q3.1, false) = (Lx.take (y + 1)).foldl (Gr.dstep t.cn k) q2 ∧ KB rB w5 wr ∧ Blk wr rB 3 (icells q3.1) ∧ Blk wr lb 33 #[.slice ka n.keys.length kc, .slice ia n.items.length ic]) := Lib.hid ⟨by rw [HTX.out]; unfold Gr.dstep; rw [if_pos (by rw [hd, hdk])], HY.out.2⟩
                        clear hFr hkw5 hd hd0 hd1 hx hdk
                        go_wp2_with fail
                        go_roundw
                        case rel => exact ⟨y + 1, (q3.1, false), by omega, by go_num, rfl, HNX⟩
                        case measure => simp [intOf]; omega
                      · have hdkb : ((d : Int) == (k : Int)) = false := by simp; omega
                        have hdkI : ¬ (d : Int) = (k : Int) := by omega
                        obtain ⟨a, ha⟩ : ∃ a, q3.1.getD k 0 = a := ⟨_, rfl⟩
                        obtain ⟨b, hb⟩ : ∃ b, q3.1.getD d 0 = b := ⟨_, rfl⟩
                        have hq3 : q3.1.length = m := by rw [HY.out.1, dfold_len, HR.out.1, dfold_len, HV.out.1, dfoldM_len]; exact HPL.out
                        have hsm3 : Sml M q3 := by rw [HY.out.1]; refine Sml.fold _ ?_; rw [HR.out.1]; refine Sml.fold _ ?_; rw [HV.out.1]; exact Sml.foldM _ _ HSM.out
                        have hab : a ≤ 1152921504606846976 := by have := hsm3 k; have := HMB.out; omega
                        have hbb : b ≤ 1152921504606846976 := by have := hsm3 d; have := HMB.out; omega
                        have z1 : wr.cell? ⟨rB, k, none⟩ = some (.int .i64 (a : Int)) := by rw [HY.out.2.2.1.cell, icells_get (by omega), ha]
                        have z2 : wr.cell? ⟨rB, d, none⟩ = some (.int .i64 (b : Int)) := by rw [HY.out.2.2.1.cell, icells_get (by omega), hb]
                        have zf : ∀ j, wr.frozen? ⟨rB, j, none⟩ = false := HY.out.2.2.1.frozen
                        have HNX : ∀ v : Nat, v = max a b → Hid ((q3.1.set k v, q3.2) = (Lx.take (y + 1)).foldl (Gr.dstep t.cn k) q2 ∧ KB rB w5 (wr.setCell ⟨rB, k, none⟩ (.int .i64 (v : Int))).drew ∧ Blk (wr.setCell ⟨rB, k, none⟩ (.int .i64 (v : Int))).drew rB 3 (icells (q3.1.set k v)) ∧ Blk (wr.setCell ⟨rB, k, none⟩ (.int .i64 (v : Int))).drew lb 33 #[.slice ka n.keys.length kc, .slice ia n.items.length ic]) := fun v hv => Lib.hid ⟨by rw [HTX.out]; unfold Gr.dstep; rw [if_neg (by rw [hd]; exact hdkI), hd, ha, show ((d : Int)).toNat = d from by omega, hb, hv], (HY.out.2.1.set _ _).drewN 1, by rw [← icells_set]; exact (HY.out.2.2.1.set_ k _).drew, (HY.out.2.2.2.far (by have := HLB.out; simp; omega) _).drew⟩
                        have HNH := Lib.hid HNX
                        clear hFr hkw5 hd hd0 hd1 hx hdk HNX hq3 hsm3 ha hb
                        go_upto_region 24 with fail
                        by_cases hmx : a < b
                        all_goals go_region
                        all_goals go_wp2_with fail
                        all_goals
                          go_roundw
                          case rel => first | exact ⟨y + 1, (q3.1.set k a, q3.2), by omega, by go_num, rfl, HNH.out a (by omega)⟩ | exact ⟨y + 1, (q3.1.set k b, q3.2), by omega, by go_num, rfl, HNH.out b (by omega)⟩
                          case measure => simp [intOf]; omega
                    · have hylI : ¬ (y : Int) < (Lx.length : Int) := by omega
                      have HNX : Hid (q3 = (if r + 1 = 0 then [] else if r + 1 = 1 then n.keys else n.keys ++ n.items).foldl (Gr.dstep t.cn k) q ∧ KB rB w5 wr ∧ Blk wr rB 3 (icells q3.1) ∧ Blk wr lb 33 #[.slice ka n.keys.length kc, .slice ia n.items.length ic]) := Lib.hid ⟨by
                        rw [HX.out.2.1, List.foldl_append, ← HR.out.1]
                        have := HY.out.1
                        rwa [show y = Lx.length from by omega, List.take_length] at this, HY.out.2⟩
                      go_wp2_with fail
                      go_roundw
                      case rel => exact ⟨r + 1, q3, by omega, by go_num, rfl, HNX⟩
                      case measure => simp [intOf]; omega
                · have hrlI : ¬ (r : Int) < 2 := by omega
                  have HNX : Hid (q2 = (Lk.take (j + 1)).foldl (fun p i => (Gr.succ ns i).foldl (Gr.dstep t.cn k) p) p ∧ KB rB wl wx ∧ Blk wx rB 3 (icells q2.1)) := Lib.hid ⟨by
                    have := HR.out.1
                    rw [show r = 2 from by omega] at this
                    rw [HTK.out]; exact this, HB5.out.1.trans HR.out.2.1, HR.out.2.2.1⟩
                  go_wp2_with fail
                  go_roundw
                  case rel => exact ⟨j + 1, q2, by omega, by go_num, rfl, HNX⟩
                  case measure => simp [intOf]; omega
            · have hjlI : ¬ (j : Int) < (Lk.length : Int) := by omega
              obtain ⟨a, ha⟩ : ∃ a, q.1.getD k 0 = a := ⟨_, rfl⟩
              obtain ⟨b, hb⟩ : ∃ b, t.sizes.getD k 0 = b := ⟨_, rfl⟩
              have hq : q = Lk.foldl (fun p i => (Gr.succ ns i).foldl (Gr.dstep t.cn k) p) p := by
                have := HV.out.1
                rwa [show j = Lk.length from by omega, List.take_length] at this
              have hql : q.1.length = m := by rw [hq, dfoldM_len]; exact HPL.out
              have hab : a ≤ 1152921504606846976 := by
                have h1 : Sml M q := by rw [hq]; exact Sml.foldM _ _ HSM.out
                have := h1 k; have := HMB.out; omega
              have hbb : b ≤ 1073741823 := by have := HSN.out k; omega
              have hFv := HFL.out.below (HV.out.2.1.below (B := rB) (Nat.le_refl _) (by have := HLL.out; have := HLO.out; omega))
              have hkz : k < t.sizes.length := by rw [HM.out]; exact hlt
              have hbe : t.sizes[k] = b := by rw [← hb]; simp [List.getD_eq_getElem?_getD, List.getElem?_eq_getElem hkz]
              obtain ⟨adz, rfl, hadz, z2⟩ := int_at hFv.rz hkz
              rw [hbe] at z2
              have z1 : wv.cell? ⟨rB, k, none⟩ = some (.int .i64 (a : Int)) := by rw [HV.out.2.2.cell, icells_get (by omega), ha]
              have zf : ∀ j, wv.frozen? ⟨rB, j, none⟩ = false := HV.out.2.2.frozen
              have HNX : Hid ((q.1.set k (a + b), q.2) = (List.range (k + 1)).foldl (Gr.dcomp (Gr.succ ns) t.cn ns.length t.sizes) (List.replicate m 0, true) ∧ KB rB wl (wv.setCell ⟨rB, k, none⟩ (.int .i64 ((a : Int) + (b : Int)))).drew ∧ Blk (wv.setCell ⟨rB, k, none⟩ (.int .i64 ((a : Int) + (b : Int)))).drew rB 3 (icells (q.1.set k (a + b)))) := Lib.hid ⟨by
                rw [List.range_succ, List.foldl_append, ← HW.out.1, List.foldl_cons, List.foldl_nil, HDC.out, ← hq, ha, hb], (HV.out.2.1.set _ _).drewN 1, by
                rw [← icells_set, show (((a + b : Nat)) : Int) = (a : Int) + (b : Int) from by omega]; exact (HV.out.2.2.set_ k _).drew⟩
              clear ha hb hq hql hFv hbe hkz
              go_upto_region 28 with fail
              go_region
              all_goals go_wp2_with fail
              all_goals
                go_roundw
                case rel => exact ⟨k + 1, (q.1.set k (a + b), q.2), by omega, by go_num, rfl, HNX⟩
                case measure => simp [intOf]; omega
        · have hltI : ¬ (k : Int) < (m : Int) := by omega
          have hke : k = m := by omega
          have hFv := HFL.out.below (HW.out.2.1.below (B := rB) (Nat.le_refl _) (by have := HLL.out; have := HLO.out; omega))
          obtain ⟨hd0, hd1⟩ := HCI.out root hroot
          obtain ⟨d, hd⟩ : ∃ d : Nat, t.cn root = (d : Int) := ⟨(t.cn root).toNat, by omega⟩
          rw [hd, HM.out] at hd1
          have hdI : (d : Int) < (m : Int) := by omega
          have r0 : wq.cell? ⟨rC, root, none⟩ = some (.int .i64 (d : Int)) := by
            rw [hFv.bc.cell, jcells_get (by rw [HCL.out]; exact hroot), ← cn_eq, hd]
          have g1 : wq.cell? ⟨gb, 1, none⟩ = some (.int .i64 root) := hFv.bg.cell 1
          obtain ⟨a, ha⟩ : ∃ a, p.1.getD d 0 = a := ⟨_, rfl⟩
          have hpl : p.1.length = m := by rw [HW.out.1, dcomps_len]; simp
          have z0 : wq.cell? ⟨rB, d, none⟩ = some (.int .i64 (a : Int)) := by rw [HW.out.2.2.cell, icells_get (by omega), ha]
          have hsm : Sml (m * ns.length) p := by
            rw [HW.out.1, ← hke]
            refine Sml.comps (fun j => ?_) (fun j => ?_) k
            · simp [List.getD_eq_getElem?_getD, List.getElem?_replicate]; split <;> simp
            · by_cases hj : j < t.sizes.length
              · rw [HC.out.cnt j hj]; exact Nat.le_trans List.countP_le_length (by simp)
              · simp [List.getD_eq_getElem?_getD, List.getElem?_eq_none (Nat.le_of_not_lt hj)]
          have hab : a ≤ 1152921504606846976 := by
            have := hsm d
            have h2 : m * ns.length ≤ 1152921504606846976 := Nat.le_trans (Nat.mul_le_mul (show m ≤ 1073741824 by omega) (show ns.length ≤ 1073741824 by omega)) (by decide)
            omega
          have HRES : Hid ((Gr.depth ns root).1 = (a : Int) - 1 ∧ (Gr.depth ns root).2 = p.2) := Lib.hid (by
            have hp : p = Gr.dall (Gr.succ ns) t.cn ns.length t.sizes := by rw [HW.out.1, hke]; unfold Gr.dall; rw [HM.out]
            unfold Gr.depth
            simp only [HT.out]
            rw [← hp, hd, ← ha]
            exact ⟨rfl, rfl⟩)
          have HBW : Hid (Below w.heap.size w wq) := Lib.hid (HLL.out.1.trans (HW.out.2.1.below (by have := HLO.out; omega) (by have := HLO.out; have := HLL.out; omega)))
          clear hke hFv hd0 hd1 hd ha hpl hsm
          go_wp2_with fail
          go_ret2
          rw [HRES.out.1, HRES.out.2]
          exact ⟨rfl, HBW.out⟩
end Go.Proofs.YtoigpackhninoaaGreatDoor
