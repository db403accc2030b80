/- Walks: twice. -/
import Derived.Test.YtoigpackhninoaaGreatDoorGrMap
import Derived.Test.YtoigpackhninoaaGreatDoorGrByte
namespace Go.Proofs.YtoigpackhninoaaGreatDoor
open Go.RowKit
theorem twice1_snoc (ns : List Gr.Nd) (f : Nat) (l : List Nat) (z : Nat) : Gr.twice1 ns f (l ++ [z]) = (Gr.twice1 ns f l || l.any (fun x => Gr.sameF ns f z x)) := by
  induction l with
  | nil => rfl
  | cons x l ih =>
    rw [List.cons_append]
    show ((l ++ [z]).any (fun y => Gr.sameF ns f y x) || Gr.twice1 ns f (l ++ [z])) = ((l.any (fun y => Gr.sameF ns f y x) || Gr.twice1 ns f l) || (x :: l).any (fun x => Gr.sameF ns f z x))
    rw [ih]
    simp only [List.any_append, List.any_cons, List.any_nil, Bool.or_false]
    cases l.any (fun y => Gr.sameF ns f y x) <;> cases Gr.sameF ns f z x <;> cases Gr.twice1 ns f l <;> simp
theorem twice1_left (ns : List Gr.Nd) (f : Nat) (l m : List Nat) (h : Gr.twice1 ns f l = true) : Gr.twice1 ns f (l ++ m) = true := by
  induction m generalizing l with
  | nil => simpa using h
  | cons x m ih =>
    rw [show l ++ x :: m = (l ++ [x]) ++ m from by simp]
    exact ih _ (by rw [twice1_snoc, h]; rfl)
theorem twice1_take (ns : List Gr.Nd) (f : Nat) (l : List Nat) (k : Nat) (h : Gr.twice1 ns f (l.take k) = true) : Gr.twice1 ns f l = true := by
  have := twice1_left ns f (l.take k) (l.drop k) h
  rwa [List.take_append_drop] at this
def kdOf (ns : List Gr.Nd) (x : Nat) : SK := ((ns.getD x ⟨0, [], false, [], []⟩).kind, (ns.getD x ⟨0, [], false, [], []⟩).text)
theorem same_kd {ns : List Gr.Nd} {f i j : Nat} (h : Gr.sameF ns f i j = true) : kdOf ns i = kdOf ns j := by
  cases f with
  | zero => cases h
  | succ f =>
    unfold Gr.sameF at h
    split at h
    · rename_i a b ha hb
      have e1 : ns.getD i ⟨0, [], false, [], []⟩ = a := by rw [List.getD_eq_getElem?_getD, ha]; rfl
      have e2 : ns.getD j ⟨0, [], false, [], []⟩ = b := by rw [List.getD_eq_getElem?_getD, hb]; rfl
      unfold kdOf
      rw [e1, e2]
      split at h
      · cases h
      · rename_i hn
        simp only [not_or, Classical.not_not] at hn
        rw [hn.1, hn.2.1]
    · cases h
theorem MapAt.later {w w' : World} {D b : Nat} {gl : List (SK × List Nat)} {vs : List Value} {es : Array MapEntry} (h : MapAt w D b gl vs es) (hb : Below w.heap.size w w') : MapAt w' D b gl vs es :=
  ⟨(hb.block b (by have := h.lo; have := h.hd; omega)).trans h.blk, h.lv, h.le, h.at_, fun i a c => (h.own i a c).later hb, h.ap, h.nd, h.lo, Nat.le_trans h.hd hb.size⟩
theorem MapAt.lookL {w : World} {D b : Nat} {gl : List (SK × List Nat)} {vs : List Value} {es : Array MapEntry} (h : MapAt w D b gl vs es) {kd : Nat → SK} {P : List Nat} (hg : GI kd P gl) (k : SK) :
    ∃ A c, (Instr.lookup 89 (.map (some b)) (skv k) false).run Tryz.prog w = .ok (.slice A (P.filter (fun x => kd x == k)).length c) w ∧ RowAt intL w w.heap.size A (P.filter (fun x => kd x == k)) := by
  rcases h.look k with ⟨j, h1, h2, h3, h4⟩ | ⟨h1, h2⟩
  · obtain ⟨A, c, hv, hr⟩ := (h.own j h2 h1).form
    have e := hg.grp _ (List.getElem_mem h1)
    rw [h3] at e
    rw [e] at hv hr
    exact ⟨A, c, by rw [h4, hv], hr⟩
  · rw [hg.none h1]
    exact ⟨none, 0, h2, RowAt.nil⟩
set_option maxRecDepth 100000 in
set_option maxHeartbeats 8000000 in
theorem twice_any (F : Nat) (A : Option Addr) (c : Nat) (root : Int) (vs : List NV) (ns : List Gr.Nd) (hr : Gr.Refs ns) (hl : ns.length ≤ 1073741823) (hks : ∀ n ∈ ns, n.keys.length ≤ 1073741823 ∧ n.items.length ≤ 1073741823)
    (hsame : ∀ x ∈ Gr.allKeys ns, ∀ y ∈ Gr.allKeys ns, ∀ W, GAt W W.heap.size A vs ns → Calls Tryz.prog 64 #[.agg #[.slice A ns.length c, .int .i64 root], .int .i64 x, .int .i64 y] W fun e W' => e = .returned (.bool (Gr.sameF ns F x y)) ∧ Below W.heap.size W W')
    (w : World) (h : GAt w w.heap.size A vs ns) :
    Calls Tryz.prog 38 #[.agg #[.slice A ns.length c, .int .i64 root]] w fun e w' => e = .returned (.bool (Gr.twice ns F)) ∧ Below w.heap.size w w' := by
  have H := Lib.hid h
  have HSAME := Lib.hid hsame
  have hmm := @run_makeMap Tryz.prog
  clear h hsame
  go_enter Tryz.func38, Tryz.ntmps38
  go_upto_region 1 with fail
  obtain ⟨w1, hw1⟩ : ∃ w1, w.alloc (.cells #[.slice A ns.length c, .int .i64 root] 24) = w1 := ⟨_, rfl⟩
  (try rw [hw1])
  have l1 : Below w.heap.size w w1 := by rw [← hw1]; exact (Below.refl _ _).alloc (Nat.le_refl _) _
  have b1 : Blk w1 w.heap.size 24 #[.slice A ns.length c, .int .i64 root] := by rw [← hw1]; exact Blk.new _ _ _
  obtain ⟨gb, hgb⟩ : ∃ gb, w.heap.size = gb := ⟨_, rfl⟩
  have HGB := Lib.hid hgb
  have L1 := Lib.hid l1
  (try rw [hgb])
  rw [hgb] at b1
  have HB1 := Lib.hid b1
  have H1 := Lib.hid (H.out.below l1)
  have g0 : w1.cell? ⟨gb, 0, none⟩ = some (.slice A ns.length c) := b1.cell 0
  have HGL : Hid (gb < w1.heap.size) := Lib.hid b1.lt
  clear hw1 hgb l1 b1
  go_upto_region 2 with fail
  clear g0
  go_loopw [14] (fun s14 wr => ∃ j : Nat, j ≤ ns.length ∧ s14 = .int .i64 j ∧ Hid (Below w1.heap.size w1 wr ∧ (ns.take j).any (fun x => Gr.twice1 ns F x.keys) = false)) (fun s14 _ => ns.length - (intOf s14).toNat)
  case atStart => exact ⟨0, by omega, rfl, Lib.hid ⟨Below.refl _ _, by simp⟩⟩
  case round =>
    obtain ⟨j, hj, rfl, HW⟩ := hrel
    obtain ⟨wq, hwq⟩ : ∃ wq, wq = wr := ⟨_, rfl⟩
    subst hwq
    by_cases hlt : j < ns.length
    · have hltI : (j : Int) < (ns.length : Int) := by omega
      have HGQ : Hid (gb < wq.heap.size ∧ w1.heap.size ≤ wq.heap.size) := Lib.hid ⟨by have := HW.out.1.size; have := HGL.out; omega, HW.out.1.size⟩
      obtain ⟨ad, ks, is, rfl, hN⟩ := (H1.out.below (HW.out.1.mono (by have := HGL.out; have := HGB.out; omega))).node hlt
      obtain ⟨ka, kn, kc⟩ := ks
      obtain ⟨ia, inn, ic⟩ := is
      have hnm : ns[j] ∈ ns := List.getElem_mem hlt
      obtain ⟨hkl, hil⟩ := hks _ hnm
      have HAK : Hid (∀ x ∈ ns[j].keys, x ∈ Gr.allKeys ns ∧ x < ns.length) := Lib.hid (fun x hx => ⟨List.mem_flatMap.2 ⟨_, hnm, hx⟩, hr _ hnm x (List.mem_append_left _ hx)⟩)
      have HTJ : Hid ((ns.take (j + 1)).any (fun x => Gr.twice1 ns F x.keys) = Gr.twice1 ns F ns[j].keys ∧ (Gr.twice1 ns F ns[j].keys = true → Gr.twice ns F = true)) := Lib.hid ⟨by
        rw [List.take_succ_eq_append_getElem hlt, List.any_append, HW.out.2]; simp, fun e => List.any_eq_true.2 ⟨_, hnm, e⟩⟩
      obtain ⟨n, hn⟩ : ∃ n, ns[j] = n := ⟨_, rfl⟩
      rw [hn] at hN hkl hil HAK HTJ
      obtain rfl : kn = n.keys.length := hN.kn
      obtain rfl : inn = n.items.length := hN.inn
      have x0 := hN.c0
      have x1 := hN.c1
      have x2 := hN.c2
      have x3 := hN.c3
      have x4 := hN.c4
      have HKR := Lib.hid hN.keys
      clear hN hnm hn
      go_upto_region 5 with fail
      obtain ⟨w5, hw5⟩ : ∃ w5, (wq.alloc (.cells #[.int .i64 n.kind, .string ⟨n.text.toArray⟩, .bool n.ord, .slice ka n.keys.length kc, .slice ia n.items.length ic] 35)).alloc (.map #[] 0) = w5 := ⟨_, rfl⟩
      obtain ⟨lb, hlb⟩ : ∃ lb, wq.heap.size = lb := ⟨_, rfl⟩
      have b5 : Blk w5 lb 35 #[.int .i64 n.kind, .string ⟨n.text.toArray⟩, .bool n.ord, .slice ka n.keys.length kc, .slice ia n.items.length ic] := by rw [← hw5, ← hlb]; exact (Blk.new _ _ _).alloc _
      have m5 : w5.heap[lb + 1]? = some (.map #[] 0) := by
        rw [← hw5, ← hlb]
        have := heap_alloc_new (wq.alloc (.cells #[.int .i64 n.kind, .string ⟨n.text.toArray⟩, .bool n.ord, .slice ka n.keys.length kc, .slice ia n.items.length ic] 35)) (.map #[] 0)
        rw [World.size_alloc] at this
        exact this
      have l5 : Below wq.heap.size wq w5 := by rw [← hw5]; exact ((Below.refl _ _).alloc (Nat.le_refl _) _).alloc (by simp) _
      have hs5 : w5.heap.size = lb + 1 + 1 := by rw [← hw5, ← hlb]; simp
      obtain ⟨mb, hmb⟩ : ∃ mb, lb + 1 = mb := ⟨_, rfl⟩
      rw [hmb] at m5 hs5
      have hM5 : MapAt w5 (mb + 1) mb [] [] #[] := ⟨m5, rfl, rfl, fun i h => by simp at h, fun i h => by simp at h, fun i j h => by simp at h, by simp, by omega, by omega⟩
      obtain ⟨D, hD⟩ : ∃ D, mb + 1 = D := ⟨_, rfl⟩
      rw [hD] at hM5 hs5
      have HLO : Hid (gb < lb ∧ lb + 1 = mb ∧ mb + 1 = D ∧ wq.heap.size = lb ∧ w5.heap.size = D) := Lib.hid ⟨by have := HGQ.out; omega, hmb, hD, hlb, hs5⟩
      have s3 : w5.cell? ⟨lb, 3, none⟩ = some (.slice ka n.keys.length kc) := b5.cell 3
      have HM5 := Lib.hid hM5
      have HB5 := Lib.hid b5
      have L5 : Hid (Below lb wq w5) := Lib.hid (by rw [← hlb]; exact l5)
      have HK5 : Hid (RowAt intL w5 gb ka n.keys) := Lib.hid (by
        have h1 := HKR.out
        rw [HGB.out] at h1
        exact h1.below (l5.mono (by have := HGQ.out; omega)))
      rw [hw5]
      (try rw [hlb])
      rw [hmb]
      clear hw5 b5 m5 l5 hs5 hmb hM5 hD hlb x0 x1 x2 x3 x4
      go_upto_region 6 with fail
      clear s3
      go_loopw [22] (fun s22 wr => ∃ k : Nat, k ≤ n.keys.length ∧ s22 = .int .i64 k ∧ Hid (Below mb w5 wr ∧ (∃ gl vs es, MapAt wr D mb gl vs es ∧ GI (kdOf ns) (n.keys.take k) gl) ∧ Gr.twice1 ns F (n.keys.take k) = false)) (fun s22 _ => n.keys.length - (intOf s22).toNat)
      case atStart => exact ⟨0, by omega, rfl, Lib.hid ⟨Below.refl _ _, ⟨_, _, _, HM5.out, by simpa using GI.nil _⟩, by simp [Gr.twice1]⟩⟩
      case round =>
        obtain ⟨k, hk, rfl, HV⟩ := hrel
        obtain ⟨wv, hwv⟩ : ∃ wv, wv = wr := ⟨_, rfl⟩
        subst hwv
        by_cases hlk : k < n.keys.length
        · have hlkI : (k : Int) < (n.keys.length : Int) := by omega
          obtain ⟨x, hx⟩ : ∃ x, n.keys[k] = x := ⟨_, rfl⟩
          obtain ⟨hxa, hxn⟩ := HAK.out n.keys[k] (List.getElem_mem hlk)
          rw [hx] at hxa hxn
          have hbv : Below gb w5 wv := HV.out.1.mono (by have := HLO.out; omega)
          obtain ⟨adk, rfl, hadk, y0⟩ := int_at (HK5.out.below hbv) hlk
          rw [hx] at y0
          have hxI : (x : Int) < (ns.length : Int) := by omega
          have g0 : wv.cell? ⟨gb, 0, none⟩ = some (.slice (some ad) ns.length c) := (((HB1.out.below HW.out.1 HGL.out).below L5.out HLO.out.1).below HV.out.1 (by have := HLO.out; omega)).cell 0
          have hGv : GAt wv w.heap.size (some ad) vs ns := ((H1.out.below (HW.out.1.mono (by have := HGL.out; have := HGB.out; omega))).below (L5.out.mono (by have := HGB.out; have := HLO.out; omega))).below (HV.out.1.mono (by have := HGB.out; have := HLO.out; omega))
          obtain ⟨ad', kx, ix, hade, hX⟩ := hGv.node hxn
          injection hade with hade
          subst hade
          have hkd : kdOf ns x = (ns[x].kind, ns[x].text) := by unfold kdOf; rw [List.getD_eq_getElem?_getD, List.getElem?_eq_getElem hxn]; rfl
          obtain ⟨nx, hnx⟩ : ∃ nx, ns[x] = nx := ⟨_, rfl⟩
          rw [hnx] at hX hkd
          have z0 := hX.c0
          have z1 := hX.c1
          have HKD := Lib.hid hkd
          have HXA := Lib.hid hxa
          have HX := Lib.hid hx
          clear hX hkd hnx hxa hx hbv hGv
          go_upto_region 8 with fail
          go_region_held3 (fun w' => w'.cell? ⟨gb, 0, none⟩ = some (.slice (some ad) ns.length c) ∧ w'.cell? (ad.add (x * 5)) = some (.int .i64 nx.kind) ∧ w'.cell? { block := (ad.add (x * 5)).block, off := (ad.add (x * 5)).off + 1 } = some (.string ⟨nx.text.toArray⟩)) (go_keep) (fail)
          go_upto_region 9 with fail
          obtain ⟨w8, hw8⟩ : ∃ w8, (wv.alloc (.cells #[.int .i64 nx.kind, .string ⟨nx.text.toArray⟩] 91)).drew = w8 := ⟨_, rfl⟩
          obtain ⟨sb, hsb⟩ : ∃ sb, wv.heap.size = sb := ⟨_, rfl⟩
          have b8 : Blk w8 sb 91 #[.int .i64 nx.kind, .string ⟨nx.text.toArray⟩] := by rw [← hw8, ← hsb]; exact (Blk.new _ _ _).drew
          have l8 : Below wv.heap.size wv w8 := by rw [← hw8]; exact below_drewN ((Below.refl _ _).alloc (Nat.le_refl _) _) 1
          have hs8 : w8.heap.size = sb + 1 := by rw [← hw8, ← hsb]; simp [World.drew]
          obtain ⟨gl, vl, es, hM, hG⟩ := HV.out.2.1
          have hM8 := hM.later l8
          obtain ⟨AL, cL, hlook, hrL⟩ := hM8.lookL hG (kdOf ns x)
          have hLs : ∀ y ∈ (n.keys.take k).filter (fun y => kdOf ns y == kdOf ns x), y ∈ n.keys.take k := fun y hy => (List.mem_filter.1 hy).1
          have hLany : ((n.keys.take k).filter (fun y => kdOf ns y == kdOf ns x)).any (fun y => Gr.sameF ns F x y) = false → (n.keys.take k).any (fun y => Gr.sameF ns F x y) = false := by
            intro h1
            rw [List.any_eq_false] at h1 ⊢
            intro y hy h2
            exact h1 y (List.mem_filter.2 ⟨hy, by have := same_kd h2; simp [this]⟩) h2
          have hLl : ((n.keys.take k).filter (fun y => kdOf ns y == kdOf ns x)).length ≤ 1073741823 := Nat.le_trans (List.length_filter_le _ _) (Nat.le_trans (List.length_take_le _ _) (by omega))
          obtain ⟨L, hL⟩ : ∃ L, (n.keys.take k).filter (fun y => kdOf ns y == kdOf ns x) = L := ⟨_, rfl⟩
          rw [hL] at hlook hrL hLs hLany hLl
          rw [HKD.out] at hlook
          unfold skv at hlook
          simp only at hlook
          have t0 : w8.cell? ⟨sb, 0, none⟩ = some (.int .i64 nx.kind) := b8.cell 0
          have t1 : w8.cell? ⟨sb, 1, none⟩ = some (.string ⟨nx.text.toArray⟩) := b8.cell 1
          have HM8 : Hid (∃ gl vs es, MapAt w8 D mb gl vs es ∧ GI (kdOf ns) (n.keys.take k) gl) := Lib.hid ⟨gl, vl, es, hM8, hG⟩
          have HS8 : Hid (wv.heap.size = sb ∧ w8.heap.size = sb + 1 ∧ D ≤ sb) := Lib.hid ⟨hsb, hs8, by have := hM.hd; omega⟩
          have HV8 : Hid (Below mb w5 w8 ∧ Gr.twice1 ns F (n.keys.take k) = false) := Lib.hid ⟨HV.out.1.trans (l8.mono (by have := hM.hd; have := HLO.out; omega)), HV.out.2.2⟩
          have HB8 := Lib.hid b8
          have HRL := Lib.hid hrL
          have HLS := Lib.hid hLs
          have HLA := Lib.hid hLany
          rw [hw8]
          (try rw [hsb])
          clear hw8 hsb b8 l8 hs8 hM hG hM8 hrL hLs hLany hL g0 z0 z1 y0
          go_upto_region 10 with fail
          clear hlook t0 t1
          go_loopw [43] (fun s43 wr => ∃ r : Nat, r ≤ L.length ∧ s43 = .int .i64 r ∧ Hid (Below w8.heap.size w8 wr ∧ (L.take r).any (fun y => Gr.sameF ns F x y) = false)) (fun s43 _ => L.length - (intOf s43).toNat)
          case atStart => exact ⟨0, by omega, rfl, Lib.hid ⟨Below.refl _ _, by simp⟩⟩
          case round =>
            obtain ⟨r, hr2, rfl, HR⟩ := hrel
            obtain ⟨wx, hwx⟩ : ∃ wx, wx = wr := ⟨_, rfl⟩
            subst hwx
            have hbx : Below mb w5 wx := HV8.out.1.trans (HR.out.1.mono (by have := HS8.out; have := HLO.out; omega))
            by_cases hrl : r < L.length
            · have hrlI : (r : Int) < (L.length : Int) := by omega
              obtain ⟨y, hy⟩ : ∃ y, L[r] = y := ⟨_, rfl⟩
              have hyt : y ∈ n.keys.take k := by rw [← hy]; exact HLS.out _ (List.getElem_mem hrl)
              have hyk : y ∈ n.keys := List.mem_of_mem_take hyt
              obtain ⟨hya, hyn⟩ := HAK.out y hyk
              obtain ⟨adl, rfl, _, y0⟩ := int_at (HRL.out.below HR.out.1) hrl
              rw [hy] at y0
              have bgx := (((HB1.out.below HW.out.1 HGL.out).below L5.out HLO.out.1).below hbx (by have := HLO.out; omega))
              have g0 : wx.cell? ⟨gb, 0, none⟩ = some (.slice (some ad) ns.length c) := bgx.cell 0
              have g1 : wx.cell? ⟨gb, 1, none⟩ = some (.int .i64 root) := bgx.cell 1
              have hGx : GAt wx wx.heap.size (some ad) vs ns := (((H1.out.below (HW.out.1.mono (by have := HGL.out; have := HGB.out; omega))).below (L5.out.mono (by have := HGB.out; have := HLO.out; omega))).below (hbx.mono (by have := HGB.out; have := HLO.out; omega))).more (by have := HR.out.1.size; have := HS8.out; have := HLO.out; have := HGB.out; omega)
              have HC := Lib.hid (HSAME.out x HXA.out y hya wx hGx)
              have HTR : Hid ((L.take (r + 1)).any (fun y => Gr.sameF ns F x y) = Gr.sameF ns F x y) := Lib.hid (by rw [List.take_succ_eq_append_getElem hrl, List.any_append, HR.out.2, hy]; simp)
              have HTT : Hid (Gr.sameF ns F x y = true → Gr.twice ns F = true) := Lib.hid (fun e => HTJ.out.2 (by
                refine twice1_take ns F n.keys (k + 1) ?_
                rw [take_snocN _ _ hlk, twice1_snoc, HX.out]
                have : (n.keys.take k).any (fun z => Gr.sameF ns F x z) = true := List.any_eq_true.2 ⟨y, hyt, e⟩
                rw [this]; simp))
              obtain ⟨b, hb⟩ : ∃ b, Gr.sameF ns F x y = b := ⟨_, rfl⟩
              rw [hb] at HC HTR HTT
              have HBW : Hid (Below w.heap.size w wx) := Lib.hid ((L1.out.trans (HW.out.1.mono (by have := HGL.out; have := HGB.out; omega))).trans ((L5.out.mono (by have := HGB.out; have := HLO.out; omega)).trans (hbx.mono (by have := HGB.out; have := HLO.out; omega))))
              have HBS : Hid (w.heap.size ≤ wx.heap.size ∧ w8.heap.size ≤ wx.heap.size) := Lib.hid ⟨HBW.out.size, HR.out.1.size⟩
              clear bgx hGx hy hyk hyt hya hb hbx
              go_wp2_with fail
              refine HC.out.mono ?_
              rintro e w9 ⟨rfl, hb9⟩
              cases b with
              | true =>
                have HFIN : Hid (Gr.twice ns F = true ∧ Below w.heap.size w w9) := Lib.hid ⟨HTT.out rfl, HBW.out.trans (hb9.mono HBS.out.1)⟩
                clear hb9
                go_wp2_with fail
                go_ret
                rw [HFIN.out.1]
                exact ⟨rfl, HFIN.out.2⟩
              | false =>
                have HNX : Hid (Below w8.heap.size w8 w9 ∧ (L.take (r + 1)).any (fun y => Gr.sameF ns F x y) = false) := Lib.hid ⟨HR.out.1.trans (hb9.mono HBS.out.2), HTR.out⟩
                clear hb9
                go_wp2_with fail
                go_roundw
                case rel => exact ⟨r + 1, by omega, by go_num, HNX⟩
                case measure => simp [intOf]; omega
            · have hrlI : ¬ (r : Int) < (L.length : Int) := by omega
              have htw : Gr.twice1 ns F (n.keys.take (k + 1)) = false := by
                rw [take_snocN _ _ hlk, twice1_snoc, HX.out, HV8.out.2, HLA.out (by
                  have := HR.out.2
                  rwa [show r = L.length from by omega, List.take_length] at this)]
                rfl
              obtain ⟨gl, vl, es, hM, hG⟩ := HM8.out
              have hMx := (hM.later HR.out.1).later ((Below.refl wx.heap.size wx).alloc (Nat.le_refl _) (.cells #[.int .i64 x] 3))
              obtain ⟨wE, gl1, vs1, es1, jj, q1, q2, hE, hkE, hME, hjE, hor⟩ := hMx.entry (kdOf ns x)
              have t0 : wx.cell? ⟨sb, 0, none⟩ = some (.int .i64 nx.kind) := (HB8.out.below HR.out.1 HB8.out.lt).cell 0
              have t1 : wx.cell? ⟨sb, 1, none⟩ = some (.string ⟨nx.text.toArray⟩) := (HB8.out.below HR.out.1 HB8.out.lt).cell 1
              have hq := (hME.own jj q2 q1)
              obtain ⟨Aj, cj, hvj, hrj⟩ := hq.form
              clear hrj
              rw [hvj] at hE hq
              rw [HKD.out] at hE
              unfold skv at hE
              simp only at hE
              have hll : gl1[jj].2.length ≤ 1073741823 := by
                have hsub : ∀ g ∈ gl, g.2.length ≤ k := fun g hg => by
                  rw [hG.grp g hg]
                  exact Nat.le_trans (List.length_filter_le _ _) (List.length_take_le _ _)
                have : ∀ g ∈ gl1, g.2.length ≤ k := by
                  rcases hor with rfl | ⟨_, rfl⟩
                  · exact hsub
                  · intro g hg
                    rcases List.mem_append.1 hg with hg | hg
                    · exact hsub g hg
                    · simp at hg; subst hg; simp
                have := this _ (List.getElem_mem q1)
                omega
              obtain ⟨lj, hlj⟩ : ∃ lj, gl1[jj].2 = lj := ⟨_, rfl⟩
              rw [hlj] at hE hq hvj hll
              have hlt4 : wx.heap.size ≠ mb := by have := hM.lo; have := hM.hd; have := HR.out.1.size; omega
              have hrowE : RowAt intL wE (wx.heap.size + 1) (some ⟨wx.heap.size, 0, none⟩) [x] := RowAt.ofBlk (hkE.blk (Blk.new wx 3 #[.int .i64 x]) hlt4) rfl (by omega)
              have HE : Hid (∃ (q1 : jj < gl1.length) (q2 : jj < vs1.length), Kept1 mb (wx.alloc (.cells #[.int .i64 x] 3)) wE ∧ MapAt wE D mb gl1 vs1 es1 ∧ gl1[jj].1 = kdOf ns x ∧ (gl1 = gl ∨ ((∀ g ∈ gl, g.1 ≠ kdOf ns x) ∧ gl1 = gl ++ [(kdOf ns x, [])])) ∧ gl1[jj].2 = lj ∧ vs1[jj] = .slice Aj lj.length cj ∧ GI (kdOf ns) (n.keys.take k) gl) := Lib.hid ⟨q1, q2, hkE, hME, hjE, hor, hlj, hvj, hG⟩
              have HTW := Lib.hid htw
              have HQ := Lib.hid hq
              have HROW := Lib.hid hrowE
              have HEH : Hid (D ≤ wE.heap.size) := Lib.hid hME.hd
              have HBX := Lib.hid hbx
              have HSX : Hid (mb ≤ wx.heap.size) := Lib.hid (by have := hbx.size; have := HLO.out; omega)
              clear hM hG hMx hkE hME hjE hor hlj hvj hq hrowE htw hbx hlt4 q1 q2
              go_wp2_with (at_builtin; go_must (refine wpList_append_row _ rfl (.tmp 54) (.tmp 56) 33 3 8 rfl intT D (.slice Aj lj.length cj) lj rfl HQ.out _ _ 1 [x] rfl HROW.out ?_ ?_ ?_))
              any_goals (first | exact HEH.out | (simp; omega))
              intro v' w3 hown hg hat
              obtain ⟨q1, q2, hkE, hME, hjE, hor, hlj, hvj, hG⟩ := HE.out
              rw [← hvj] at hg hat
              obtain ⟨w4, es3, hST, hk4, hM4⟩ := hME.store q1 q2 hown hg hat
              have hG4 := hG.next q1 hjE hor hME.nd
              rw [hlj] at hG4
              have HNX : Hid (Below mb w5 w4 ∧ (∃ gl vs es, MapAt w4 D mb gl vs es ∧ GI (kdOf ns) (n.keys.take (k + 1)) gl) ∧ Gr.twice1 ns F (n.keys.take (k + 1)) = false) := Lib.hid ⟨
                (((HBX.out.alloc HSX.out _).trans (hkE.below (Nat.le_refl _))).trans (((hME.own jj q2 q1).grown_below hg hME.hd).mono (by have := HLO.out; omega))).trans (hk4.below (Nat.le_refl _)),
                ⟨_, _, _, hM4, by rw [take_snocN _ _ hlk, HX.out]; exact hG4⟩, HTW.out⟩
              clear hown hg hat hkE hME hjE hor hlj hvj hG hk4 hM4 hG4 q1 q2
              go_wp2_with fail
              go_roundw
              case rel => exact ⟨k + 1, by omega, by go_num, HNX⟩
              case measure => simp [intOf]; omega
        · have hlkI : ¬ (k : Int) < (n.keys.length : Int) := by omega
          have HNX : Hid (Below w1.heap.size w1 wv ∧ (ns.take (j + 1)).any (fun x => Gr.twice1 ns F x.keys) = false) := Lib.hid ⟨(HW.out.1.trans (L5.out.mono (by have := HGQ.out; have := HLO.out; omega))).trans (HV.out.1.mono (by have := HGQ.out; have := HLO.out; omega)), by
            have := HV.out.2.2
            rw [show k = n.keys.length from by omega, List.take_length] at this
            rw [HTJ.out.1, this]⟩
          go_wp2_with fail
          go_roundw
          case rel => exact ⟨j + 1, by omega, by go_num, HNX⟩
          case measure => simp [intOf]; omega
    · have hltI : ¬ (j : Int) < (ns.length : Int) := by omega
      have HRES : Hid (Gr.twice ns F = false ∧ Below w.heap.size w wq) := Lib.hid ⟨by
        have := HW.out.2
        rw [show j = ns.length from by omega, List.take_length] at this
        exact this, L1.out.trans (HW.out.1.mono (by have := HGL.out; have := HGB.out; omega))⟩
      go_wp2_with fail
      go_ret
      rw [HRES.out.1]
      exact ⟨rfl, HRES.out.2⟩
end Go.Proofs.YtoigpackhninoaaGreatDoor
