/- Walks: indices; graphs whose references are any integers. -/
import Derived.Test.YtoigpackhninoaaGreatDoorGrDep
namespace Go.Proofs.YtoigpackhninoaaGreatDoor
namespace Gr
structure Ni where
  kind : Int
  text : Str
  ord : Bool
  keys : List Int
  items : List Int
def Ni.nd (x : Ni) : Nd := ⟨x.kind, x.text, x.ord, x.keys.map Int.toNat, x.items.map Int.toNat⟩
def inR (n : Nat) (x : Int) : Bool := decide (0 ≤ x) && decide (x < (n : Int))
def rng (n : Nat) (x : Ni) : Bool := (x.keys ++ x.items).all (inR n)
def indB (is : List Ni) (root : Int) : Bool := inR is.length root && is.all (rng is.length)
end Gr
open Go.RowKit
theorem intI_all (l : List Int) (h0 : ∀ x ∈ l, 0 ≤ x) : intL.all (l.map Int.toNat) = intI.all l := by
  induction l with
  | nil => rfl
  | cons x l ih =>
    have e1 : intI.all (x :: l) = intI.enc x ++ intI.all l := rfl
    have e2 : intL.all (x.toNat :: l.map Int.toNat) = intL.enc x.toNat ++ intL.all (l.map Int.toNat) := rfl
    have hx := h0 x (.head _)
    rw [List.map_cons, e1, e2, ih (fun y hy => h0 y (.tail _ hy))]
    show [Value.int .i64 ((x.toNat : Nat) : Int)] ++ _ = [Value.int .i64 x] ++ _
    rw [show ((x.toNat : Nat) : Int) = x from by omega]
theorem intI_row {w : World} {B : Nat} {A : Option Addr} {l : List Int} (h : RowAt intI w B A l) (h0 : ∀ x ∈ l, 0 ≤ x) : RowAt intL w B A (l.map Int.toNat) := by
  unfold RowAt at h ⊢
  rw [intI_all l h0, List.length_map]
  exact h
theorem int_atI {w : World} {B : Nat} {A : Option Addr} {l : List Int} {k : Nat} (h : RowAt intI w B A l) (hk : k < l.length) : ∃ ad, A = some ad ∧ ad.block < B ∧ w.cell? (ad.add k) = some (.int .i64 l[k]) := by
  obtain ⟨ad, h1, h2, h3, _⟩ := h.get hk
  refine ⟨ad, h1, h2, ?_⟩
  have := h3 (.int .i64 l[k]) rfl
  rwa [show k * intI.sz = k from Nat.mul_one k] at this
/-- a graph that can be read, its references any integers. -/
structure IAt (w : World) (B : Nat) (A : Option Addr) (vs : List NV) (ns : List Gr.Ni) : Prop where
  row : RowAt nodeL w B A vs
  len : vs.length = ns.length
  kind : ∀ j (h : j < vs.length) (h2 : j < ns.length), vs[j].kind = ns[j].kind ∧ vs[j].text = ns[j].text ∧ vs[j].ord = ns[j].ord
  nums : ∀ j (h : j < vs.length) (h2 : j < ns.length), RowAt intI w B vs[j].k.a ns[j].keys ∧ vs[j].k.n = ns[j].keys.length ∧ RowAt intI w B vs[j].i.a ns[j].items ∧ vs[j].i.n = ns[j].items.length
theorem IAt.below {w w' : World} {B : Nat} {A : Option Addr} {vs : List NV} {ns : List Gr.Ni} (h : IAt w B A vs ns) (hb : Below B w w') : IAt w' B A vs ns :=
  ⟨h.row.below hb, h.len, h.kind, fun j h1 h2 => let ⟨a, b, c, d⟩ := h.nums j h1 h2; ⟨a.below hb, b, c.below hb, d⟩⟩
theorem IAt.more {w : World} {B B' : Nat} {A : Option Addr} {vs : List NV} {ns : List Gr.Ni} (h : IAt w B A vs ns) (hB : B ≤ B') : IAt w B' A vs ns :=
  ⟨h.row.more hB, h.len, h.kind, fun j h1 h2 => let ⟨a, b, c, d⟩ := h.nums j h1 h2; ⟨a.more hB, b, c.more hB, d⟩⟩
theorem IAt.toG {w : World} {B : Nat} {A : Option Addr} {vs : List NV} {ns : List Gr.Ni} (h : IAt w B A vs ns) (h0 : ∀ x ∈ ns, ∀ y ∈ x.keys ++ x.items, 0 ≤ y) : GAt w B A vs (ns.map Gr.Ni.nd) := by
  refine ⟨h.row, by simp [h.len], fun j h1 h2 => ?_, fun j h1 h2 => ?_⟩
  · rw [List.length_map] at h2
    rw [List.getElem_map]
    exact h.kind j h1 h2
  · rw [List.length_map] at h2
    rw [List.getElem_map]
    obtain ⟨a, b, c, d⟩ := h.nums j h1 h2
    have hm := h0 _ (List.getElem_mem h2)
    exact ⟨intI_row a (fun y hy => hm y (List.mem_append_left _ hy)), by rw [b]; simp [Gr.Ni.nd], intI_row c (fun y hy => hm y (List.mem_append_right _ hy)), by rw [d]; simp [Gr.Ni.nd]⟩
theorem rng_refs {is : List Gr.Ni} (h : is.all (Gr.rng is.length) = true) : (∀ x ∈ is, ∀ y ∈ x.keys ++ x.items, 0 ≤ y) ∧ Gr.Refs (is.map Gr.Ni.nd) := by
  have h1 : ∀ x ∈ is, ∀ y ∈ x.keys ++ x.items, 0 ≤ y ∧ y < (is.length : Int) := by
    intro x hx y hy
    have := List.all_eq_true.1 (List.all_eq_true.1 h x hx) y hy
    simpa [Gr.inR] using this
  refine ⟨fun x hx y hy => (h1 x hx y hy).1, fun x hx r hr => ?_⟩
  obtain ⟨y, hy, rfl⟩ := List.mem_map.1 hx
  rw [List.length_map]
  rw [Gr.Ni.nd, ← List.map_append] at hr
  obtain ⟨z, hz, rfl⟩ := List.mem_map.1 hr
  have := h1 y hy z hz
  omega
theorem IAt.node {w : World} {B : Nat} {A : Option Addr} {vs : List NV} {ns : List Gr.Ni} (h : IAt w B A vs ns) {j : Nat} (hj : j < ns.length) : ∃ (ad : Addr) (k i : SV), A = some ad ∧ ad.block < B ∧ w.cell? (ad.add (j * 5)) = some (.int .i64 ns[j].kind) ∧ w.cell? { block := (ad.add (j * 5)).block, off := (ad.add (j * 5)).off + 1 } = some (.string ⟨ns[j].text.toArray⟩) ∧ w.cell? { block := (ad.add (j * 5)).block, off := (ad.add (j * 5)).off + 2 } = some (.bool ns[j].ord) ∧
    w.cell? { block := (ad.add (j * 5)).block, off := (ad.add (j * 5)).off + 3 } = some (.slice k.a k.n k.c) ∧ w.cell? { block := (ad.add (j * 5)).block, off := (ad.add (j * 5)).off + 4 } = some (.slice i.a i.n i.c) ∧ RowAt intI w B k.a ns[j].keys ∧ k.n = ns[j].keys.length ∧ RowAt intI w B i.a ns[j].items ∧ i.n = ns[j].items.length := by
  have hv : j < vs.length := by rw [h.len]; exact hj
  obtain ⟨ad, h1, h2, c0, c1, c2, c3, c4⟩ := node_at h.row hv
  obtain ⟨k0, k1, k2⟩ := h.kind j hv hj
  obtain ⟨n1, n2, n3, n4⟩ := h.nums j hv hj
  rw [k0] at c0
  rw [k1] at c1
  rw [k2] at c2
  exact ⟨ad, vs[j].k, vs[j].i, h1, h2, c0, c1, c2, c3, c4, n1, n2, n3, n4⟩
theorem all_takeS {α : Type} (f : α → Bool) (l : List α) (k : Nat) (h : k < l.length) : (l.take (k + 1)).all f = ((l.take k).all f && f l[k]) := by
  rw [List.take_succ_eq_append_getElem h, List.all_append]; simp
set_option maxRecDepth 100000 in
set_option maxHeartbeats 8000000 in
theorem indices_any (A : Option Addr) (c : Nat) (root : Int) (vs : List NV) (ns : List Gr.Ni) (hl : ns.length ≤ 1073741823) (hks : ∀ n ∈ ns, n.keys.length ≤ 1073741823 ∧ n.items.length ≤ 1073741823) (w : World) (h : IAt w w.heap.size A vs ns) :
    Calls Tryz.prog 33 #[.agg #[.slice A ns.length c, .int .i64 root]] w fun e w' => e = .returned (.bool (Gr.indB ns root)) ∧ Below w.heap.size w w' := by
  have H := Lib.hid h
  obtain ⟨b0, hb0⟩ : ∃ b0, Gr.inR ns.length root = b0 := ⟨_, rfl⟩
  have HB0 := Lib.hid hb0
  unfold Gr.inR at hb0
  clear h
  go_enter Tryz.func33, Tryz.ntmps33
  go_upto_region 1 with fail
  go_cut [3] (fun s3 wx => s3 = .bool b0 ∧ ∃ w1, w1 = wx ∧ w1 = w.alloc (.cells #[.slice A ns.length c, .int .i64 root] 24))
  case first =>
    by_cases h1 : 0 ≤ root
    · by_cases h2 : root < (ns.length : Int)
      · obtain rfl : b0 = true := by rw [← hb0]; simp [h1, h2]
        clear hb0 HB0
        go_wp2_with fail
        go_meet
        exact ⟨rfl, _, rfl, rfl⟩
      · obtain rfl : b0 = false := by rw [← hb0]; simp [h2]
        clear hb0 HB0
        go_wp2_with fail
        go_meet
        exact ⟨rfl, _, rfl, rfl⟩
    · obtain rfl : b0 = false := by rw [← hb0]; simp [h1]
      clear hb0 HB0
      go_wp2_with fail
      go_meet
      exact ⟨rfl, _, rfl, rfl⟩
  case rest =>
    obtain ⟨rfl, w1, rfl, hwx⟩ := hcut
    have l1 : Below w.heap.size w w1 := by rw [hwx]; exact (Below.refl _ _).alloc (Nat.le_refl _) _
    have b1 : Blk w1 w.heap.size 24 #[.slice A ns.length c, .int .i64 root] := by rw [hwx]; exact Blk.new _ _ _
    have g0 : w1.cell? ⟨w.heap.size, 0, none⟩ = some (.slice A ns.length c) := b1.cell 0
    obtain ⟨gb, hgb⟩ : ∃ gb, w.heap.size = gb := ⟨_, rfl⟩
    have HGB := Lib.hid hgb
    have L1 := Lib.hid l1
    have HB1 := Lib.hid b1
    have H1 := Lib.hid (H.out.below l1)
    rw [hgb] at g0 HB1 H1
    (try rw [hgb])
    have HW1 : Hid (gb < w1.heap.size) := Lib.hid HB1.out.lt
    clear hwx l1 b1 hgb hb0
    go_upto_region 3 with fail
    clear g0
    go_loopw [3, 24] (fun s3 s24 wr => ∃ (j : Nat) (b : Bool), j ≤ ns.length ∧ s24 = .int .i64 j ∧ s3 = .bool b ∧ Hid (b = (b0 && (ns.take j).all (Gr.rng ns.length)) ∧ Below w1.heap.size w1 wr)) (fun _ s24 _ => ns.length - (intOf s24).toNat)
    case atStart => exact ⟨0, b0, by omega, rfl, rfl, Lib.hid ⟨by simp, Below.refl _ _⟩⟩
    case round =>
      obtain ⟨j, b, hj, rfl, rfl, HW⟩ := hrel
      obtain ⟨wq, hwq⟩ : ∃ wq, wq = wr := ⟨_, rfl⟩
      subst hwq
      by_cases hlt : j < ns.length
      · have hltI : (j : Int) < (ns.length : Int) := by omega
        obtain ⟨ad, ks, is, rfl, hadb, c0, c1, c2, c3, c4, r1, r2, r3, r4⟩ := (H1.out.below (HW.out.2.mono (by have := HW1.out; omega))).node hlt
        obtain ⟨ka, kn, kc⟩ := ks
        obtain ⟨ia, inn, ic⟩ := is
        have hnm : ns[j] ∈ ns := List.getElem_mem hlt
        obtain ⟨hkl, hil⟩ := hks _ hnm
        have HTK : Hid ((ns.take (j + 1)).all (Gr.rng ns.length) = ((ns.take j).all (Gr.rng ns.length) && (ns[j].keys ++ ns[j].items).all (Gr.inR ns.length))) := Lib.hid (by rw [all_takeS _ _ _ hlt]; rfl)
        obtain ⟨n, hn⟩ : ∃ n, ns[j] = n := ⟨_, rfl⟩
        rw [hn] at c0 c1 c2 r1 r2 r3 r4 hkl hil HTK
        obtain rfl : kn = n.keys.length := r2
        obtain rfl : inn = n.items.length := r4
        have g0 : wq.cell? ⟨gb, 0, none⟩ = some (.slice (some ad) ns.length c) := (HB1.out.below HW.out.2 HW1.out).cell 0
        have HR13 := Lib.hid (And.intro r1 r3)
        have HWQ : Hid (gb < wq.heap.size ∧ w1.heap.size ≤ wq.heap.size) := Lib.hid ⟨by have := HW.out.2.size; have := HW1.out; omega, HW.out.2.size⟩
        clear r1 r3 hnm hn hadb
        go_upto_region 5 with fail
        obtain ⟨w5, hw5⟩ : ∃ w5, wq.alloc (.cells #[.int .i64 n.kind, .string ⟨n.text.toArray⟩, .bool n.ord, .slice ka n.keys.length kc, .slice ia n.items.length ic] 35) = w5 := ⟨_, rfl⟩
        have b5 : Blk w5 wq.heap.size 35 #[.int .i64 n.kind, .string ⟨n.text.toArray⟩, .bool n.ord, .slice ka n.keys.length kc, .slice ia n.items.length ic] := by rw [← hw5]; exact Blk.new _ _ _
        have l5 : Below wq.heap.size wq w5 := by rw [← hw5]; exact (Below.refl _ _).alloc (Nat.le_refl _) _
        have s3 : w5.cell? ⟨wq.heap.size, 3, none⟩ = some (.slice ka n.keys.length kc) := b5.cell 3
        have s4 : w5.cell? ⟨wq.heap.size, 4, none⟩ = some (.slice ia n.items.length ic) := b5.cell 4
        (try rw [hw5])
        have L5 := Lib.hid l5
        clear hw5 b5 l5 c0 c1 c2 c3 c4 g0
        go_upto_region 6 with fail
        obtain ⟨w6, hw6⟩ : ∃ w6, w5.alloc (.cells #[.slice ka n.keys.length kc, .slice ia n.items.length ic] 33) = w6 := ⟨_, rfl⟩
        have b6 : Blk w6 w5.heap.size 33 #[.slice ka n.keys.length kc, .slice ia n.items.length ic] := by rw [← hw6]; exact Blk.new _ _ _
        have l6 : Below wq.heap.size wq w6 := by rw [← hw6]; exact L5.out.alloc L5.out.size _
        (try rw [hw6])
        have HB6 := Lib.hid b6
        have g0 : w6.cell? ⟨gb, 0, none⟩ = some (.slice (some ad) ns.length c) := ((HB1.out.below HW.out.2 HW1.out).below l6 HWQ.out.1).cell 0
        have HR6 : Hid (RowAt intI w6 gb ka n.keys ∧ RowAt intI w6 gb ia n.items) := Lib.hid ⟨HR13.out.1.below (l6.mono (by have := HWQ.out; omega)), HR13.out.2.below (l6.mono (by have := HWQ.out; omega))⟩
        have L6 : Hid (Below w1.heap.size w1 w6) := Lib.hid (HW.out.2.trans (l6.mono HWQ.out.2))
        clear hw6 b6 l6 s3 s4
        go_loop [3, 34] (fun s3 s34 => ∃ (r : Nat) (b2 : Bool), r ≤ 2 ∧ s34 = .int .i64 r ∧ s3 = .bool b2 ∧ Hid (b2 = (b && (if r = 0 then [] else if r = 1 then n.keys else n.keys ++ n.items).all (Gr.inR ns.length)))) (fun _ s34 => 2 - (intOf s34).toNat)
        case atStart => exact ⟨0, b, by omega, rfl, rfl, Lib.hid (by simp)⟩
        case round =>
          obtain ⟨r, b2, hr2, rfl, rfl, HR⟩ := hrel
          by_cases hrl : r < 2
          · have hrlI : (r : Int) < 2 := by omega
            obtain ⟨Ax, Lx, cx, e1, HX⟩ : ∃ Ax Lx cx, w6.cell? ⟨w5.heap.size, r, none⟩ = some (.slice Ax (Lx : List Int).length cx) ∧ Hid (RowAt intI w6 gb Ax Lx ∧ (if r + 1 = 0 then [] else if r + 1 = 1 then n.keys else n.keys ++ n.items) = (if r = 0 then [] else if r = 1 then n.keys else n.keys ++ n.items) ++ Lx ∧ Lx.length ≤ 1073741823) := by
              obtain rfl | rfl : r = 0 ∨ r = 1 := by omega
              · exact ⟨ka, n.keys, kc, HB6.out.cell 0, Lib.hid ⟨HR6.out.1, by simp, hkl⟩⟩
              · exact ⟨ia, n.items, ic, HB6.out.cell 1, Lib.hid ⟨HR6.out.2, by simp, hil⟩⟩
            have hxl := HX.out.2.2
            go_upto_region 9 with fail
            clear e1
            go_loop [3, 40] (fun s3 s40 => ∃ (y : Nat) (b3 : Bool), y ≤ Lx.length ∧ s40 = .int .i64 y ∧ s3 = .bool b3 ∧ Hid (b3 = (b2 && (Lx.take y).all (Gr.inR ns.length)))) (fun _ s40 => Lx.length - (intOf s40).toNat)
            case atStart => exact ⟨0, b2, by omega, rfl, rfl, Lib.hid (by simp)⟩
            case round =>
              obtain ⟨y, b3, hy, rfl, rfl, HY⟩ := hrel
              by_cases hyl : y < Lx.length
              · have hylI : (y : Int) < (Lx.length : Int) := by omega
                obtain ⟨x, hx⟩ : ∃ x, Lx[y] = x := ⟨_, rfl⟩
                obtain ⟨adx, rfl, hadx, y0⟩ := int_atI HX.out.1 hyl
                rw [hx] at y0
                have HTX : Hid ((Lx.take (y + 1)).all (Gr.inR ns.length) = ((Lx.take y).all (Gr.inR ns.length) && (decide (0 ≤ x) && decide (x < (ns.length : Int))))) := Lib.hid (by rw [all_takeS _ _ _ hyl, hx]; rfl)
                clear hx
                cases b3 with
                | false =>
                  have HN : Hid (false = (b2 && (Lx.take (y + 1)).all (Gr.inR ns.length))) := Lib.hid (by rw [HTX.out, ← Bool.and_assoc, ← HY.out]; rfl)
                  clear HY
                  go_wp2_with fail
                  go_round
                  case rel => exact ⟨y + 1, false, by omega, by go_num, rfl, HN⟩
                  case measure => simp [intOf]; omega
                | true =>
                  by_cases h1 : 0 ≤ x
                  · by_cases h2 : x < (ns.length : Int)
                    · have HN : Hid (true = (b2 && (Lx.take (y + 1)).all (Gr.inR ns.length))) := Lib.hid (by rw [HTX.out, ← Bool.and_assoc, ← HY.out]; simp [h1, h2])
                      clear HY
                      go_wp2_with fail
                      go_round
                      case rel => exact ⟨y + 1, true, by omega, by go_num, rfl, HN⟩
                      case measure => simp [intOf]; omega
                    · have HN : Hid (false = (b2 && (Lx.take (y + 1)).all (Gr.inR ns.length))) := Lib.hid (by rw [HTX.out, ← Bool.and_assoc, ← HY.out]; simp [h2])
                      clear HY
                      go_wp2_with fail
                      go_round
                      case rel => exact ⟨y + 1, false, by omega, by go_num, rfl, HN⟩
                      case measure => simp [intOf]; omega
                  · have HN : Hid (false = (b2 && (Lx.take (y + 1)).all (Gr.inR ns.length))) := Lib.hid (by rw [HTX.out, ← Bool.and_assoc, ← HY.out]; simp [h1])
                    clear HY
                    go_wp2_with fail
                    go_round
                    case rel => exact ⟨y + 1, false, by omega, by go_num, rfl, HN⟩
                    case measure => simp [intOf]; omega
              · have hylI : ¬ (y : Int) < (Lx.length : Int) := by omega
                have HN : Hid (b3 = (b && (if r + 1 = 0 then [] else if r + 1 = 1 then n.keys else n.keys ++ n.items).all (Gr.inR ns.length))) := Lib.hid (by
                  rw [HX.out.2.1, List.all_append, ← Bool.and_assoc, ← HR.out]
                  have := HY.out
                  rwa [show y = Lx.length from by omega, List.take_length] at this)
                go_wp2_with fail
                go_round
                case rel => exact ⟨r + 1, b3, by omega, by go_num, rfl, HN⟩
                case measure => simp [intOf]; omega
          · have hrlI : ¬ (r : Int) < 2 := by omega
            have HN : Hid (b2 = (b0 && (ns.take (j + 1)).all (Gr.rng ns.length)) ∧ Below w1.heap.size w1 w6) := Lib.hid ⟨by
              have := HR.out
              rw [show r = 2 from by omega] at this
              rw [HTK.out, ← Bool.and_assoc, ← HW.out.1]; exact this, L6.out⟩
            go_wp2_with fail
            go_roundw
            case rel => exact ⟨j + 1, b2, by omega, by go_num, rfl, HN⟩
            case measure => simp [intOf]; omega
      · have hltI : ¬ (j : Int) < (ns.length : Int) := by omega
        have HRES : Hid (Gr.indB ns root = b ∧ Below w.heap.size w wq) := Lib.hid ⟨by
          have := HW.out.1
          rw [show j = ns.length from by omega, List.take_length] at this
          unfold Gr.indB
          rw [HB0.out, this], L1.out.trans (HW.out.2.mono L1.out.size)⟩
        go_wp2_with fail
        go_ret
        rw [HRES.out.1]
        exact ⟨rfl, HRES.out.2⟩
end Go.Proofs.YtoigpackhninoaaGreatDoor
