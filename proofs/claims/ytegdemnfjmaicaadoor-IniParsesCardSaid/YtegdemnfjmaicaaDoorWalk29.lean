/- Walks: entries and sections of a document (the laws' own helpers). -/
import Derived.Test.YtegdemnfjmaicaaDoorWalk22
import Derived.Test.YtegdemnfjmaicaaDoorPlainZ
import Derived.Deep.RegionHeld3
import Derived.ChangeKeysEq
namespace Go.Proofs.YtegdemnfjmaicaaDoor
open Go.RowKit
def pairL : Lay (Ini.Str × Ini.Str) := { enc := fun x => [.string ⟨x.1.toArray⟩, .string ⟨x.2.toArray⟩], sz := 2, len := fun _ => rfl, one := fun x u hu => by simp at hu; rcases hu with rfl | rfl <;> rfl, pos := by omega }
theorem pairT : SliceT Tryd.prog pairL 41 43 32 := sliceT_of pairL 41 43 (.agg #[.string ⟨#[]⟩, .string ⟨#[]⟩]) 32 Tryd.underlying41 (by kernel_rfl) rfl (by omega)
/-- the entries that a graph shows. -/
structure Ents (ns : List Ini.Nd) (L : List (Ini.Str × Ini.Str)) : Prop where
  pos : 0 < ns.length
  kl : (ns[0]'pos).keys.length = L.length
  il : (ns[0]'pos).items.length = L.length
  all : ∀ i (h : i < L.length) (h1 : i < (ns[0]'pos).keys.length) (h2 : i < (ns[0]'pos).items.length), Ini.textAt ns ((ns[0]'pos).keys[i]) = some L[i].1 ∧ Ini.textAt ns ((ns[0]'pos).items[i]) = some L[i].2
theorem Ini.Flat.ents {L : List (Ini.Str × Ini.Str)} {st : Ini.St} (h : Ini.Flat [] L st) : Ents st.nodes L := by
  have hp : 0 < st.nodes.length := by rw [h.len]; omega
  have h0 : st.nodes[0] = ⟨10, [], Ini.kys 0 L.length, Ini.its 0 L.length⟩ := by
    have := h.map
    rw [List.length_nil, List.getElem?_eq_getElem hp] at this
    injection this
  refine ⟨hp, by rw [h0]; simp [Ini.kys], by rw [h0]; simp [Ini.its], fun i hi h1 h2 => ?_⟩
  obtain ⟨a, b⟩ := h.get i hi
  have e1 : st.nodes[0].keys[i] = 0 + 1 + 2 * i := by simp [h0, Ini.kys]
  have e2 : st.nodes[0].items[i] = 0 + 2 + 2 * i := by simp [h0, Ini.its]
  rw [e1, e2]
  unfold Ini.textAt
  rw [List.length_nil] at a b
  rw [a, b]
  exact ⟨rfl, rfl⟩
theorem text_get {ns : List Ini.Nd} {k : Nat} {t : Ini.Str} (h : Ini.textAt ns k = some t) : ∃ hk : k < ns.length, (ns[k]).text = t := by
  unfold Ini.textAt at h
  cases hn : ns[k]? with
  | none => rw [hn] at h; cases h
  | some nd =>
    rw [hn] at h
    obtain ⟨hk, e⟩ := List.getElem?_eq_some_iff.1 hn
    refine ⟨hk, ?_⟩
    rw [e]
    simpa using h
theorem span_at {w : World} {B : Nat} {A : Option Addr} {l : List Ini.Sp} {k : Nat} (h : RowAt spanL w B A l) (hk : k < l.length) : ∃ ad, A = some ad ∧ ad.block < B ∧ w.cell? (ad.add (k * 9)) = some (.int .i64 (l[k].node : Int)) ∧
    w.cell? { block := (ad.add (k * 9)).block, off := (ad.add (k * 9)).off + 1 } = some (.int .i64 l[k].parent) ∧ w.cell? { block := (ad.add (k * 9)).block, off := (ad.add (k * 9)).off + 2 } = some (.int .i64 (l[k].entry : Int)) ∧
    w.cell? { block := (ad.add (k * 9)).block, off := (ad.add (k * 9)).off + 3 } = some (.int .i64 (l[k].from_ : Int)) ∧ w.cell? { block := (ad.add (k * 9)).block, off := (ad.add (k * 9)).off + 4 } = some (.int .i64 (l[k].to_ : Int)) ∧
    w.cell? { block := (ad.add (k * 9)).block, off := (ad.add (k * 9)).off + 5 } = some (.int .i64 (l[k].keyFrom : Int)) ∧ w.cell? { block := (ad.add (k * 9)).block, off := (ad.add (k * 9)).off + 6 } = some (.int .i64 (l[k].keyTo : Int)) ∧
    w.cell? { block := (ad.add (k * 9)).block, off := (ad.add (k * 9)).off + 7 } = some (.bool false) ∧ w.cell? { block := (ad.add (k * 9)).block, off := (ad.add (k * 9)).off + 8 } = some (.bool l[k].whole) := by
  obtain ⟨ad, h1, h2, h3, h4⟩ := h.get hk
  exact ⟨ad, h1, h2, h3 _ rfl, h4 1 _ (by omega) rfl, h4 2 _ (by omega) rfl, h4 3 _ (by omega) rfl, h4 4 _ (by omega) rfl, h4 5 _ (by omega) rfl, h4 6 _ (by omega) rfl, h4 7 _ (by omega) rfl, h4 8 _ (by omega) rfl⟩
theorem pair_at {w : World} {B : Nat} {A : Option Addr} {l : List (Ini.Str × Ini.Str)} {k : Nat} (h : RowAt pairL w B A l) (hk : k < l.length) : ∃ ad, A = some ad ∧ ad.block < B ∧ w.cell? (ad.add (k * 2)) = some (.string ⟨(l[k]).1.toArray⟩) ∧
    w.cell? { block := (ad.add (k * 2)).block, off := (ad.add (k * 2)).off + 1 } = some (.string ⟨(l[k]).2.toArray⟩) := by
  obtain ⟨ad, h1, h2, h3, h4⟩ := h.get hk
  exact ⟨ad, h1, h2, h3 _ rfl, h4 1 _ (by omega) rfl⟩
theorem node0_at {w : World} {B : Nat} {A : Option Addr} {l : List NV} (h : RowAt nodeL w B A l) (hk : 0 < l.length) : ∃ ad, A = some ad ∧ ad.block < B ∧ w.cell? ad = some (.int .i64 (l[0].kind : Int)) ∧
    w.cell? { block := ad.block, off := ad.off + 1 } = some (.string ⟨l[0].text.toArray⟩) ∧ w.cell? { block := ad.block, off := ad.off + 2 } = some (.bool false) ∧
    w.cell? { block := ad.block, off := ad.off + 3 } = some (.slice l[0].k.a l[0].k.n l[0].k.c) ∧ w.cell? { block := ad.block, off := ad.off + 4 } = some (.slice l[0].i.a l[0].i.n l[0].i.c) := by
  obtain ⟨ad, h1, h2, h3, h4, h5, h6, h7⟩ := node_at h hk
  have e : ad.add (0 * 5) = ad := by simp [Addr.add]
  rw [e] at h3 h4 h5 h6 h7
  exact ⟨ad, h1, h2, h3, h4, h5, h6, h7⟩
set_option maxRecDepth 100000 in
set_option maxHeartbeats 4000000 in
theorem entries_any (src : Ini.Str) (A A2 A3 : Option Addr) (c n2 c2 n3 c3 : Nat) (vs : List NV) (ns : List Ini.Nd) (L : List (Ini.Str × Ini.Str)) (w : World) (h : GAt w w.heap.size A vs ns) (hl : ns.length ≤ 1073741823) (hE : Ents ns L) (hL : L.length ≤ 100000) :
    Calls Tryd.prog 15 #[.agg #[.int .i64 3, .string ⟨src.toArray⟩, .slice A vs.length c, .int .i64 0, .slice A2 n2 c2, .slice A3 n3 c3]] w fun e w' => Below w.heap.size w w' ∧ ∃ v, e = .returned v ∧ OwnRow pairL w' w.heap.size 43 v L := by
  have HG := Lib.hid h
  have hvl := h.len
  have h0 : 0 < vs.length := by rw [hvl]; exact hE.pos
  have HVL := Lib.hid hvl
  have HE := Lib.hid hE
  clear h hvl hE
  go_enter Tryd.func15, Tryd.ntmps15
  obtain ⟨w1, hw1⟩ : ∃ w1, w.alloc (.cells #[.int .i64 3, .string ⟨src.toArray⟩, .slice A vs.length c, .int .i64 0, .slice A2 n2 c2, .slice A3 n3 c3] 29) = w1 := ⟨_, rfl⟩
  have l1 : Below w.heap.size w w1 := by rw [← hw1]; exact (Below.refl _ _).alloc (Nat.le_refl _) _
  have b1 : Blk w1 w.heap.size 29 #[.int .i64 3, .string ⟨src.toArray⟩, .slice A vs.length c, .int .i64 0, .slice A2 n2 c2, .slice A3 n3 c3] := by rw [← hw1]; exact Blk.new _ _ _
  have hz1 : w1.heap.size = w.heap.size + 1 := by rw [← hw1]; simp
  obtain ⟨ad, rfl, hab, c0, c1, c2', c3', c4⟩ := node0_at (HG.out.below l1).row h0
  obtain ⟨x, hx⟩ : ∃ x, vs[0] = x := ⟨_, rfl⟩
  have hns0 : 0 < ns.length := by have := HVL.out; omega
  obtain ⟨na, nb, nc, nd⟩ := (HG.out.below l1).nums 0 h0 hns0
  rw [hx] at c0 c1 c3' c4 na nb nc nd
  have hkl := HE.out.kl
  have hil := HE.out.il
  rw [nb, hkl] at c3'
  rw [nd, hil] at c4
  obtain ⟨ks, hks⟩ : ∃ ks, (ns[0]'hns0).keys = ks := ⟨_, rfl⟩
  obtain ⟨is, his⟩ : ∃ is, (ns[0]'hns0).items = is := ⟨_, rfl⟩
  rw [hks] at na hkl
  rw [his] at nc hil
  have p2 : w1.cell? ⟨w.heap.size, 2, none⟩ = some (.slice (some ad) vs.length c) := b1.cell 2
  have B1 := Lib.hid b1
  have L1 := Lib.hid l1
  have NA := Lib.hid na
  have NC := Lib.hid nc
  have HX := Lib.hid hx
  have HKS := Lib.hid hks
  have HIS := Lib.hid his
  have HKL := Lib.hid hkl
  have HIL := Lib.hid hil
  have HZ1 := Lib.hid hz1
  clear b1 l1 na nb nc nd hx hks his hkl hil hz1
  go_upto_region 1 with fail
  (try rw [hw1])
  clear hw1
  go_upto_region 3 with fail
  obtain ⟨w2, hw2⟩ : ∃ w2, w1.alloc (.cells #[.int .i64 x.kind, .string ⟨x.text.toArray⟩, .bool false, .slice x.k.a L.length x.k.c, .slice x.i.a L.length x.i.c] 49) = w2 := ⟨_, rfl⟩
  have b2 : Blk w2 w1.heap.size 49 #[.int .i64 x.kind, .string ⟨x.text.toArray⟩, .bool false, .slice x.k.a L.length x.k.c, .slice x.i.a L.length x.i.c] := by rw [← hw2]; exact Blk.new _ _ _
  have l2 : Below w1.heap.size w1 w2 := by rw [← hw2]; exact (Below.refl _ _).alloc (Nat.le_refl _) _
  (try rw [hw2])
  have B2 := Lib.hid b2
  have L2 := Lib.hid l2
  clear hw2 b2 l2 c0 c1 c2' c3' c4 p2
  go_wp2_with fail
  go_loopw [3, 5] (fun s3 s5 wr => ∃ (k : Nat) (v : Value), k ≤ L.length ∧ s5 = .int .i64 k ∧ s3 = v ∧ Hid (OwnRow pairL wr w2.heap.size 43 v (L.take k)) ∧ Below w2.heap.size w2 wr)
      (fun _ s5 _ => (L.length - intOf s5).toNat)
  case atStart => exact ⟨0, _, by omega, rfl, rfl, Lib.hid OwnRow.nil, Below.refl _ _⟩
  case round =>
    obtain ⟨k, v, hk, rfl, rfl, hown, hb⟩ := hrel
    obtain ⟨Av, cv, hv, _⟩ := hown.out.form
    have hlk : (L.take k).length = k := by rw [List.length_take]; omega
    rw [hlk] at hv
    subst hv
    have HBW := Lib.hid hb
    have hbw : Below w.heap.size w wr := L1.out.trans ((L2.out.trans (hb.mono L2.out.size)).mono L1.out.size)
    have HW := Lib.hid hbw
    have b2 := B2.out.below hb B2.out.lt
    have y3 : wr.cell? ⟨w1.heap.size, 3, none⟩ = some (.slice x.k.a L.length x.k.c) := b2.cell 3
    by_cases hlt : k < L.length
    · have hkI : (k : Int) < (L.length : Int) := by omega
      have y4 : wr.cell? ⟨w1.heap.size, 4, none⟩ = some (.slice x.i.a L.length x.i.c) := b2.cell 4
      have b1 := B1.out.below (L2.out.trans (hb.mono L2.out.size)) B1.out.lt
      have p2 : wr.cell? ⟨w.heap.size, 2, none⟩ = some (.slice (some ad) vs.length c) := b1.cell 2
      have h1 : Below w1.heap.size w1 wr := L2.out.trans (hb.mono L2.out.size)
      have hk1 : k < ks.length := by rw [HKL.out]; exact hlt
      have hk2 : k < is.length := by rw [HIL.out]; exact hlt
      obtain ⟨ka, hka, kb, kc⟩ := int_at ((NA.out.more L1.out.size).below h1) hk1
      obtain ⟨ia, hia, ib, ic⟩ := int_at ((NC.out.more L1.out.size).below h1) hk2
      rw [hka] at y3
      rw [hia] at y4
      have hall := HE.out.all k hlt (by have := HKS.out; rw [this]; exact hk1) (by have := HIS.out; rw [this]; exact hk2)
      simp only [HKS.out, HIS.out] at hall
      obtain ⟨ki, hki⟩ : ∃ ki, ks[k] = ki := ⟨_, rfl⟩
      obtain ⟨ii, hii⟩ : ∃ ii, is[k] = ii := ⟨_, rfl⟩
      obtain ⟨e, he⟩ : ∃ e, L[k] = e := ⟨_, rfl⟩
      rw [hki, hii, he] at hall
      rw [hki] at kc
      rw [hii] at ic
      obtain ⟨j1, t1⟩ := text_get hall.1
      obtain ⟨j2, t2⟩ := text_get hall.2
      have v1 : ki < vs.length := by rw [HVL.out]; exact j1
      have v2 : ii < vs.length := by rw [HVL.out]; exact j2
      have u1 := (HG.out.kind ki v1 j1).2
      have u2 := (HG.out.kind ii v2 j2).2
      rw [t1] at u1
      rw [t2] at u2
      obtain ⟨ad1, hd1, _, _, g1, _⟩ := node_at (HG.out.below hbw).row v1
      obtain ⟨ad2, hd2, _, _, g2, _⟩ := node_at (HG.out.below hbw).row v2
      injection hd1 with hd1
      injection hd2 with hd2
      subst hd1
      subst hd2
      rw [u1] at g1
      rw [u2] at g2
      have v1I : (ki : Int) < (vs.length : Int) := by omega
      have v2I : (ii : Int) < (vs.length : Int) := by omega
      have hownA : OwnRow pairL (wr.alloc (.cells #[.string ⟨e.1.toArray⟩, .string ⟨e.2.toArray⟩] 43)).drew w2.heap.size 43 (.slice Av k cv) (L.take k) := (hown.out.alloc _).drew
      have hlitA : RowAt pairL (wr.alloc (.cells #[.string ⟨e.1.toArray⟩, .string ⟨e.2.toArray⟩] 43)).drew (wr.heap.size + 1) (some ⟨wr.heap.size, 0, none⟩) [e] := (RowAt.lit1 _ _ rfl _ rfl).drew
      have hlA : (L.take k).length + [e].length ≤ 1073741824 := by rw [hlk]; simp; omega
      have hbA : w2.heap.size ≤ (wr.alloc (.cells #[.string ⟨e.1.toArray⟩, .string ⟨e.2.toArray⟩] 43)).drew.heap.size := by have := hb.size; simp; omega
      have HTK : Hid (L.take k ++ [e] = L.take (k + 1)) := Lib.hid (by rw [List.take_succ_eq_append_getElem hlt, he])
      have HLK := Lib.hid hlk
      have HBA : Hid (Below w2.heap.size w2 (wr.alloc (.cells #[.string ⟨e.1.toArray⟩, .string ⟨e.2.toArray⟩] 43)).drew) := Lib.hid ((hb.alloc hb.size _).drew)
      have hz2 : w1.heap.size + 1 ≤ w2.heap.size := by have := B2.out.lt; omega
      have HBR : Hid (Below w2.heap.size wr (wr.alloc (.cells #[.string ⟨e.1.toArray⟩, .string ⟨e.2.toArray⟩] 43)).drew) := Lib.hid (((Below.refl _ _).alloc hb.size _).drew)
      have HS : Hid (∀ W, Below w2.heap.size wr W → W.cell? ⟨w.heap.size, 2, none⟩ = some (.slice (some ad) vs.length c) ∧ W.cell? ⟨w1.heap.size, 3, none⟩ = some (.slice (some ka) L.length x.k.c) ∧ W.cell? ⟨w1.heap.size, 4, none⟩ = some (.slice (some ia) L.length x.i.c) ∧
          W.cell? (ka.add k) = some (.int .i64 (ki : Int)) ∧ W.cell? (ia.add k) = some (.int .i64 (ii : Int)) ∧
          W.cell? { block := (ad.add (ki * 5)).block, off := (ad.add (ki * 5)).off + 1 } = some (.string ⟨e.1.toArray⟩) ∧ W.cell? { block := (ad.add (ii * 5)).block, off := (ad.add (ii * 5)).off + 1 } = some (.string ⟨e.2.toArray⟩)) := Lib.hid (fun W hW => by
        have hz1 := HZ1.out
        refine ⟨(hW.cell ?_).trans p2, (hW.cell ?_).trans y3, (hW.cell ?_).trans y4, (hW.cell ?_).trans kc, (hW.cell ?_).trans ic, (hW.cell ?_).trans g1, (hW.cell ?_).trans g2⟩
        all_goals (simp only [block_of_add]; omega))
      clear hb hbw b1 b2 h1 hall hki hii he t1 t2 u1 u2 hka hia hlk hz2
      go_upto_region 6 with fail
      go_region_held3 (fun w' => w'.cell? ⟨w.heap.size, 2, none⟩ = some (.slice (some ad) vs.length c) ∧ w'.cell? ⟨w1.heap.size, 3, none⟩ = some (.slice (some ka) L.length x.k.c) ∧ w'.cell? ⟨w1.heap.size, 4, none⟩ = some (.slice (some ia) L.length x.i.c) ∧
          w'.cell? (ka.add k) = some (.int .i64 (ki : Int)) ∧ w'.cell? (ia.add k) = some (.int .i64 (ii : Int)) ∧
          w'.cell? { block := (ad.add (ki * 5)).block, off := (ad.add (ki * 5)).off + 1 } = some (.string ⟨e.1.toArray⟩) ∧ w'.cell? { block := (ad.add (ii * 5)).block, off := (ad.add (ii * 5)).off + 1 } = some (.string ⟨e.2.toArray⟩))
        (first | go_keep | (exact HS.out _ (HBR.out.trans (hownA.grown_below HG2.out hbA))))
        ((refine step_append_row _ rfl (.tmp 18) (.tmp 42) 41 43 32 rfl pairT w2.heap.size (.slice Av k cv) (L.take k) rfl hownA _ _ 1 [e] rfl hlitA hlA hbA ?_; intro v' w3 hown2 hg2 hat2; have HOW2 := Lib.hid hown2; have HG2 := Lib.hid hg2; clear hown2 hg2 hat2))
      have HB3 : Hid (Below w2.heap.size w2 w3) := Lib.hid (HBA.out.trans (hownA.grown_below HG2.out hbA))
      clear y3 y4 p2 kc ic g1 g2 hlitA
      go_wp2_with fail
      go_roundw
      case rel => exact ⟨k + 1, v', by omega, by go_num, rfl, Lib.hid (by rw [← HTK.out]; exact HOW2.out), HB3.out⟩
      case measure => simp [intOf]; omega
    · have hke : k = L.length := by omega
      have hkI : ¬ ((k : Int) < (L.length : Int)) := by omega
      have HO : Hid (OwnRow pairL wr w.heap.size 43 (.slice Av k cv) L) := Lib.hid (by
        have h1 := hown.out
        rw [List.take_of_length_le (by omega)] at h1
        exact h1.lower (Nat.le_trans L1.out.size L2.out.size))
      clear hb hbw b2 hown hke hlk
      go_wp2_with fail
      (try go_ret)
      exact ⟨HW.out, _, rfl, HO.out⟩
/-- whether a graph has a section. -/
def secB (ns : List Ini.Nd) : Bool := (ns.drop 1).any (fun n => n.kind == 10)
theorem secB_no {st : Ini.St} (h : secB st.nodes = false) : Ini.NoSec st := by
  intro j nd hj hk
  have := List.any_eq_false.1 h nd (List.mem_of_getElem? (i := j) (by rw [List.getElem?_drop, Nat.add_comm]; exact hj))
  exact this (by simpa using hk)
theorem secB_yes {ns : List Ini.Nd} {k : Nat} (h0 : 0 < k) (hk : k < ns.length) (h : (ns[k]).kind = 10) : secB ns = true := by
  unfold secB
  rw [List.any_eq_true]
  refine ⟨ns[k], ?_, by simpa using h⟩
  have : (ns.drop 1)[k - 1]? = some ns[k] := by
    rw [List.getElem?_drop, show 1 + (k - 1) = k from by omega, List.getElem?_eq_getElem hk]
  exact List.mem_of_getElem? this
theorem secB_none {ns : List Ini.Nd} (h : ∀ j (hj : j < ns.length), 0 < j → (ns[j]).kind ≠ 10) : secB ns = false := by
  unfold secB
  rw [List.any_eq_false]
  intro n hn
  obtain ⟨i, hi, rfl⟩ := List.mem_iff_getElem.1 hn
  rw [List.length_drop] at hi
  have := h (1 + i) (by omega) (by omega)
  rw [List.getElem_drop]
  simpa using this
set_option maxRecDepth 100000 in
set_option maxHeartbeats 4000000 in
theorem sections_any (src : Ini.Str) (A A2 A3 : Option Addr) (c n2 c2 n3 c3 : Nat) (vs : List NV) (ns : List Ini.Nd) (w : World) (h : GAt w w.heap.size A vs ns) (hl : ns.length ≤ 1073741823) (h1 : 0 < ns.length) (r : Bool) (hr : secB ns = r) :
    Calls Tryd.prog 14 #[.agg #[.int .i64 3, .string ⟨src.toArray⟩, .slice A vs.length c, .int .i64 0, .slice A2 n2 c2, .slice A3 n3 c3]] w fun e w' => e = .returned (.bool r) ∧ Below w.heap.size w w' := by
  have HG := Lib.hid h
  have HR := Lib.hid hr
  have HVL := Lib.hid h.len
  clear h hr
  go_enter Tryd.func14, Tryd.ntmps14
  obtain ⟨w1, hw1⟩ : ∃ w1, w.alloc (.cells #[.int .i64 3, .string ⟨src.toArray⟩, .slice A vs.length c, .int .i64 0, .slice A2 n2 c2, .slice A3 n3 c3] 29) = w1 := ⟨_, rfl⟩
  have l1 : Below w.heap.size w w1 := by rw [← hw1]; exact (Below.refl _ _).alloc (Nat.le_refl _) _
  have b1 : Blk w1 w.heap.size 29 #[.int .i64 3, .string ⟨src.toArray⟩, .slice A vs.length c, .int .i64 0, .slice A2 n2 c2, .slice A3 n3 c3] := by rw [← hw1]; exact Blk.new _ _ _
  have p2 : w1.cell? ⟨w.heap.size, 2, none⟩ = some (.slice A vs.length c) := b1.cell 2
  have L1 := Lib.hid l1
  clear b1 l1
  go_upto_region 1 with fail
  (try rw [hw1])
  clear hw1
  go_wp2_with fail
  go_loop [3] (fun s3 => ∃ k : Nat, 0 < k ∧ k ≤ vs.length ∧ s3 = .int .i64 k ∧ Hid (∀ j (hj : j < ns.length), 0 < j → j < k → (ns[j]).kind ≠ 10)) (fun s3 => vs.length - (intOf s3).toNat)
  case atStart => exact ⟨1, by omega, by have := HVL.out; omega, rfl, Lib.hid (fun j hj h0 h1 => by omega)⟩
  case round =>
    obtain ⟨k, hk0, hk, rfl, hno⟩ := hrel
    by_cases hlt : k < vs.length
    · have hkI : (k : Int) < (vs.length : Int) := by omega
      have hkn : k < ns.length := by rw [← HVL.out]; exact hlt
      obtain ⟨ad, rfl, hab, c0, _⟩ := node_at (HG.out.below L1.out).row hlt
      rw [(HG.out.kind k hlt hkn).1] at c0
      obtain ⟨q, hq⟩ : ∃ q, (ns[k]).kind = q := ⟨_, rfl⟩
      rw [hq] at c0
      have HQ := Lib.hid hq
      clear hq
      by_cases h10 : q = 10
      · have e1 : (q : Int) = 10 := by omega
        have e1b : ((q : Int) == 10) = true := by simpa using e1
        have HT : Hid (r = true) := Lib.hid (by rw [← HR.out]; exact secB_yes hk0 hkn (HQ.out.trans h10))
        clear h10
        go_wp2_with fail
        go_ret
        exact ⟨by rw [HT.out]; rfl, L1.out⟩
      · have e1 : ¬ (q : Int) = 10 := by omega
        have e1b : ((q : Int) == 10) = false := by simpa using e1
        go_wp2_with fail
        go_round
        case rel => exact ⟨k + 1, by omega, by omega, by go_num, Lib.hid (fun j hj h0 hjk => by
          by_cases e : j = k
          · subst e; rw [HQ.out]; exact h10
          · exact hno.out j hj h0 (by omega))⟩
        case measure => simp [intOf]; omega
    · have hkI : ¬ ((k : Int) < (vs.length : Int)) := by omega
      have HT : Hid (r = false) := Lib.hid (by
        rw [← HR.out]
        exact secB_none (fun j hj h0 => hno.out j hj h0 (by have := HVL.out; omega)))
      go_wp2_with fail
      go_ret
      exact ⟨by rw [HT.out]; rfl, L1.out⟩
theorem eq_strs (n : Nat) (a b : Ini.Str) (w : World) : (Op.equalIn (n + 1) 9 (.string ⟨a.toArray⟩) (.string ⟨b.toArray⟩)).run Tryd.prog w = .ok (decide (a = b)) w := by
  rw [run_equalIn_string w n 9 _ _ Tryd.underlying9]
  congr 1
  by_cases h : a = b <;> simp [h]
theorem eq_pairN (n : Nat) (e f : Ini.Str × Ini.Str) (r : Bool) (hr : decide (e = f) = r) (w : World) :
    (Op.equalIn (n + 1 + 1) 43 (.agg #[.string ⟨e.1.toArray⟩, .string ⟨e.2.toArray⟩]) (.agg #[.string ⟨f.1.toArray⟩, .string ⟨f.2.toArray⟩])).run Tryd.prog w = .ok r w := by
  obtain ⟨i, hi, h1, h2, h3⟩ := info_parts (show (Tryd.prog.info? 9).map (fun i => (i.zero, i.size, i.bytes)) = some (some (.string ⟨#[]⟩), 1, 16) by kernel_rfl)
  have hc : Tryd.prog.cellsOf 9 = 1 := by kernel_rfl
  have hk : Tryd.prog.plainKey 9 = true := by kernel_rfl
  have hp0 : ∀ (x y : Value) (w : World), (part 9 #[x, y] 0).run Tryd.prog w = .ok x w := fun x y w => run_part_plain w hk rfl
  have hp1 : ∀ (x y : Value) (w : World), (part 9 #[x, y] 1).run Tryd.prog w = .ok y w := fun x y w => run_part_plain w hk rfl
  rw [run_equalIn_array w (n + 1) _ _ Tryd.underlying43 hi, hc, show List.range 2 = [0, 1] from rfl]
  simp only [Op.eqItems, Sem.run_bind, Nat.zero_mul, Nat.one_mul, hp0, Result.andThen_ok, eq_strs]
  subst hr
  obtain ⟨a, b⟩ := e
  obtain ⟨c, d⟩ := f
  by_cases h1 : a = c <;> by_cases h2 : b = d <;> simp [h1, h2, Result.andThen_ok, hp1, eq_strs]
theorem eq_pair (e f : Ini.Str × Ini.Str) (r : Bool) (hr : decide (e = f) = r) (w : World) :
    (Op.equalIn 10000 43 (.agg #[.string ⟨e.1.toArray⟩, .string ⟨e.2.toArray⟩]) (.agg #[.string ⟨f.1.toArray⟩, .string ⟨f.2.toArray⟩])).run Tryd.prog w = .ok r w := eq_pairN 9998 e f r hr w
end Go.Proofs.YtegdemnfjmaicaaDoor
