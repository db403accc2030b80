/- Walks: List. -/
import Derived.Test.YtoigpackhninoaaGreatDoorGrPush
namespace Go.Proofs.YtoigpackhninoaaGreatDoor
open Go.RowKit
/-- what List answers. -/
def ListPost (sclr : Int → Gr.Str → Bool) (l : List GArg) (w : World) (e : Ending) (w' : World) : Prop :=
  Below w.heap.size w w' ∧ (l.any (fun x => x.chk sclr != 0) = true → e = .returned (.tuple #[gZero, .int .i64 3])) ∧ (l.any (fun x => x.chk sclr != 0) = false →
    (checkG sclr (Gr.listN (l.map GArg.p)) 0 ≠ 0 → e = .returned (.tuple #[gZero, .int .i64 (checkG sclr (Gr.listN (l.map GArg.p)) 0 : Nat)])) ∧
    (checkG sclr (Gr.listN (l.map GArg.p)) 0 = 0 → ∃ A c vs, e = .returned (.tuple #[.agg #[.slice A (Gr.listN (l.map GArg.p)).length c, .int .i64 0], .int .i64 0]) ∧ GAt w' w'.heap.size A vs (Gr.listN (l.map GArg.p))))
/-- Check's answers on the arguments. -/
def ArgsOk (sclr : Int → Gr.Str → Bool) (w : World) (l : List GArg) : Prop := ∀ x ∈ l, ChkOk w x.v (x.chk sclr)
theorem any_getElem {α : Type} (f : α → Bool) (l : List α) (k : Nat) (hk : k < l.length) (h : f l[k] = true) : l.any f = true := List.any_eq_true.2 ⟨_, List.getElem_mem hk, h⟩
set_option maxRecDepth 100000 in
set_option maxHeartbeats 8000000 in
theorem list_any (T : World → Prop) (hT : Stays T) (sclr : Int → Gr.Str → Bool) (A : Option Addr) (c : Nat) (l : List GArg) (hl : l.length ≤ 100000) (hks : ∀ x ∈ l, NH (x.is.map Gr.Ni.nd)) (hsc : ∀ x ∈ l, ScalsOk T sclr (x.is.map Gr.Ni.nd)) (w : World) (hTw : T w) (h : GsAt w w.heap.size A l) (hck : ArgsOk sclr w l)
    (hck2 : l.any (fun x => x.chk sclr != 0) = false → ∀ W A c vs, T W → GAt W W.heap.size A vs (Gr.listN (l.map GArg.p)) → ChkOk W (.agg #[.slice A (Gr.listN (l.map GArg.p)).length c, .int .i64 0]) (checkG sclr (Gr.listN (l.map GArg.p)) 0)) :
    Calls Tryz.prog 19 #[.slice A l.length c] w (ListPost sclr l w) := by
  obtain ⟨w1, hw1⟩ : ∃ w1, w.alloc (.cells #[.slice none 0 0, .int .i64 0] 24) = w1 := ⟨_, rfl⟩
  obtain ⟨gb, hgb⟩ : ∃ gb, w.heap.size = gb := ⟨_, rfl⟩
  have hs1 : w1.heap.size = gb + 1 := by rw [← hw1, ← hgb]; simp
  have l1 : Below gb w w1 := by rw [← hw1, ← hgb]; exact (Below.refl _ _).alloc (Nat.le_refl _) _
  have b1 : Blk w1 gb 24 #[.slice none 0 0, .int .i64 0] := by rw [← hw1, ← hgb]; exact Blk.new _ _ _
  obtain ⟨w2, hw2⟩ : ∃ w2, w1.alloc (.cells #[.int .i64 9, .string ⟨#[]⟩, .bool false, .slice none 0 0, .slice none 0 0] 35) = w2 := ⟨_, rfl⟩
  have l2 : Below (gb + 1) w1 w2 := by rw [← hw2]; exact (Below.refl _ _).alloc (by omega) _
  have b2 : Blk w2 (gb + 1) 35 #[.int .i64 9, .string ⟨(([] : Gr.Str)).toArray⟩, .bool false, .slice none 0 0, .slice none 0 0] := by rw [← hw2, ← hs1]; exact Blk.new _ _ _
  have ht2 := Tab.one (B := gb + 1) b2 (Nat.le_refl _)
  have hl2 : Below gb w w2 := l1.trans (l2.mono (by omega))
  have HT2 := Lib.hid ht2
  have HL2 := Lib.hid hl2
  have HG2 : Hid (GsAt w2 gb A l) := Lib.hid (by have := h.below (by rw [hgb]; exact hl2); rwa [hgb] at this)
  have HC2 : Hid (ArgsOk sclr w2 l) := Lib.hid (fun x hx => (hck x hx).later (by rw [hgb]; exact hl2))
  have HB2 : Hid (Blk w2 gb 24 #[.slice none 0 0, .int .i64 0]) := Lib.hid (b1.below l2 (by omega))
  have HTW : Hid (∀ W, Below gb w W → T W) := Lib.hid (fun W hW => hT _ _ hTw (by rw [hgb]; exact hW))
  have HS2 : Hid (w2.heap.size = gb + 2) := Lib.hid (by rw [← hw2]; simp [hs1])
  have HGB := Lib.hid hgb
  have HKS := Lib.hid hks
  have HSC := Lib.hid hsc
  have HCK := Lib.hid hck2
  clear hTw h hck hck2 hks hsc l1 l2 b1 b2 ht2 hl2
  go_enter Tryz.func19, Tryz.ntmps19
  go_upto_region 1 with fail
  (try rw [hw1])
  (try rw [hgb])
  go_upto_region 2 with fail
  (try rw [hw2])
  (try rw [hs1])
  clear hw1 hgb hw2 hs1
  go_upto_region 3 with fail
  go_loopw [14] (fun s14 wr => ∃ (j : Nat), j ≤ l.length ∧ s14 = .int .i64 j ∧ Hid ((l.take j).any (fun x => x.chk sclr != 0) = false ∧ Below w2.heap.size w2 wr)) (fun s14 _ => l.length - (intOf s14).toNat)
  case atStart => exact ⟨0, by omega, rfl, Lib.hid ⟨rfl, Below.refl _ _⟩⟩
  case round =>
    obtain ⟨j, hj, rfl, HW⟩ := hrel
    obtain ⟨wq, hwq⟩ : ∃ wq, wq = wr := ⟨_, rfl⟩
    subst hwq
    have hb0 := HB2.out.below HW.out.2 HB2.out.lt
    have HB0 := Lib.hid hb0
    by_cases hlt : j < l.length
    · have hltI : (j : Int) < (l.length : Int) := by omega
      obtain ⟨ad, rfl, hadb, a0, a1⟩ := arg_at (HG2.out.below (HW.out.2.mono (by have := HS2.out; omega))).row hlt
      obtain ⟨x, hx⟩ : ∃ x, l[j] = x := ⟨_, rfl⟩
      have hxm : x ∈ l := by rw [← hx]; exact List.getElem_mem hlt
      have HTJ : Hid ((l.take (j + 1)).any (fun x => x.chk sclr != 0) = ((l.take j).any (fun x => x.chk sclr != 0) || x.chk sclr != 0)) := Lib.hid (by rw [List.take_succ_eq_append_getElem hlt, List.any_append, hx]; simp)
      have HANY : Hid (x.chk sclr ≠ 0 → l.any (fun x => x.chk sclr != 0) = true) := Lib.hid (fun h => any_getElem _ l j hlt (by rw [hx]; simpa using h))
      rw [hx] at a0 a1
      obtain ⟨ck, hck⟩ : ∃ ck, x.chk sclr = ck := ⟨_, rfl⟩
      have HCX : Hid (ChkOk wq (.agg #[.slice x.a x.is.length x.c, .int .i64 x.root]) ck) := Lib.hid (by rw [← hck]; exact (HC2.out x hxm).later HW.out.2)
      rw [hck] at HTJ HANY
      clear hx hck hb0
      obtain ⟨w6, hw6⟩ : ∃ w6, wq.alloc (.cells #[.slice x.a x.is.length x.c, .int .i64 x.root] 24) = w6 := ⟨_, rfl⟩
      obtain ⟨nb, hnb⟩ : ∃ nb, wq.heap.size = nb := ⟨_, rfl⟩
      have l6 : Below nb wq w6 := by rw [← hw6, ← hnb]; exact (Below.refl _ _).alloc (Nat.le_refl _) _
      have b6 : Blk w6 nb 24 #[.slice x.a x.is.length x.c, .int .i64 x.root] := by rw [← hw6, ← hnb]; exact Blk.new _ _ _
      have c0 : w6.cell? ⟨nb, 0, none⟩ = some (.slice x.a x.is.length x.c) := b6.cell 0
      have c1 : w6.cell? ⟨nb, 1, none⟩ = some (.int .i64 x.root) := b6.cell 1
      have hnbs : w2.heap.size ≤ nb := by rw [← hnb]; exact HW.out.2.size
      have HL6 : Hid (Below w2.heap.size w2 w6) := Lib.hid (HW.out.2.trans (l6.mono hnbs))
      have HCY : Hid (ChkOk w6 (.agg #[.slice x.a x.is.length x.c, .int .i64 x.root]) ck) := Lib.hid (HCX.out.later (by rw [hnb]; exact l6))
      have HB6 : Hid (Blk w6 gb 24 #[.slice none 0 0, .int .i64 0]) := Lib.hid (HB2.out.below HL6.out HB2.out.lt)
      clear l6 b6 hnbs
      go_upto_region 5 with fail
      (try rw [hw6])
      (try rw [hnb])
      clear hw6 hnb a0 a1
      go_wp2_with fail
      refine (HCY.out w6 (Below.refl _ _)).mono ?_
      rintro e w7 ⟨rfl, hb7⟩
      have hs62 := HL6.out.size
      have hb27 := HL6.out.trans (hb7.mono hs62)
      have HL7 := Lib.hid hb27
      have hbx := HB2.out.below hb27 HB2.out.lt
      have HBX := Lib.hid hbx
      have d0 : w7.cell? ⟨gb, 0, none⟩ = some (.slice none 0 0) := hbx.cell 0
      have d1 : w7.cell? ⟨gb, 1, none⟩ = some (.int .i64 0) := hbx.cell 1
      have df : ∀ i, w7.frozen? ⟨gb, i, none⟩ = false := hbx.frozen
      clear hb7 hb27 hbx hs62 c0 c1
      by_cases h0 : ck = 0
      · subst h0
        go_wp2_with fail
        go_roundw
        case rel => exact ⟨j + 1, by omega, by go_num, Lib.hid ⟨by rw [HTJ.out, HW.out.1]; rfl, HL7.out⟩⟩
        case measure => simp [intOf]; omega
      · have h0I : ((ck : Int) == 0) = false := by rw [beq_eq_false_iff_ne]; omega
        have HAN := Lib.hid (HANY.out h0)
        go_wp2_with fail
        refine bodyPost_ret (v := .tuple #[gZero, .int .i64 3]) (by rw [results_cell_tmp rfl]; go_simp; rfl) rfl (And.intro ?_ (And.intro (fun _ => rfl) (fun hf => ?_)))
        · rw [HGB.out]
          exact ((HL2.out.trans (HL7.out.mono (by have := HS2.out; omega))).setCell (by simp) _).setCell (by simp) _
        · rw [HAN.out] at hf; cases hf
    · have hltI : ¬ (j : Int) < (l.length : Int) := by omega
      have HALL : Hid (l.any (fun x => x.chk sclr != 0) = false) := Lib.hid (by have := HW.out.1; rwa [List.take_of_length_le (by omega)] at this)
      have HT0 : Hid (Tab (gb + 1) wq (.slice (some ⟨gb + 1, 0, none⟩) 1 1) [⟨9, [], false, SV.nil, SV.nil⟩] [⟨9, [], false, [], []⟩] ∧ Below (gb + 1) w2 wq) := Lib.hid ⟨HT2.out.later HW.out.2, HW.out.2.mono (by have := HS2.out; omega)⟩
      clear hb0 HW HB0
      go_upto_region 9 with fail
      go_loopw [4, 25] (fun s4 s25 wr => ∃ (j : Nat) (A1 : Option Addr) (n1 c1 : Nat) (vs1 : List NV), j ≤ l.length ∧ s25 = .int .i64 j ∧ s4 = .slice A1 n1 c1 ∧ Hid (Tab (gb + 1) wr (.slice A1 n1 c1) vs1 (Gr.listN ((l.take j).map GArg.p)) ∧ Below (gb + 1) w2 wr ∧ (Gr.listN ((l.take j).map GArg.p)).length ≤ 1 + j * 4096 ∧ 0 < (Gr.listN ((l.take j).map GArg.p)).length ∧ ∀ m, (Gr.listN ((l.take j).map GArg.p)).head? = some m → m.items.length ≤ j)) (fun _ s25 _ => l.length - (intOf s25).toNat)
      case atStart => exact ⟨0, _, _, _, _, by omega, rfl, rfl, Lib.hid ⟨HT0.out.1, HT0.out.2, by simp [Gr.listN], by simp [Gr.listN], by simp [Gr.listN]⟩⟩
      case round =>
        clear hlt hltI hj
        clear HT0
        obtain ⟨j, A1, n1, c1, vs1, hj, rfl, rfl, HV⟩ := hrel
        obtain ⟨wp, hwp⟩ : ∃ wp, wp = wr := ⟨_, rfl⟩
        subst hwp
        have hbk : Below gb w wp := HL2.out.trans (HV.out.2.1.mono (by omega))
        have HBK := Lib.hid hbk
        have HB0 := Lib.hid (HB2.out.below HV.out.2.1 (by omega))
        clear hbk
        by_cases hlt : j < l.length
        · have hltI : (j : Int) < (l.length : Int) := by omega
          have HGX := Lib.hid (HG2.out.below (HV.out.2.1.mono (by omega)))
          obtain ⟨ad, rfl, hadb, a0, a1⟩ := arg_at HGX.out.row hlt
          obtain ⟨x, hx⟩ : ∃ x, l[j] = x := ⟨_, rfl⟩
          have hxm : x ∈ l := by rw [← hx]; exact List.getElem_mem hlt
          rw [hx] at a0 a1
          have hck0 : x.chk sclr = 0 := by
            have := HALL.out
            rw [List.any_eq_false] at this
            have := this x hxm
            simpa using this
          obtain ⟨hn1, hn2, hin⟩ := chk_ok hck0
          obtain ⟨r, hr, hrl, hr0, hrf⟩ := ind_ok hin
          rw [hr] at a1
          obtain ⟨ns, hns⟩ : ∃ ns, Gr.listN ((l.take j).map GArg.p) = ns := ⟨_, rfl⟩
          obtain ⟨gs, hgs⟩ : ∃ gs, x.is.map Gr.Ni.nd = gs := ⟨_, rfl⟩
          have hgl : x.is.length = gs.length := by rw [← hgs]; simp
          have HSTEP : Hid (Gr.listN ((l.take (j + 1)).map GArg.p) = Gr.push0 (r + ns.length) (ns ++ gs.map (Gr.shN ns.length))) := Lib.hid (by
            rw [List.take_succ_eq_append_getElem hlt, hx, List.map_append]
            unfold Gr.listN at hns ⊢
            rw [List.foldl_append, hns]
            show Gr.lstep ns x.p = _
            unfold Gr.lstep GArg.p
            rw [hgs, hr, Int.toNat_natCast])
          have hgat := (HGX.out.each x hxm).toG hr0
          rw [hgs] at hgat hrf
          have hnh := HKS.out x hxm
          rw [hgs] at hnh
          rw [hns] at HV
          rw [hgl] at a0
          have hVL := HV.out.2.2.1
          have hV0 := HV.out.2.2.2.1
          have HVM := Lib.hid HV.out.2.2.2.2
          obtain ⟨w6, hw6⟩ : ∃ w6, wp.alloc (.cells #[.slice x.a gs.length x.c, .int .i64 r] 24) = w6 := ⟨_, rfl⟩
          obtain ⟨nb, hnb⟩ : ∃ nb, wp.heap.size = nb := ⟨_, rfl⟩
          have l6 : Below nb wp w6 := by rw [← hw6, ← hnb]; exact (Below.refl _ _).alloc (Nat.le_refl _) _
          have b6 : Blk w6 nb 24 #[.slice x.a gs.length x.c, .int .i64 r] := by rw [← hw6, ← hnb]; exact Blk.new _ _ _
          have z0 : w6.cell? ⟨nb, 0, none⟩ = some (.slice x.a gs.length x.c) := b6.cell 0
          have z1 : w6.cell? ⟨nb, 1, none⟩ = some (.int .i64 r) := b6.cell 1
          have hnbg : gb + 2 ≤ nb := by rw [← hnb]; have := HS2.out; have := HV.out.2.1.size; omega
          have hap := appended_any (gb + 1) x.a x.c r x.vs gs (.slice A1 n1 c1) vs1 ns (by omega) (by omega) hnh hrf (by omega) w6 ((hgat.below (l6.mono (by omega))).more (by omega)) (HV.out.1.later (by rw [hnb]; exact l6)) (by have := b6.lt; omega)
          have HAP := Lib.hid hap
          have HL6 := Lib.hid (l6.mono (show gb + 1 ≤ nb by omega))
          have HLE : Hid (ns.length ≤ 1 + j * 4096 ∧ gs.length ≤ 4096 ∧ 0 < ns.length ∧ gb + 2 ≤ w6.heap.size) := Lib.hid ⟨hVL, by omega, hV0, by have := b6.lt; omega⟩
          clear l6 b6 hap hgat hnh hrf hn1 hn2 hin hrl hr0 hck0 hgl hgs hns hx hxm hr hnbg hVL hV0
          go_upto_region 12 with fail
          (try rw [hw6])
          (try rw [hnb])
          clear hw6 hnb a0 a1
          go_wp2_with fail
          refine HAP.out.mono ?_
          rintro e w7 ⟨v7, vs7, rfl, ht7, hb7⟩
          have hne7 : vs7 ≠ [] := by
            intro e
            have := ht7.rows.len
            rw [e] at this
            have := HLE.out.2.2.1
            simp at *
            omega
          obtain ⟨g, cap, rest, hv7, hcap, hbk7, hbg, _⟩ := ht7.row.row hne7
          obtain ⟨nn, hnn⟩ : ∃ nn, vs7.length = nn := ⟨_, rfl⟩
          rw [hnn] at hv7 hcap
          subst hv7
          obtain ⟨x0, vl, rfl⟩ : ∃ x0 vl, vs7 = x0 :: vl := by cases vs7 with
            | nil => exact absurd rfl hne7
            | cons a b => exact ⟨a, b, rfl⟩
          have hlen7 := ht7.rows.len
          obtain ⟨m, nl, hml⟩ : ∃ m nl, ns ++ gs.map (Gr.shN ns.length) = m :: nl := by
            cases h : ns ++ gs.map (Gr.shN ns.length) with
            | nil => rw [h] at hlen7; cases hlen7
            | cons a b => exact ⟨a, b, rfl⟩
          have hnn0 : 0 < nn := by rw [← hnn]; simp
          have hnn0I : (0 : Int) < (nn : Int) := by omega
          have HNN : Hid (nn = ns.length + gs.length) := Lib.hid (by rw [← hnn, hlen7]; simp)
          rw [hml] at ht7
          have HML := Lib.hid hml
          have HT7 := Lib.hid ht7
          have HBK7 := Lib.hid hbk7
          have HBG := Lib.hid hbg
          have HB7 := Lib.hid hb7
          have HCAP := Lib.hid hcap
          have k4 : w7.cell? ⟨g, 4, none⟩ = some (.slice x0.i.a x0.i.n x0.i.c) := hbk7.cell 4
          have hi0 : OwnRow intL w7 (gb + 1) 3 (.slice x0.i.a x0.i.n x0.i.c) m.items := ht7.rows.own 0 true
          have HI0 := Lib.hid hi0
          have HI0L : Hid (m.items.length ≤ j) := Lib.hid (HVM.out m (by
            have h2 := HML.out
            cases hns : ns with
            | nil => have := HLE.out.2.2.1; rw [hns] at this; simp at this
            | cons a b => rw [hns] at h2; simp at h2; simp [h2.1]))
          obtain ⟨k, hk⟩ : ∃ k, r + ns.length = k := ⟨_, rfl⟩
          have hkI : (r : Int) + (ns.length : Int) = (k : Int) := by omega
          rw [hk] at HSTEP
          rw [hkI]
          clear ht7 hbk7 hbg hb7 hml hlen7 hne7 hi0 hcap hnn hk hkI z0 z1
          go_upto_region 13 with fail
          go_wp2_with (at_builtin; go_must (refine wpList_append_row _ rfl (.tmp 39) (.tmp 41) 33 3 8 rfl intT (gb + 1) (.slice x0.i.a x0.i.n x0.i.c) m.items rfl (HI0.out.alloc _) _ _ 1 [k] rfl (RowAt.lit1 _ _ rfl _ ?_) ?_ ?_ ?_))
          any_goals (first | rfl | (have := HI0L.out; have := HB7.out.size; have := HLE.out.2.2.2; simp; omega))
          intro v8 w8 hown hg hat
          obtain ⟨A8, c8, hv8, _⟩ := hown.form
          obtain ⟨q, hq⟩ : ∃ q, (m.items ++ [k]).length = q := ⟨_, rfl⟩
          rw [hq] at hv8
          subst hv8
          clear hq
          obtain ⟨i, hi, hT8, hK8, hB8⟩ := (HT7.out.later ((Below.refl w7.heap.size w7).alloc (Nat.le_refl _) _)).push hown hg (by rw [World.size_alloc]; exact hat)
          have hkN : KeptT 35 w7 w8 := (KeptT.alloc _ _ _).trans (KeptT.grown hg (HI0.out.alloc _) (by decide))
          have hb8 := hkN _ _ HBK7.out
          have k40 : w8.cell? ⟨g, 4, none⟩ = some (.slice x0.i.a x0.i.n x0.i.c) := hb8.cell 4
          have k4f : ∀ i, w8.frozen? ⟨g, i, none⟩ = false := hb8.frozen
          obtain ⟨w9, hw9⟩ : ∃ w9, w8.setCell ⟨g, 4, none⟩ (.slice A8 q c8) = w9 := ⟨_, rfl⟩
          rw [hw9] at hT8 hB8
          have hb79 := hB8 (by rw [World.size_alloc]; have := HB7.out.size; have := HLE.out.2.2.2; omega)
          have hb29 : Below (gb + 1) w2 w9 := ((((HV.out.2.1.trans HL6.out).trans HB7.out).alloc (by have := HB7.out.size; have := HLE.out.2.2.2; omega) _).trans hb79)
          have HNX : Hid (Tab (gb + 1) w9 (.slice (some ⟨g, 0, none⟩) nn cap) ({ x0 with i := i } :: vl) (Gr.listN ((l.take (j + 1)).map GArg.p)) ∧ Below (gb + 1) w2 w9 ∧ (Gr.listN ((l.take (j + 1)).map GArg.p)).length ≤ 1 + (j + 1) * 4096 ∧ 0 < (Gr.listN ((l.take (j + 1)).map GArg.p)).length ∧ ∀ m, (Gr.listN ((l.take (j + 1)).map GArg.p)).head? = some m → m.items.length ≤ j + 1) := Lib.hid (by
            rw [HSTEP.out, HML.out]
            have hml := congrArg List.length HML.out
            simp only [List.length_append, List.length_map, List.length_cons] at hml
            have h1 := HLE.out
            refine ⟨hT8, hb29, ?_, ?_, ?_⟩
            · simp only [Gr.push0, List.length_cons]; omega
            · simp [Gr.push0]
            · intro m' hm'
              simp [Gr.push0] at hm'
              subst hm'
              simp
              exact HI0L.out)
          clear hown hg hat hi hT8 hK8 hB8 hkN hb8 hb79 hb29 k4
          go_wp2_with fail
          (try rw [hw9])
          (try clear hw9)
          go_roundw
          case rel => exact ⟨j + 1, some ⟨g, 0, none⟩, nn, cap, _, by omega, by go_num, rfl, HNX⟩
          case measure => simp [intOf]; omega
        · have hltI : ¬ (j : Int) < (l.length : Int) := by omega
          have hje : j = l.length := by omega
          have htk : l.take j = l := List.take_of_length_le (by omega)
          rw [htk] at HV
          obtain ⟨ns, hns⟩ : ∃ ns, Gr.listN (l.map GArg.p) = ns := ⟨_, rfl⟩
          rw [hns] at HV
          obtain ⟨A9, c9, hv9, hg9⟩ := HV.out.1.at_
          injection hv9 with e1 e2 e3
          subst e1 e2 e3
          obtain ⟨ck, hck⟩ : ∃ ck, checkG sclr ns 0 = ck := ⟨_, rfl⟩
          have HCF := Lib.hid (HCK.out HALL.out)
          rw [hns, hck] at HCF
          have HNS : Hid (Gr.listN (l.map GArg.p) = ns ∧ checkG sclr ns 0 = ck) := Lib.hid ⟨hns, hck⟩
          have hc0 : ChkOk wp (.agg #[.slice A1 ns.length c1, .int .i64 0]) ck := HCF.out wp A1 c1 vs1 (HTW.out wp HBK.out) hg9
          have hcd := checked_any A1 ns.length c1 0 ck wp hc0
          unfold gZero at hcd
          have HCD := Lib.hid hcd
          have HG9 := Lib.hid hg9
          clear hje htk hns hck hc0 hcd hg9
          go_upto_region 15 with fail
          go_wp2_with fail
          refine HCD.out.mono ?_
          rintro e w7 ⟨rfl, hb7⟩
          have hbx := HB0.out.below hb7 HB0.out.lt
          have hb07 := HBK.out.trans (hb7.mono (by have := HB0.out.lt; omega))
          have HL7 := Lib.hid hb07
          have HBX := Lib.hid hbx
          have HT7 := Lib.hid (HV.out.1.later hb7)
          have d0 : w7.cell? ⟨gb, 0, none⟩ = some (.slice none 0 0) := hbx.cell 0
          have d1 : w7.cell? ⟨gb, 1, none⟩ = some (.int .i64 0) := hbx.cell 1
          have df : ∀ i, w7.frozen? ⟨gb, i, none⟩ = false := hbx.frozen
          clear hb7 hbx hb07
          by_cases h0 : ck = 0
          · subst h0
            go_wp2_with fail
            have hkk : ∀ t, t ≠ 24 → KeptT t w7 ((w7.setCell ⟨gb, 0, none⟩ (.slice A1 ns.length c1)).setCell ⟨gb, 1, none⟩ (.int .i64 0)) := fun t ht => (KeptT.setCell (p := ⟨gb, 0, none⟩) HBX.out ht _).trans (KeptT.setCell (p := ⟨gb, 1, none⟩) (HBX.out.set_ 0 _) ht _)
            have hb3 := (HBX.out.set_ 0 (.slice A1 ns.length c1)).set_ 1 (.int .i64 0)
            have e0 := hb3.cell 0
            have e1 := hb3.cell 1
            have htt : Tab (gb + 1) ((w7.setCell ⟨gb, 0, none⟩ (.slice A1 ns.length c1)).setCell ⟨gb, 1, none⟩ (.int .i64 0)) (.slice A1 ns.length c1) vs1 ns := ⟨HT7.out.row.kept (hkk _ (by decide)), HT7.out.rows.kept (hkk _ (by decide))⟩
            obtain ⟨A9, c9, hv9, hg9⟩ := htt.at_
            injection hv9 with f1 f2 f3
            subst f1 f3
            refine bodyPost_ret (v := .tuple #[.agg #[.slice A1 ns.length c1, .int .i64 0], .int .i64 0]) (by rw [results_cell_tmp rfl]; go_simp) rfl (And.intro ?_ (And.intro (fun hf => ?_) (fun _ => And.intro (fun hf => ?_) (fun _ => ?_))))
            · rw [HGB.out]
              exact (HL7.out.setCell (by simp) _).setCell (by simp) _
            · rw [HALL.out] at hf; cases hf
            · rw [HNS.out.1, HNS.out.2] at hf; exact absurd rfl hf
            · rw [HNS.out.1]
              exact ⟨A1, c1, vs1, rfl, hg9⟩
          · have h0I : ((ck : Int) == 0) = false := by rw [beq_eq_false_iff_ne]; omega
            go_wp2_with fail
            have hb3 := (HBX.out.set_ 0 (.slice none 0 0)).set_ 1 (.int .i64 0)
            have e0 := hb3.cell 0
            have e1 := hb3.cell 1
            refine bodyPost_ret (v := .tuple #[gZero, .int .i64 ck]) (by rw [results_cell_tmp rfl]; go_simp; rfl) rfl (And.intro ?_ (And.intro (fun hf => ?_) (fun _ => And.intro (fun _ => ?_) (fun hf => ?_))))
            · rw [HGB.out]
              exact (HL7.out.setCell (by simp) _).setCell (by simp) _
            · rw [HALL.out] at hf; cases hf
            · rw [HNS.out.1, HNS.out.2]
            · rw [HNS.out.1, HNS.out.2] at hf; exact absurd hf h0
end Go.Proofs.YtoigpackhninoaaGreatDoor
