/- Walks of the reference: Invert. -/
import Derived.Test.YtnnicjbceadnbaaRef3
import Derived.Test.YtnnicjbceadnbaaWalk4
import Derived.Test.YtnnicjbceadnbaaRef4
import Derived.Test.YtnnicjbceadnbaaPlainH
import Derived.StillTailTactics
namespace Go.Proofs.Ytnnicjbceadnbaa
open Go.RowKit
open Sp (Ed Ce chk)
/-- a row of ints in block g. -/
def IRow (w : World) (g : Nat) (l : List Int) : Prop := w.heap[g]? = some (.cells (l.map (fun i => Value.int .i64 i)).toArray 3 (0, 0))
theorem IRow.cell {w : World} {g : Nat} {l : List Int} (h : IRow w g l) (k : Nat) (hk : k < l.length) : w.cell? ⟨g, k, none⟩ = some (.int .i64 l[k]) := by
  rw [cell_of_row w g _ _ _ _ h]
  simp [List.getElem?_eq_getElem hk]
theorem IRow.frozen {w : World} {g : Nat} {l : List Int} (h : IRow w g l) (i : Nat) : w.frozen? ⟨g, i, none⟩ = false := by
  unfold IRow at h; simp [World.frozen?, h]
theorem IRow.lt {w : World} {g : Nat} {l : List Int} (h : IRow w g l) : g < w.heap.size := (Array.getElem?_eq_some_iff.1 h).1
theorem IRow.set_ {w : World} {g : Nat} {l : List Int} (h : IRow w g l) (k : Nat) (x : Int) : IRow (w.setCell ⟨g, k, none⟩ (.int .i64 x)) g (l.set k x) := by
  have h1 := (Blk.set_ (w := w) (g := g) (t := 3) h k (.int .i64 x))
  unfold IRow
  unfold Blk at h1
  rw [h1]
  congr 2
  apply Array.ext'
  simp only [Array.toList_setIfInBounds]
  rw [List.map_set]
theorem IRow.below {w w' : World} {g : Nat} {l : List Int} {B : Nat} (h : IRow w g l) (hb : Below B w w') (hg : g < B) : IRow w' g l := (hb.block g hg).trans h
theorem IRow.alloc {w : World} {g : Nat} {l : List Int} (h : IRow w g l) (o : Obj) : IRow (w.alloc o) g l := (Below.heap_alloc w o g h.lt).trans h
theorem IRow.grown {w w' : World} {g : Nat} {l : List Int} {row : Option Nat} (h : IRow w g l) (hb : w.grownBy w' row) (hg : some g ≠ row) : IRow w' g l := (hb.block g h.lt hg).trans h
/-- the source's bytes with their places. -/
def Sp.zipC (at_ : List Int) (src : List UInt8) : List Ce := List.zipWith (fun o b => ⟨o, b⟩) at_ src
theorem zip_take (at_ : List Int) (src : List UInt8) (k : Nat) (h : k < at_.length) (h2 : k < src.length) : Sp.zipC (at_.take (k + 1)) (src.take (k + 1)) = Sp.zipC (at_.take k) (src.take k) ++ [⟨at_[k], src[k]⟩] := by
  unfold Sp.zipC
  rw [List.take_succ_eq_append_getElem h, List.take_succ_eq_append_getElem h2, List.zipWith_append (by simp; omega)]
  rfl
theorem OwnEds.lower {w : World} {base base' : Nat} {E : TypeId} {v : Value} {l : List Ed} (h : OwnEds w base E v l) (hb : base' ≤ base) : OwnEds w base' E v l := by
  refine ⟨h.1, ?_⟩
  rcases h.2 with hn | ⟨g, cap, cur, rfl, hbg, rest⟩
  · exact .inl hn
  · exact .inr ⟨g, cap, cur, rfl, Nat.le_trans hb hbg, rest⟩
theorem str_size3 (l : List UInt8) : (⟨l.toArray⟩ : ByteArray).size = l.length := by simp [ByteArray.size]
theorem ix_take (l : List Ce) (at_ : List Int) (k : Nat) (hk : k < l.length) : Sp.ixGo 0 (l.take (k + 1)) at_ = (if l[k].o < 0 then Sp.ixGo 0 (l.take k) at_ else (Sp.ixGo 0 (l.take k) at_).set l[k].o.toNat (k : Int)) := by
  rw [List.take_succ_eq_append_getElem hk, Sp.ix_snoc]
  split
  · rfl
  · congr 1; simp; omega
theorem fill_step (n k : Nat) (h : k < n) : (List.replicate k (-1 : Int) ++ List.replicate (n - k) 0).set k (-1) = List.replicate (k + 1) (-1) ++ List.replicate (n - (k + 1)) 0 := by
  rw [List.set_append_right _ _ (by simp), List.length_replicate, Nat.sub_self, show n - k = (n - (k + 1)) + 1 from by omega, List.replicate_succ, List.set_cons_zero, List.replicate_succ', List.append_assoc]
  rfl
theorem info3 : (Try.prog.info? 3).map (fun i => (i.zero, i.size, i.bytes)) = some (some (.int .i64 0), 1, 8) := by kernel_rfl
set_option maxHeartbeats 4000000 in
theorem rinvert_any (src : List UInt8) (l : List Ed) (A : Option Addr) (c : Nat) (hs : src.length ≤ 1048576) (hll : l.length ≤ 1048576) (hv : chk src.length 0 (-1) l = 0)
    (hlen : l.length * src.length + Sp.txt l + src.length ≤ 134217728) (w : World) (hr : EdsAt w w.heap.size A l)
    (hco : ∀ x ∈ Sp.spl (Sp.cells src) l, x.o < src.length) (hat : (Sp.ixGo 0 (Sp.spl (Sp.cells src) l) (List.replicate src.length (-1))).all (fun i => decide (i ≤ 1152921504606846976)) = true)  :
    Calls Try.prog 20 #[.string ⟨src.toArray⟩, .slice A l.length c] w fun e w' => ∃ v, e = .returned v ∧
      OwnEds w' w.heap.size 48 v (Sp.eds (Sp.spl (Sp.cells src) l).length (Sp.zipC (Sp.ixGo 0 (Sp.spl (Sp.cells src) l) (List.replicate src.length (-1))) src)) ∧ Below w.heap.size w w' := by
  have HV := Lib.hid hv
  have HCO := Lib.hid hco
  have HAT := Lib.hid hat
  clear hv hco hat
  have HCL := Lib.hid (Sp.cells_len src)
  obtain ⟨i3, hi3, hz3, hs3, hby3⟩ := info_parts info3
  have hmk := fun W => run_make_rowN (P := Try.prog) 64 3 i3 _ Try.underlying64 hi3 hz3 .i64 .i64 src.length src.length (Nat.le_refl _) (by rw [hby3]; omega) (by omega) W
  rw [hs3] at hmk
  simp only [Value.cells, madeCells_one] at hmk
  go_enter Try.func20, Try.ntmps20
  go_wp2_with fail
  refine (rcells_any src (by omega) _).mono ?_
  rintro e w5 ⟨v5, rfl, own5, hb5⟩
  have hz5 := hb5.size
  have hr5 := hr.below hb5
  obtain ⟨A5, c5, rfl, hc5, hcc⟩ := own5.form'
  clear own5
  go_wp2_with fail
  refine (rsplice_any (Sp.cells src) l A5 A c5 c (by rw [HCL.out]; exact HV.out) hcc ?_ (by omega) _ hc5 (hr5.more (by omega))).mono ?_
  · rw [HCL.out]; omega
  rintro e w6 ⟨v6, rfl, own6, hb6⟩
  have hz6 := hb6.size
  obtain ⟨A6, c6, rfl, hr6⟩ := own6.form
  have hlen6 : (Sp.spl (Sp.cells src) l).length ≤ 134217728 := by
    have h1 := Sp.splTo_len (Sp.cells src) 0 l
    rw [HCL.out] at h1
    have h2 : ((Sp.cells src).drop (Sp.atTo 0 l).toNat).length ≤ src.length := by rw [List.length_drop, HCL.out]; omega
    unfold Sp.spl
    rw [List.length_append]
    omega
  have hbb6 : Below w.heap.size w w6 := hb5.trans (hb6.mono (by omega))
  clear own6 hb5 hb6 hc5 hr5
  generalize hcs : Sp.spl (Sp.cells src) l = cs at *
  have HCS := Lib.hid hcs
  clear hcs
  go_wp2_with fail
  obtain ⟨G, hG⟩ : ∃ G : Nat, G = w6.heap.size := ⟨_, rfl⟩
  have hrow : IRow (w6.alloc (.cells (Array.replicate src.length (Value.int .i64 0)) 3)) G (List.replicate 0 (-1) ++ List.replicate (src.length - 0) 0) := by
    unfold IRow
    rw [hG, heap_alloc_new]; simp
  have hbW : Below w.heap.size w (w6.alloc (.cells (Array.replicate src.length (Value.int .i64 0)) 3)) := hbb6.alloc (by omega) _
  have hr7 : RowAt ceL (w6.alloc (.cells (Array.replicate src.length (Value.int .i64 0)) 3)) G A6 cs := by rw [hG]; exact hr6.alloc (Nat.le_refl _) _
  have hwG : w.heap.size ≤ G := by omega
  rw [← hG]
  clear hbb6 hr6 hG hz6 hz5
  generalize w6.alloc (.cells (Array.replicate src.length (Value.int .i64 0)) 3) = W1 at *
  go_loopw [7] (fun i wr => ∃ k : Nat, k ≤ src.length ∧ i = .int .i64 k ∧ IRow wr G (List.replicate k (-1) ++ List.replicate (src.length - k) 0) ∧ Below w.heap.size w wr ∧ RowAt ceL wr G A6 cs) (fun i _ => (src.length - intOf i).toNat)
  case atStart => exact ⟨0, by omega, rfl, hrow, hbW, hr7⟩
  case round =>
    clear hrow hbW hr7
    obtain ⟨k, hk, rfl, hrow, hb, hrc⟩ := hrel
    by_cases hlt : k < src.length
    · have hfz := hrow.frozen k
      have hcell := hrow.cell k (by simp; omega)
      have hset := hrow.set_ k (-1)
      rw [fill_step _ _ hlt] at hset
      have HR := Lib.hid hrow
      clear hrow
      go_wp2_with fail
      go_roundw
      case rel => exact ⟨k + 1, by omega, by go_num, hset, hb.setCell (p := ⟨G, k, none⟩) hwG _, Reads.setCell hrc (p := ⟨G, k, none⟩) (Nat.le_refl _) _⟩
      case measure => simp [intOf] <;> omega
    · obtain rfl : k = src.length := by omega
      rw [Nat.sub_self, List.replicate_zero, List.append_nil] at hrow
      go_wp2_with fail
      go_loopw [8] (fun i wr => ∃ k : Nat, k ≤ cs.length ∧ i = .int .i64 k ∧ IRow wr G (Sp.ixGo 0 (cs.take k) (List.replicate src.length (-1))) ∧ Below w.heap.size w wr ∧ RowAt ceL wr G A6 cs) (fun i _ => (cs.length - intOf i).toNat)
      case atStart => exact ⟨0, by omega, rfl, hrow, hb, hrc⟩
      case round =>
        clear hrow hb hrc
        obtain ⟨k, hk, rfl, hrow, hb, hrc⟩ := hrel
        by_cases hlt : k < cs.length
        · obtain ⟨ad, rfl, hab, c0, c1⟩ := ceGet hrc hlt
          have hst := ix_take cs (List.replicate src.length (-1)) k hlt
          have hxo := HCO.out cs[k] (List.getElem_mem hlt)
          have hil := Sp.ix_len 0 (cs.take k) (List.replicate src.length (-1))
          rw [List.length_replicate] at hil
          generalize cs[k] = x at *
          have HST := Lib.hid hst
          clear hst
          by_cases hneg : x.o < 0
          · have HV2 : Hid (Sp.ixGo 0 (cs.take (k + 1)) (List.replicate src.length (-1)) = Sp.ixGo 0 (cs.take k) (List.replicate src.length (-1))) := Lib.hid (by rw [HST.out, if_pos hneg])
            go_wp2_with fail
            go_roundw
            case rel => exact ⟨k + 1, by omega, by go_num, by rw [HV2.out]; exact hrow, hb, hrc⟩
            case measure => simp [intOf] <;> omega
          · have HV2 : Hid (Sp.ixGo 0 (cs.take (k + 1)) (List.replicate src.length (-1)) = (Sp.ixGo 0 (cs.take k) (List.replicate src.length (-1))).set x.o.toNat (k : Int)) := Lib.hid (by rw [HST.out, if_neg hneg])
            generalize Sp.ixGo 0 (cs.take k) (List.replicate src.length (-1)) = at_ at *
            obtain ⟨o, ho⟩ : ∃ o : Nat, (o : Int) = x.o := ⟨x.o.toNat, by omega⟩
            rw [← ho] at HV2 hxo hneg c0
            clear ho HST
            have hto : ((o : Nat) : Int).toNat = o := by omega
            rw [hto] at HV2
            have hol : o < src.length := by omega
            have hfz := hrow.frozen o
            have hcell := hrow.cell o (by omega)
            have hset := hrow.set_ o (k : Int)
            have HR := Lib.hid hrow
            clear hrow
            go_wp2_with fail
            go_roundw
            case rel => exact ⟨k + 1, by omega, by go_num, by rw [HV2.out]; exact hset, hb.setCell (p := ⟨G, o, none⟩) hwG _, Reads.setCell hrc (p := ⟨G, o, none⟩) (Nat.le_refl _) _⟩
            case measure => simp [intOf] <;> omega
        · obtain rfl : k = cs.length := by omega
          rw [List.take_length] at hrow
          have hil := Sp.ix_len 0 cs (List.replicate src.length (-1))
          rw [List.length_replicate] at hil
          generalize hat_ : Sp.ixGo 0 cs (List.replicate src.length (-1)) = at_ at *
          have HATE := Lib.hid hat_
          clear hat_
          go_wp2_with fail
          obtain ⟨W2, hW2⟩ : ∃ W2 : World, W2 = wr := ⟨_, rfl⟩
          subst hW2
          have hzz := hb.size
          have hGl := hrow.lt
          go_loopw [9, 10] (fun v i wr => ∃ k : Nat, k ≤ src.length ∧ i = .int .i64 k ∧ OwnRow ceL wr W2.heap.size 59 v (Sp.zipC (at_.take k) (src.take k)) ∧ Below W2.heap.size W2 wr) (fun _ i _ => (src.length - intOf i).toNat)
          case atStart => exact ⟨0, by omega, rfl, OwnRow.nil, Below.refl _ _⟩
          case round =>
            obtain ⟨k, hk, rfl, hown, hb3⟩ := hrel
            have hz3' := hb3.size
            have hrow3 := hrow.below hb3 hGl
            by_cases hlt : k < src.length
            · have hsn := zip_take at_ src k (by omega) hlt
              have hln : (Sp.zipC (at_.take k) (src.take k)).length ≤ k := by simp [Sp.zipC]; omega
              have hcell := hrow3.cell k (by omega)
              generalize hbo : at_[k]'(by omega) = bo at *
              have HS := Lib.hid hsn
              have HL := Lib.hid hln
              clear hsn hln
              go_wp2_with fail
              have hownA : OwnRow ceL (wr.alloc (.cells #[.int .i64 bo, .int .u8 ((⟨src.toArray⟩ : ByteArray)[k]'(by rw [str_size3]; exact hlt)).toNat] 59)).drew W2.heap.size 59 _ _ := OwnRow.drewN (hown.alloc _) 1
              have hlitA : RowAt ceL (wr.alloc (.cells #[.int .i64 bo, .int .u8 ((⟨src.toArray⟩ : ByteArray)[k]'(by rw [str_size3]; exact hlt)).toNat] 59)).drew (wr.heap.size + 1) (some ⟨wr.heap.size, 0, none⟩) [⟨bo, src[k]⟩] := RowAt.drewN (RowAt.lit1 (L := ceL) (⟨bo, src[k]⟩ : Ce) #[.int .i64 bo, .int .u8 ((⟨src.toArray⟩ : ByteArray)[k]'(by rw [str_size3]; exact hlt)).toNat] rfl _ rfl) 1
              have hbA : Below W2.heap.size W2 (wr.alloc (.cells #[.int .i64 bo, .int .u8 ((⟨src.toArray⟩ : ByteArray)[k]'(by rw [str_size3]; exact hlt)).toNat] 59)).drew := (hb3.alloc hz3' _).drew
              have hlA : (Sp.zipC (at_.take k) (src.take k)).length + [(⟨bo, src[k]⟩ : Ce)].length ≤ 1073741824 := by have := HL.out; simp only [List.length_singleton]; omega
              go_region_law (refine step_append_row _ rfl (.tmp 53) (.tmp 62) 31 59 16 rfl ceT W2.heap.size _ _ rfl hownA _ _ 1 [⟨bo, src[k]⟩] rfl hlitA hlA hbA.size ?_; intro v1 w1 hown1 hg1 hat1)
              all_goals have hB := hbA.trans (hownA.grown_below hg1 hbA.size)
              all_goals go_wp2_with fail
              all_goals exact ⟨⟨k + 1, by omega, by go_num, by rw [HS.out]; exact hown1, hB⟩, by simp [intOf] <;> omega⟩
            · obtain rfl : k = src.length := by omega
              rw [List.take_length, List.take_of_length_le (by omega)] at hown
              obtain ⟨A7, c7, rfl, hr8⟩ := hown.form
              have hzl : (Sp.zipC at_ src).length = src.length := by simp [Sp.zipC]; omega
              clear hown
              go_wp2_with fail
              have hall := HAT.out
              have hzl2 : ∀ x ∈ Sp.zipC at_ src, x.o ≤ 1152921504606846976 := by
                intro x hx
                obtain ⟨i, hi, rfl⟩ := List.mem_iff_getElem.1 hx
                have hi2 : i < at_.length := by rw [hzl] at hi; omega
                have := List.all_eq_true.1 hall at_[i] (List.getElem_mem hi2)
                simp only [Sp.zipC, List.getElem_zipWith]
                exact of_decide_eq_true this
              have hred := redits_any (cs.length : Int) (Sp.zipC at_ src) A7 c7 (by omega) (by omega) (by omega) hzl2 wr hr8
              rw [hzl] at hred
              refine hred.mono ?_
              rintro e w9 ⟨v9, rfl, own9, hb9⟩
              go_wp2_with fail
              go_ret
              rw [HCS.out, HATE.out]
              exact ⟨v9, rfl, OwnEds.lower (base := wr.heap.size) own9 (by omega), (hb.trans (hb3.mono (by omega))).trans (hb9.mono (by omega))⟩
end Go.Proofs.Ytnnicjbceadnbaa
