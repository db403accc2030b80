/- Walks: assemble. -/
import Derived.Test.YtnnicjbceadnbaaWords
import Derived.Test.YtnnicjbceadnbaaCopy
namespace Go.Proofs.Ytnnicjbceadnbaa
open Go.RowKit
open Sp (Ed)

theorem run_make_rowN {P : Program} (t e : TypeId) (i : TypeInfo) (z : Value) (ht : P.underlying t = some (.slice e)) (hi : P.info? e = some i) (hz : i.zero = some z)
    (kl kc : IntKind) (n c : Nat) (hnc : n ≤ c) (hbytes : i.bytes * c ≤ 281474976710656) (h63 : c ≤ 9223372036854775807) (w : World) :
    (Instr.makeSlice t (.int kl (n : Int)) (.int kc (c : Int))).run P w = .ok (.slice (some ⟨w.heap.size, 0, none⟩) n c) (w.alloc (.cells (madeCells z.cells (c * i.size)) e)) := by
  have hb : (i.bytes : Int) * (c : Int) ≤ 281474976710656 := by
    have h : ((i.bytes * c : Nat) : Int) ≤ 281474976710656 := by omega
    rwa [Int.natCast_mul] at h
  have hr := run_make (P := P) w t e i z ht hi hz kl kc n c (by omega) (by omega) hb (by omega)
  simp only [Int.toNat_natCast] at hr
  exact hr
theorem madeCells_one (v : Value) (n : Nat) : madeCells #[v] (n * 1) = (List.replicate n v).toArray := by
  apply Array.ext
  · simp [madeCells]
  · intro i h1 h2
    simp [madeCells, Nat.mod_one]
theorem info5 : (Try.prog.info? 5).map (fun i => (i.zero, i.size, i.bytes)) = some (some (.int .u8 0), 1, 1) := by kernel_rfl
/-- the row of bytes that 'assemble' fills: what lies there, then zeroes. -/
def filling (b : List UInt8) (n : Nat) : List Value := byteVals b ++ List.replicate (n - b.length) (.int .u8 0)
theorem filling_len (b : List UInt8) (n : Nat) (h : b.length ≤ n) : (filling b n).length = n := by simp [filling, byteVals]; omega
theorem filling_splice (b c : List UInt8) (n : Nat) (_h : b.length + c.length ≤ n) : splice (filling b n) b.length (byteVals c) = filling (b ++ c) n := by
  unfold splice filling
  have e1 : b.length = (byteVals b).length := by simp [byteVals]
  rw [List.take_append_of_le_length (by simp [byteVals]), List.take_of_length_le (by simp [byteVals])]
  rw [List.drop_append]
  have e2 : (byteVals b).drop (b.length + (byteVals c).length) = [] := List.drop_eq_nil_of_le (by simp [byteVals])
  rw [e2, byteVals_append, List.nil_append, List.drop_replicate, List.append_assoc]
  congr 3
  simp [byteVals]
  omega
theorem filling_full (b : List UInt8) : filling b b.length = byteVals b := by simp [filling]

set_option maxHeartbeats 2000000 in
theorem assemble_any (src : List UInt8) (l : List Ed) (A : Option Addr) (c : Nat) (hl : l.length ≤ 1073741824) (hok : ∀ p ∈ l, Sp.Okp p ∧ (p.f < 0 ∨ p.f + p.t ≤ src.length)) (hsz : Sp.size l ≤ 1099511627776)
    (hsrc : src.length ≤ 1099511627776) (w : World) (hr : EdsAt w w.heap.size A l) :
    Calls Try.prog 28 #[.string ⟨src.toArray⟩, .slice A l.length c] w fun e w' => e = .returned (.string ⟨(Sp.asm src l).toArray⟩) ∧ Below w.heap.size w w' := by
  obtain ⟨i5, hi5, hz5, hs5, hby5⟩ := info_parts info5
  have hnn : ∀ p ∈ l, 0 ≤ p.t := fun p hp => (hok p hp).1.1
  obtain ⟨n, hn⟩ : ∃ n : Nat, (n : Int) = Sp.size l := ⟨(Sp.size l).toNat, by have := Sp.size_nonneg l hnn; omega⟩
  have hn2 : n ≤ 1099511627776 := by omega
  have hmk := fun W => run_make_rowN (P := Try.prog) 57 5 i5 _ Try.underlying57 hi5 hz5 .i64 .i64 n n (Nat.le_refl _) (by rw [hby5]; omega) (by omega) W
  rw [hs5] at hmk
  simp only [Value.cells, madeCells_one] at hmk
  have HT := Lib.hid hnn
  have HN := Lib.hid hn
  have HOK := Lib.hid hok
  clear hnn hn hok
  go_enter Try.func28, Try.ntmps28
  go_wp2_with fail
  go_loopw [5, 14] (fun a i wr => ∃ k : Nat, k ≤ l.length ∧ i = .int .i64 k ∧ a = .int .i64 (Sp.size (l.take k)) ∧ Below w.heap.size w wr) (fun _ i _ => (l.length - intOf i).toNat)
  case atStart => exact ⟨0, by omega, rfl, rfl, Below.refl _ _⟩
  case round =>
    obtain ⟨k, hk, rfl, rfl, hb⟩ := hrel
    have hz := hb.size
    by_cases hlt : k < l.length
    · obtain ⟨ad, rfl, hab, c1, c2, c3⟩ := EdsAt.at_ (hr.below hb) hlt
      have hsize : Sp.size (l.take (k + 1)) = Sp.size (l.take k) + l[k].t := by rw [Sp.take_snoc l k hlt, Sp.size_snoc]
      have hs1 := Sp.size_take_le l (k + 1) HT.out
      have hs0 := Sp.size_nonneg (l.take k) (fun p hp => HT.out p (List.mem_of_mem_take hp))
      have hk0 : 0 ≤ l[k].t := HT.out _ (List.getElem_mem hlt)
      rw [hsize] at hs1
      generalize l[k] = x at *
      have HS := Lib.hid hsize
      generalize Sp.size (l.take k) = sz at *
      clear hsize
      have hs2 : sz + x.t ≤ 1099511627776 := by omega
      go_wp2_with fail
      go_roundw
      case rel => exact ⟨k + 1, by omega, by go_num, by rw [HS.out], hb.alloc hz _⟩
      case measure => simp [intOf]; omega
    · obtain rfl : k = l.length := by omega
      rw [List.take_length, ← HN.out]
      go_wp2_with fail
      obtain ⟨W0, hW0⟩ : ∃ W0 : World, W0 = wr := ⟨_, rfl⟩
      subst hW0
      have HA : Hid (∀ m, m ≤ l.length → ((Sp.asm src (l.take m)).length : Int) = Sp.size (l.take m)) :=
        Lib.hid fun m _ => Sp.asm_len src (l.take m) fun p hp => HOK.out p (List.mem_of_mem_take hp)
      obtain ⟨G, hG⟩ : ∃ G : Nat, G = W0.heap.size := ⟨_, rfl⟩
      have hGw : w.heap.size ≤ G := by omega
      have hblk : (W0.alloc (.cells (Array.replicate n (Value.int .u8 0)) 5)).heap[G]? = some (.cells (filling [] n).toArray 5 (0, 0)) := by
        rw [hG, heap_alloc_new]; simp [filling, byteVals]
      have HBLK := Lib.hid hblk
      have HG := Lib.hid hG
      have hGs : G < (W0.alloc (.cells (Array.replicate n (Value.int .u8 0)) 5)).heap.size := by rw [hG]; simp
      have hbW := hb.alloc hz (.cells (Array.replicate n (Value.int .u8 0)) 5)
      rw [← hG]
      clear hblk
      clear hG
      generalize W0.alloc (.cells (Array.replicate n (Value.int .u8 0)) 5) = W1 at *
      go_loopw [9, 27] (fun a i wr => ∃ k : Nat, k ≤ l.length ∧ i = .int .i64 k ∧ a = .int .i64 ((Sp.asm src (l.take k)).length : Int) ∧ Hid (wr.heap[G]? = some (.cells (filling (Sp.asm src (l.take k)) n).toArray 5 (0, 0))) ∧ Below w.heap.size w wr ∧ G < wr.heap.size) (fun _ i _ => (l.length - intOf i).toNat)
      case atStart => exact ⟨0, by omega, rfl, by simp [Sp.asm], HBLK, hbW, hGs⟩
      case round =>
        clear hbW hGs HBLK
        obtain ⟨k, hk, rfl, rfl, hblk, hbr, hGr⟩ := hrel
        have hzr := hbr.size
        have hle : (Sp.asm src (l.take k)).length ≤ n := by
          have h1 := HA.out k hk
          have h2 := Sp.size_take_le l k HT.out
          have h3 := HN.out
          omega
        by_cases hlt : k < l.length
        · obtain ⟨ad, rfl, hab, c1, c2, c3⟩ := EdsAt.at_ (hr.below hbr) hlt
          have hsn : Sp.asm src (l.take (k + 1)) = Sp.asm src (l.take k) ++ Sp.bytes src l[k] := by rw [Sp.take_snoc l k hlt, Sp.asm_snoc]
          have hle2 : (Sp.asm src (l.take k)).length + (Sp.bytes src l[k]).length ≤ n := by
            have h1 := HA.out (k + 1) hlt
            rw [hsn, List.length_append] at h1
            have h2 := Sp.size_take_le l (k + 1) HT.out
            have h3 := HN.out
            omega
          have hokx := HOK.out l[k] (List.getElem_mem hlt)
          generalize l[k] = x at *
          have HS := Lib.hid hsn
          generalize Sp.asm src (l.take k) = done at *
          clear hsn
          obtain ⟨hokx1, hokx2⟩ := hokx
          by_cases hff : x.f < 0
          · have hby : Sp.bytes src x = x.s := by simp [Sp.bytes, hff]
            rw [hby] at hle2
            have HBY := Lib.hid hby
            clear hby
            obtain ⟨X, hX, hsl⟩ := run_slice_from (P := Try.prog) 57 5 i5 Try.underlying57 hi5 hs5 G n done.length hle
            have hblk1 : ∀ o : Obj, (wr.alloc o).heap[G]? = some (.cells (filling done n).toArray 5 (0, 0)) := fun o => (Below.heap_alloc wr o G hGr).trans hblk.out
            have HB1 := Lib.hid hblk1
            clear hblk1
            have HF : Hid (done.length + x.s.length ≤ (filling done n).length) := Lib.hid (by rw [filling_len _ _ hle]; omega)
            go_wp2_with fail
            go_region_law (refine step_copy_str rfl (.tmp 37) (.tmp 39) 57 9 rfl 5 Try.underlying57 (by kernel_rfl) _ _ _ x.s rfl rfl G done.length (filling done n) 5 (HB1.out _) (by omega) (fun h => by rw [hX (by omega)]) HF.out ?_; intro w2 hg2 hb2 hgr2)
            have HFS := Lib.hid (filling_splice done x.s n hle2)
            have hB3 := hb2.out w.heap.size w hGw ((hbr.alloc hzr _).drew)
            have hG3 : G < w2.heap.size := by have := hgr2.size; simp at this; omega
            clear hgr2 hb2
            go_wp2_with fail
            go_roundw
            case rel => exact ⟨k + 1, by omega, by go_num, by rw [HS.out, HBY.out, List.length_append]; exact congrArg (Value.int .i64) (by simp), by rw [HS.out, HBY.out, ← HFS.out]; exact hg2, hB3, hG3⟩
            case measure => simp [intOf]; omega
          · have hby : Sp.bytes src x = (src.drop x.f.toNat).take x.t.toNat := by simp [Sp.bytes, hff]
            have HBY := Lib.hid hby
            have hxt := hokx1.1
            have hxe : x.f + x.t ≤ src.length := by omega
            have hf0 : 0 ≤ x.f := by omega
            obtain ⟨y, hy⟩ : ∃ y, y = (src.drop x.f.toNat).take x.t.toNat := ⟨_, rfl⟩
            rw [hby, ← hy] at hle2
            have hext : (⟨src.toArray⟩ : ByteArray).extract x.f.toNat (x.f + x.t).toNat = ⟨y.toArray⟩ := by
              rw [hy, extract_list, show (x.f + x.t).toNat - x.f.toNat = x.t.toNat from by omega]
            have HY := Lib.hid hy
            clear hby hy hokx1 hokx2
            obtain ⟨X, hX, hsl⟩ := run_slice_from (P := Try.prog) 57 5 i5 Try.underlying57 hi5 hs5 G n done.length hle
            have hblk1 : ∀ o : Obj, (wr.alloc o).heap[G]? = some (.cells (filling done n).toArray 5 (0, 0)) := fun o => (Below.heap_alloc wr o G hGr).trans hblk.out
            have HB1 := Lib.hid hblk1
            clear hblk1
            have HF : Hid (done.length + y.length ≤ (filling done n).length) := Lib.hid (by rw [filling_len _ _ hle]; omega)
            have hw2 : 0 ≤ x.f + x.t := by omega
            have hw3 : x.f ≤ x.f + x.t := by omega
            have hw1 : IntKind.i64.wrap (x.f + x.t) = x.f + x.t := IntWalk.i64_in _ (by omega)
            go_wp2_with fail
            go_region_law (refine step_copy_str rfl (.tmp 45) (.tmp 54) 57 9 rfl 5 Try.underlying57 (by kernel_rfl) _ _ _ y rfl rfl G done.length (filling done n) 5 (HB1.out _) (by omega) (fun h => by rw [hX (by omega)]) HF.out ?_; intro w2 hg2 hb2 hgr2)
            all_goals
              clear hw1
              have HFS := Lib.hid (filling_splice done y n hle2)
              have hB3 := hb2.out w.heap.size w hGw ((hbr.alloc hzr _).drew)
              have hG3 : G < w2.heap.size := by have := hgr2.size; simp at this; omega
              clear hgr2 hb2
              go_wp2_with fail
              go_roundw
              case rel => exact ⟨k + 1, by omega, by go_num, by rw [HS.out, HBY.out, ← HY.out, List.length_append]; exact congrArg (Value.int .i64) (by simp), by rw [HS.out, HBY.out, ← HY.out, ← HFS.out]; exact hg2, hB3, hG3⟩
              case measure => simp [intOf]; omega
        · obtain rfl : k = l.length := by omega
          have hnn2 : (Sp.asm src l).length = n := by
            have h1 := HA.out l.length (Nat.le_refl _)
            rw [List.take_length] at h1
            have h2 := HN.out
            omega
          rw [List.take_length] at *
          have hfull := filling_full (Sp.asm src l)
          rw [hnn2] at hfull
          rw [hfull] at hblk
          have hcv := run_convert_bytes_back (P := Try.prog) wr 57 9 5 ⟨G, 0, none⟩ n (Sp.asm src l) Try.underlying57 Try.underlying5 Try.underlying9 (fun j hj => by
            have : (⟨G, 0, none⟩ : Addr).add j = ⟨G, j, none⟩ := by unfold Addr.add; split <;> simp_all
            rw [this, cell_of_row wr G j _ _ _ hblk.out]
            simp [byteVals, List.getElem?_eq_getElem hj])
          rw [hnn2] at hcv
          clear hfull hnn2
          go_wp2_with fail
          go_ret
          exact ⟨rfl, hbr⟩
end Go.Proofs.Ytnnicjbceadnbaa
