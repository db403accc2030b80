/- Walks: kept, added, part. -/
import Derived.Test.YtnnicjbceadnbaaWords
namespace Go.Proofs.Ytnnicjbceadnbaa
open Go.RowKit
open Sp (Ed)

theorem info61 : (Try.prog.info? 61).map (fun i => (i.zero, i.size, i.bytes)) = some (some (.agg #[.int .i64 0, .int .i64 0, .string ByteArray.empty]), 3, 32) := by kernel_rfl
set_option maxHeartbeats 400000 in
theorem kept_any (f t : Int) (h0 : 0 ≤ f) (h1 : f ≤ t) (h2 : t ≤ 4611686018427387904) (w : World) :
    Calls Try.prog 30 #[.int .i64 f, .int .i64 t] w fun e w' => ∃ v, e = .returned v ∧ OwnEds w' w.heap.size 61 v (Sp.kept f t) ∧ Below w.heap.size w w' := by
  by_cases h : f = t
  · have hb : (f == t) = true := by simpa using h
    have hk : Sp.kept f t = [] := by simp [Sp.kept, h]
    rw [hk]
    clear h hk
    go_enter Try.func30, Try.ntmps30
    go_wp2
    go_ret
    exact ⟨_, rfl, OwnEds.nil _ _ _, Below.refl _ _⟩
  · have hb : (f == t) = false := by simpa using h
    have hk : Sp.kept f t = [⟨f, t - f, []⟩] := by simp [Sp.kept, h]
    rw [hk]
    clear h hk
    go_enter Try.func30, Try.ntmps30
    go_wp2
    go_ret
    exact ⟨_, rfl, OwnEds.lit (Nat.le_refl _) 61 ⟨f, t - f, []⟩, (Below.refl _ _).alloc (Nat.le_refl _) _⟩
set_option maxHeartbeats 400000 in
theorem added_any (s : List UInt8) (h : s.length ≤ 4611686018427387904) (w : World) :
    Calls Try.prog 31 #[.string ⟨s.toArray⟩] w fun e w' => ∃ v, e = .returned v ∧ OwnEds w' w.heap.size 61 v (Sp.added s) ∧ Below w.heap.size w w' := by
  by_cases h : s = []
  · subst h
    go_enter Try.func31, Try.ntmps31
    go_wp2
    go_ret
    exact ⟨_, rfl, OwnEds.nil _ _ _, Below.refl _ _⟩
  · have hk : Sp.added s = [⟨-1, s.length, s⟩] := by simp [Sp.added, h]
    have he : s.isEmpty = false := by simpa using h
    rw [hk]
    clear h hk
    go_enter Try.func31, Try.ntmps31
    go_wp2
    go_ret
    exact ⟨_, rfl, OwnEds.lit (Nat.le_refl _) 61 ⟨-1, s.length, s⟩, (Below.refl _ _).alloc (Nat.le_refl _) _⟩
set_option maxHeartbeats 1000000 in
theorem part_any (l : List Ed) (A : Option Addr) (c : Nat) (fr to : Int) (hl : l.length ≤ 1073741824) (hok : ∀ p ∈ l, Sp.Okp p) (hsz : Sp.size l ≤ 4611686018427387904)
    (_hf : 0 ≤ fr) (_hf2 : fr ≤ 4611686018427387904) (_ht : 0 ≤ to) (_ht2 : to ≤ 4611686018427387904) (hfs : ∀ p ∈ l, p.f ≤ 4611686018427387904) (w : World) (hr : EdsAt w w.heap.size A l) :
    Calls Try.prog 38 #[.slice A l.length c, .int .i64 fr, .int .i64 to] w fun e w' => ∃ v, e = .returned v ∧ OwnEds w' w.heap.size 61 v (Sp.part fr to 0 l) ∧ Below w.heap.size w w' := by
  obtain ⟨i0, hi, hz0, hz1, hz2⟩ := info_parts info61
  have hnn : ∀ p ∈ l, 0 ≤ p.t := fun p hp => (hok p hp).1
  have HT := Lib.hid hnn
  have HOK := Lib.hid hok
  have HFS := Lib.hid hfs
  clear hnn hok hfs
  go_enter Try.func38, Try.ntmps38
  go_wp2_with fail
  go_loopw [7, 8, 16] (fun v a i wr => ∃ k : Nat, k ≤ l.length ∧ i = .int .i64 k ∧ a = .int .i64 (Sp.size (l.take k)) ∧ OwnEds wr w.heap.size 61 v (Sp.part fr to 0 (l.take k)) ∧ Below w.heap.size w wr) (fun _ _ i _ => (l.length - intOf i).toNat)
  case atStart => exact ⟨0, by omega, rfl, rfl, OwnEds.nil _ _ _, Below.refl _ _⟩
  case round =>
    obtain ⟨k, hk, rfl, rfl, hown, hb⟩ := hrel
    have hz := hb.size
    by_cases hlt : k < l.length
    · obtain ⟨ad, rfl, hab, c1, c2, c3⟩ := EdsAt.at_ (hr.below hb) hlt
      have hpart : Sp.part fr to 0 (l.take (k + 1)) = Sp.part fr to 0 (l.take k) ++ Sp.bit fr to (Sp.size (l.take k)) l[k] := by
        rw [Sp.take_snoc l k hlt, Sp.part_snoc]; simp
      have hsize : Sp.size (l.take (k + 1)) = Sp.size (l.take k) + l[k].t := by rw [Sp.take_snoc l k hlt, Sp.size_snoc]
      have hs1 := Sp.size_take_le l (k + 1) HT.out
      have hs0 := Sp.size_nonneg (l.take k) (fun p hp => HT.out p (List.mem_of_mem_take hp))
      have hkk : l[k].t = l[k].s.length ∨ 0 ≤ l[k].f := by
        by_cases hff : l[k].f < 0
        · exact .inl ((HOK.out l[k] (List.getElem_mem hlt)).2 hff)
        · exact .inr (by omega)
      have hk0 : 0 ≤ l[k].t := HT.out _ (List.getElem_mem hlt)
      have hkf : l[k].f ≤ 4611686018427387904 := HFS.out _ (List.getElem_mem hlt)
      rw [hsize] at hs1
      generalize l[k] = x at *
      have hs2 : Sp.size (l.take k) + x.t ≤ 4611686018427387904 := by omega
      have HP := Lib.hid hpart
      have HS := Lib.hid hsize
      generalize Sp.size (l.take k) = sz at *
      clear hpart hsize
      by_cases hm : max fr sz < min to (sz + x.t)
      · by_cases hff : x.f < 0
        · have hbit : ∀ a b : Int, a = max fr sz → b = min to (sz + x.t) → Sp.bit fr to sz x = [⟨x.f, b - a, (x.s.drop (a - sz).toNat).take (b - a).toNat⟩] := by
            intro a b ha hb; subst ha hb; simp only [Sp.bit, if_pos hm, if_pos hff]
          have HBIT := Lib.hid hbit
          have hxs : x.t = x.s.length := by omega
          have HXS := Lib.hid hxs
          have hxl : (x.s.length : Int) ≤ 4611686018427387904 := by omega
          have hxe : sz + x.t ≤ sz + x.s.length := by omega
          clear hbit hkk hxs
          go_wp2_with fail
          go_quiet (fail)
          obtain ⟨a, ha⟩ : ∃ a, a = (if fr < sz then sz else fr) := ⟨_, rfl⟩
          obtain ⟨b, hbb⟩ : ∃ b, b = (if sz + x.t < to then sz + x.t else to) := ⟨_, rfl⟩
          have ha1 : a = max fr sz := by rw [ha]; split <;> omega
          have hb1 : b = min to (sz + x.t) := by rw [hbb]; split <;> omega
          rw [← ha, ← hbb]
          have HA := Lib.hid ha1
          have HB := Lib.hid hb1
          have l1 : sz ≤ a := by omega
          have l2 : a < b := by omega
          have l3 : b ≤ sz + x.t := by omega
          have l5 : b ≤ sz + x.s.length := by omega
          have l4 : b ≤ 4611686018427387904 := by omega
          clear ha hbb ha1 hb1 hm
          obtain ⟨y, hy⟩ : ∃ y, y = (x.s.drop (a - sz).toNat).take (b - a).toNat := ⟨_, rfl⟩
          have hext : (⟨x.s.toArray⟩ : ByteArray).extract (a - sz).toNat (b - sz).toNat = ⟨y.toArray⟩ := by
            rw [hy, extract_list, show (b - sz).toNat - (a - sz).toNat = (b - a).toNat from by omega]
          have HY := Lib.hid hy
          clear hy
          have hpl := Sp.part_len fr to 0 (l.take k)
          rw [List.length_take] at hpl
          have HPL := Lib.hid hpl
          go_wp2_with (at_builtin; go_must (refine wpList_append_eds _ rfl (.tmp 58) (.tmp 60) 54 61 rfl pcT w.heap.size _ _ rfl (((hown.alloc _).drewN _).alloc _ |>.alloc _) _ _ 1 [⟨x.f, b - a, y⟩] rfl (EdsAt.lit _ _ _ _ ?_) ?_ ?_ ?_))
          · simp
          · have := HPL.out; simp only [List.length_singleton]; omega
          · simp; omega
          intro v2 w2 hown2 hg2 hat2
          have hc0 : w2.cell? ⟨wr.heap.size, 1, none⟩ = some (.int .i64 x.t) := grown_box hg2 (by simp; omega) (hown.ne_ (Nat.le_refl _)) (by simp [go_sem])
          have hb2 : Below w.heap.size w w2 := (((hb.alloc hz _).drewN _).alloc (by simp; omega) _ |>.alloc (by simp; omega) _).trans ((((hown.alloc _).drewN _).alloc _ |>.alloc _).grown_below hg2 (by simp; omega))
          clear hown hg2 hat2
          go_wp2_with fail
          go_roundw
          case rel => exact ⟨k + 1, by omega, by go_num, by rw [HS.out], by rw [HP.out, HBIT.out a b HA.out HB.out, ← HY.out]; exact hown2, hb2⟩
          case measure => simp [intOf]; omega
        · have hbit : ∀ a b : Int, a = max fr sz → b = min to (sz + x.t) → Sp.bit fr to sz x = [⟨x.f + (a - sz), b - a, []⟩] := by
            intro a b ha hb; subst ha hb; simp only [Sp.bit, if_pos hm, if_neg hff]
          have HBIT := Lib.hid hbit
          clear hbit hkk
          go_wp2_with fail
          go_quiet (fail)
          obtain ⟨a, ha⟩ : ∃ a, a = (if fr < sz then sz else fr) := ⟨_, rfl⟩
          obtain ⟨b, hbb⟩ : ∃ b, b = (if sz + x.t < to then sz + x.t else to) := ⟨_, rfl⟩
          have ha1 : a = max fr sz := by rw [ha]; split <;> omega
          have hb1 : b = min to (sz + x.t) := by rw [hbb]; split <;> omega
          rw [← ha, ← hbb]
          have HA := Lib.hid ha1
          have HB := Lib.hid hb1
          have l1 : sz ≤ a := by omega
          have l2 : a < b := by omega
          have l3 : b ≤ sz + x.t := by omega
          have l4 : b ≤ 4611686018427387904 := by omega
          clear ha hbb ha1 hb1 hm
          have hpl := Sp.part_len fr to 0 (l.take k)
          rw [List.length_take] at hpl
          have HPL := Lib.hid hpl
          go_wp2_with (at_builtin; go_must (refine wpList_append_eds _ rfl (.tmp 58) (.tmp 60) 54 61 rfl pcT w.heap.size _ _ rfl (((hown.alloc _).drewN _).alloc _ |>.alloc _) _ _ 1 [⟨x.f + (a - sz), b - a, []⟩] rfl (EdsAt.lit _ _ _ _ ?_) ?_ ?_ ?_))
          · simp
          · have := HPL.out; simp only [List.length_singleton]; omega
          · simp; omega
          intro v2 w2 hown2 hg2 hat2
          have hc0 : w2.cell? ⟨wr.heap.size, 1, none⟩ = some (.int .i64 x.t) := grown_box hg2 (by simp; omega) (hown.ne_ (Nat.le_refl _)) (by simp [go_sem])
          have hb2 : Below w.heap.size w w2 := (((hb.alloc hz _).drewN _).alloc (by simp; omega) _ |>.alloc (by simp; omega) _).trans ((((hown.alloc _).drewN _).alloc _ |>.alloc _).grown_below hg2 (by simp; omega))
          clear hown hg2 hat2
          go_wp2_with fail
          go_roundw
          case rel => exact ⟨k + 1, by omega, by go_num, by rw [HS.out], by rw [HP.out, HBIT.out a b HA.out HB.out]; exact hown2, hb2⟩
          case measure => simp [intOf]; omega
      · have hbit : Sp.bit fr to sz x = [] := by simp only [Sp.bit, if_neg hm]
        have HBIT := Lib.hid hbit
        clear hbit hkk
        go_wp2_with fail
        go_quiet (fail)
        obtain ⟨a, ha⟩ : ∃ a, a = (if fr < sz then sz else fr) := ⟨_, rfl⟩
        obtain ⟨b, hbb⟩ : ∃ b, b = (if sz + x.t < to then sz + x.t else to) := ⟨_, rfl⟩
        rw [← ha, ← hbb]
        have l2 : ¬ a < b := by
          have ha1 : a = max fr sz := by rw [ha]; split <;> omega
          have hb1 : b = min to (sz + x.t) := by rw [hbb]; split <;> omega
          omega
        clear ha hbb hm
        go_wp2_with fail
        go_roundw
        case rel => exact ⟨k + 1, by omega, by go_num, by rw [HS.out], by rw [HP.out, HBIT.out, List.append_nil]; exact (hown.alloc _).drewN _, (hb.alloc hz _).drewN _⟩
        case measure => simp [intOf]; omega
    · go_wp2_with fail
      go_ret
      refine ⟨_, rfl, ?_, hb⟩
      rw [List.take_of_length_le (by omega)] at hown
      exact hown
end Go.Proofs.Ytnnicjbceadnbaa
