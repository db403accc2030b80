/- Walks: a bare name; name whole. -/
import Derived.Test.YtegdemnfjmaicaaDoorWalk9
import Derived.Outline
namespace Go.Proofs.YtegdemnfjmaicaaDoor
open Go.RowKit
theorem mark_get (s : Ini.Str) (a tz : Nat) (mark : UInt8) (ht : tz ≤ s.length) (n j : Nat) (hn : ((seg s a tz).takeWhile (fun x => x ≠ mark)).length = n) (h : j < n) :
    ∃ h1 : a + j < tz, s[a + j]'(by omega) ≠ mark := by
  subst hn
  obtain ⟨h2, h3, h4⟩ := takeWhile_get _ _ j h
  have e := seg_get s a tz j ht h2
  rw [e] at h4
  have hl := seg_len s a tz ht
  exact ⟨by omega, by simpa using h4⟩
theorem mark_stop (s : Ini.Str) (a tz : Nat) (mark : UInt8) (ht : tz ≤ s.length) (n : Nat) (hn : ((seg s a tz).takeWhile (fun x => x ≠ mark)).length = n) (h : a + n < tz) : s[a + n]'(by omega) = mark := by
  have hl := seg_len s a tz ht
  have hlt : ((seg s a tz).takeWhile (fun x => x ≠ mark)).length < (seg s a tz).length := by omega
  have := takeWhile_stop _ _ hlt
  have e2 : (seg s a tz)[((seg s a tz).takeWhile (fun x => x ≠ mark)).length]'hlt = s[a + n]'(by omega) := by
    simp only [hn, seg_get s a tz _ ht]
  rw [e2] at this
  simpa using this
theorem extract_seg (s : Ini.Str) (a b : Nat) : (⟨s.toArray⟩ : ByteArray).extract a b = ⟨(seg s a b).toArray⟩ := by
  rw [extract_list']
  unfold seg
  rw [List.take_drop]
  by_cases h : a ≤ b
  · rw [show a + (b - a) = b from by omega]
  · rw [show a + (b - a) = a from by omega, List.drop_eq_nil_of_le (by rw [List.length_take]; omega), List.drop_eq_nil_of_le (by rw [List.length_take]; omega)]
set_option maxRecDepth 100000 in
set_option maxHeartbeats 4000000 in
theorem name_bare (pb a tz : Nat) (mark : UInt8) (m : Int) (hm : (mark.toNat : Int) = m) (s : Ini.Str) (ha : a ≤ tz) (ht : tz ≤ s.length) (hs : s.length ≤ 1073741823) (w : World) (hp : ParAt w pb s) (hc : ∀ h : a < tz, s[a]'(by omega) ≠ 34)
    (R : Ini.Res (Ini.Str × Nat × Nat)) (hR : Ini.name (seg s a tz) a mark = R) :
    Calls Tryd.prog 38 #[.pointer (some ⟨pb, 0, none⟩), .int .i64 a, .int .i64 tz, .int .u8 m] w (NPost w pb R) := by
  have hsrc := hp.src
  unfold SrcAt at hsrc
  have hcase : (∃ h : a < tz, ¬ (((⟨s.toArray⟩ : ByteArray)[a]'(by simp [ByteArray.size]; omega)).toNat : Int) = 34) ∨ ¬ ((a : Int) < (tz : Int)) := by
    by_cases h : a < tz
    · exact .inl ⟨h, byte_not s a (by omega) (s[a]'(by omega)) 34 34 rfl rfl (hc h)⟩
    · exact .inr (by omega)
  have hhead : (seg s a tz).head? ≠ some 34 := by
    by_cases h : a < tz
    · rw [seg_cons s a tz h ht, List.head?_cons]
      intro e; injection e with e; exact hc h e
    · rw [seg_nil s a tz (by omega)]; simp
  unfold Ini.name at hR
  rw [if_neg hhead] at hR
  obtain ⟨n, hn⟩ : ∃ n, ((seg s a tz).takeWhile (fun x => x ≠ mark)).length = n := ⟨_, rfl⟩
  have hnl : n ≤ tz - a := by
    have := (List.takeWhile_sublist (l := seg s a tz) (fun x => x ≠ mark)).length_le
    rw [hn, seg_len s a tz ht] at this
    exact this
  have hW : (seg s a tz).takeWhile (fun x => x ≠ mark) = seg s a (a + n) := by
    have e := takeWhile_eq_take (fun x => x ≠ mark) (seg s a tz)
    rw [hn, seg_take s a tz n (by omega)] at e
    exact e
  obtain ⟨q, hq⟩ : ∃ q, a + Ini.nT (seg s a (a + n)) = q := ⟨_, rfl⟩
  have hql := nT_le (seg s a (a + n))
  rw [seg_len s a _ (by omega)] at hql
  simp only [hW, seg_len s a tz ht, seg_len s a (a + n) (show a + n ≤ s.length by omega)] at hR
  have hq1 : a ≤ q := by omega
  have hq2 : q ≤ a + n := by omega
  have HM := Lib.hid hm
  have HP := Lib.hid hp
  have HR := Lib.hid hR
  have HN := Lib.hid hn
  have HQ := Lib.hid hq
  have han : a + n ≤ tz := by omega
  have HNT : Hid (Ini.nT (seg s a (a + n)) = q - a) := Lib.hid (by omega)
  clear hhead hm hp hR hn hq hql hW hc hnl
  rcases hcase with ⟨hlt, p0⟩ | hlti
  · have p0b : ((((⟨s.toArray⟩ : ByteArray)[a]'(by simp [ByteArray.size]; omega)).toNat : Int) == 34) = false := by simpa using p0
    have hlti : (a : Int) < (tz : Int) := by omega
    go_enter Tryd.func38, Tryd.ntmps38
    go_wp2_with fail
    go_loop [16] (fun i => ∃ j : Nat, j ≤ n ∧ i = .int .i64 ((a + j : Nat) : Int)) (fun i => tz - (intOf i).toNat)
    case atStart => exact ⟨0, by omega, rfl⟩
    case round =>
      obtain ⟨j, hj, rfl⟩ := hrel
      by_cases hjn : j < n
      · obtain ⟨hj1, hj2⟩ := mark_get s a tz mark ht n j HN.out hjn
        obtain ⟨c, hcc⟩ : ∃ c, s[a + j]'(by omega) = c := ⟨_, rfl⟩
        rw [hcc] at hj2
        have q1 := byte_not s (a + j) (by omega) c mark m HM.out hcc hj2
        have q1c : ((((⟨s.toArray⟩ : ByteArray)[a + j]'(by simp [ByteArray.size]; omega)).toNat : Int) != m) = true := by simpa using q1
        have hlj : ((a + j : Nat) : Int) < (tz : Int) := by omega
        clear hcc hj2
        go_wp2_with fail
        go_round
        case rel => exact ⟨j + 1, by omega, by go_num⟩
        case measure => simp [intOf]; omega
      · have hjn' : j = n := by omega
        subst hjn'
        by_cases hend : a + j < tz
        · have hst := mark_stop s a tz mark ht j HN.out hend
          obtain ⟨c, hcc⟩ : ∃ c, s[a + j]'(by omega) = c := ⟨_, rfl⟩
          rw [hcc] at hst
          have q1 := byte_is s (a + j) (by omega) c mark m HM.out hcc hst
          have q1c : ((((⟨s.toArray⟩ : ByteArray)[a + j]'(by simp [ByteArray.size]; omega)).toNat : Int) != m) = false := by simpa using q1
          have hlj : ((a + j : Nat) : Int) < (tz : Int) := by omega
          clear hcc hst q1
          by_cases hqa : q = a
          · have HE : Hid (R = .err a 4) := Lib.hid (by rw [← HR.out, HNT.out, if_pos (by omega)])
            go_wp2_with fail
            refine (trimmed_any pb a (a + j) s (by omega) (by omega) (by omega) _ HP.out.src q HQ.out).mono ?_
            rintro e w2 ⟨rfl, rfl⟩
            go_wp2_with fail
            refine (fail_par pb a 4 s _ HP.out).mono ?_
            rintro e w3 ⟨rfl, hf⟩
            have HF := Lib.hid hf
            clear hf
            go_wp2_with fail
            refine bodyPost_ret (v := .tuple #[.string ⟨#[]⟩, .int .i64 0, .int .i64 0, .bool false]) (by simp [results, Tryd.results38, go_sem]) rfl ?_
            rw [HE.out]
            exact ⟨rfl, _, Below.refl _ _, HF.out⟩
          · have hqi : ((q : Int) == (a : Int)) = false := by simp; omega
            have hqj : ¬ (q : Int) = (a : Int) := by omega
            have hei : (((a : Int) + (j : Int)) == (tz : Int)) = false := by simp; omega
            have hej : ¬ ((a : Int) + (j : Int)) = (tz : Int) := by omega
            have HE : Hid (R = .ok ((seg s a (a + j)).take (q - a), q, a + j + 1)) := Lib.hid (by
              rw [← HR.out, HNT.out, if_neg (by omega), if_neg (by omega), show a + (q - a) = q from by omega, show a + (a + j - a) + 1 = a + j + 1 from by omega])
            have HEX : Hid ((⟨s.toArray⟩ : ByteArray).extract a q = ⟨((seg s a (a + j)).take (q - a)).toArray⟩) := Lib.hid (by
              rw [extract_seg, seg_take s a _ _ (by omega), show a + (q - a) = q from by omega])
            go_wp2_with fail
            refine (trimmed_any pb a (a + j) s (by omega) (by omega) (by omega) _ HP.out.src q HQ.out).mono ?_
            rintro e w2 ⟨rfl, rfl⟩
            go_wp2_with fail
            refine bodyPost_ret (v := .tuple #[.string ((⟨s.toArray⟩ : ByteArray).extract a q), .int .i64 q, .int .i64 ((a : Int) + j + 1), .bool true]) (by simp [results, Tryd.results38, go_sem]) rfl ?_
            rw [HE.out, HEX.out]
            exact ⟨by refine congrArg Ending.returned (congrArg Value.tuple ?_); go_num, Below.refl _ _⟩
        · have hlj : ¬ (((a + j : Nat) : Int) < (tz : Int)) := by omega
          have hen : a + j = tz := by omega
          by_cases hqa : q = a
          · have HE : Hid (R = .err a 4) := Lib.hid (by rw [← HR.out, HNT.out, if_pos (by omega)])
            have HEN := Lib.hid hen
            clear hen
            go_wp2_with fail
            refine (trimmed_any pb a (a + j) s (by omega) (by omega) (by omega) _ HP.out.src q HQ.out).mono ?_
            rintro e w2 ⟨rfl, rfl⟩
            go_wp2_with fail
            refine (fail_par pb a 4 s _ HP.out).mono ?_
            rintro e w3 ⟨rfl, hf⟩
            have HF := Lib.hid hf
            clear hf
            go_wp2_with fail
            refine bodyPost_ret (v := .tuple #[.string ⟨#[]⟩, .int .i64 0, .int .i64 0, .bool false]) (by simp [results, Tryd.results38, go_sem]) rfl ?_
            rw [HE.out]
            exact ⟨rfl, _, Below.refl _ _, HF.out⟩
          · have hqi : ((q : Int) == (a : Int)) = false := by simp; omega
            have hqj : ¬ (q : Int) = (a : Int) := by omega
            have hei : (((a : Int) + (j : Int)) == (tz : Int)) = true := by simp; omega
            have HE : Hid (R = .err tz 4) := Lib.hid (by
              rw [← HR.out, HNT.out, if_neg (by omega), if_pos (by omega), show a + (tz - a) = tz from by omega])
            have HEN := Lib.hid hen
            clear hen
            go_wp2_with fail
            refine (trimmed_any pb a (a + j) s (by omega) (by omega) (by omega) _ HP.out.src q HQ.out).mono ?_
            rintro e w2 ⟨rfl, rfl⟩
            go_wp2_with fail
            refine (fail_par pb tz 4 s _ HP.out).mono ?_
            rintro e w3 ⟨rfl, hf⟩
            have HF := Lib.hid hf
            clear hf
            go_wp2_with fail
            refine bodyPost_ret (v := .tuple #[.string ⟨#[]⟩, .int .i64 0, .int .i64 0, .bool false]) (by simp [results, Tryd.results38, go_sem]) rfl ?_
            rw [HE.out]
            exact ⟨rfl, _, Below.refl _ _, HF.out⟩
  · have hn0 : n = 0 := by omega
    subst hn0
    have hqa : q = a := by omega
    have HE : Hid (R = .err a 4) := Lib.hid (by rw [← HR.out, HNT.out, if_pos (by omega)])
    subst hqa
    go_enter Tryd.func38, Tryd.ntmps38
    go_wp2_with fail
    go_loop [16] (fun i => i = .int .i64 ((q : Nat) : Int)) (fun i => tz - (intOf i).toNat)
    case atStart => rfl
    case round =>
      subst hrel
      go_wp2_with fail
      refine (trimmed_any pb q q s (by omega) (by omega) (by omega) _ HP.out.src q HQ.out).mono ?_
      rintro e w2 ⟨rfl, rfl⟩
      go_wp2_with fail
      refine (fail_par pb q 4 s _ HP.out).mono ?_
      rintro e w3 ⟨rfl, hf⟩
      have HF := Lib.hid hf
      clear hf
      go_wp2_with fail
      refine bodyPost_ret (v := .tuple #[.string ⟨#[]⟩, .int .i64 0, .int .i64 0, .bool false]) (by simp [results, Tryd.results38, go_sem]) rfl ?_
      rw [HE.out]
      exact ⟨rfl, _, Below.refl _ _, HF.out⟩
theorem name_any (pb a tz : Nat) (mark : UInt8) (m : Int) (hm : (mark.toNat : Int) = m) (s : Ini.Str) (ha : a ≤ tz) (ht : tz ≤ s.length) (hs : s.length ≤ 1073741823) (w : World) (hp : ParAt w pb s)
    (R : Ini.Res (Ini.Str × Nat × Nat)) (hR : Ini.name (seg s a tz) a mark = R) :
    Calls Tryd.prog 38 #[.pointer (some ⟨pb, 0, none⟩), .int .i64 a, .int .i64 tz, .int .u8 m] w (NPost w pb R) := by
  by_cases h : ∃ h : a < tz, s[a]'(by omega) = 34
  · obtain ⟨h1, h2⟩ := h
    exact name_quoted pb a tz mark m hm s h1 ht hs w hp h2 R hR
  · exact name_bare pb a tz mark m hm s ha ht hs w hp (fun h1 h2 => h ⟨h1, h2⟩) R hR
theorem name_bounds (s : Ini.Str) (a tz : Nat) (mark : UInt8) (ha : a ≤ tz) (ht : tz ≤ s.length) (t : Ini.Str) (i j : Nat) (h : Ini.name (seg s a tz) a mark = .ok (t, i, j)) : a ≤ i ∧ i < j ∧ j ≤ tz := by
  unfold Ini.name at h
  split at h
  · rename_i hh
    have hlt : a < tz := by
      by_cases h : a < tz
      · exact h
      · rw [seg_nil s a tz (by omega)] at hh; cases hh
    cases hq : Ini.quoted (seg s a tz) a with
    | err x c => rw [hq] at h; cases h
    | ok p =>
      obtain ⟨t', i'⟩ := p
      obtain ⟨b1, b2⟩ := quoted_bounds s a tz hlt ht t' i' hq
      rw [hq] at h
      simp only [seg_drop, show a + (i' - a) = i' from by omega] at h
      split at h
      · rename_i hm
        injection h with h
        injection h with _ h
        injection h with h1 h2
        have : i' + Ini.nB (seg s i' tz) < tz := by
          by_cases h : i' + Ini.nB (seg s i' tz) < tz
          · exact h
          · rw [seg_nil s _ tz (by omega)] at hm; cases hm
        omega
      · cases h
  · simp only at h
    have hl := (List.takeWhile_sublist (l := seg s a tz) (fun x => x ≠ mark)).length_le
    have hn := nT_le ((seg s a tz).takeWhile (fun x => x ≠ mark))
    rw [seg_len s a tz ht] at hl
    split at h
    · cases h
    · split at h
      · cases h
      · rename_i hne
        rw [seg_len s a tz ht] at hne
        injection h with h
        injection h with _ h
        injection h with h1 h2
        omega
end Go.Proofs.YtegdemnfjmaicaaDoor
