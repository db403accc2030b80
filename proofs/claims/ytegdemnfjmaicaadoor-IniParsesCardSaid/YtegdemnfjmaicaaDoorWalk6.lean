/- Walks: an escape by number. -/
import Derived.Test.YtegdemnfjmaicaaDoorWalk5
import Derived.Test.YtegdemnfjmaicaaDoorPlainI
import Derived.Deep.DeepCutAuto
import Derived.Deep.CutBlock
import Derived.Outline
namespace Go.Proofs.YtegdemnfjmaicaaDoor
open Go.RowKit
theorem or_tab (c : UInt8) : (bits BinOp.or IntKind.u8 (c.toNat : Int) 32).toNat.toUInt8 = c ||| 32 := by
  have tab : ∀ n : Fin 256, (bits BinOp.or IntKind.u8 ((UInt8.ofNat n.1).toNat : Int) 32).toNat.toUInt8 = UInt8.ofNat n.1 ||| 32 := by decide +kernel
  have := tab ⟨c.toNat, c.toNat_lt⟩
  rw [UInt8.ofNat_toNat] at this
  exact this
theorem index_hex (c : UInt8) (d : Int) (hd : Lib.indexByte hexDigits (c ||| 32) = d) (W : World) :
    Calls Tryd.prog 27 #[.string ⟨#[48, 49, 50, 51, 52, 53, 54, 55, 56, 57, 97, 98, 99, 100, 101, 102]⟩, .int .u8 (bits BinOp.or IntKind.u8 (c.toNat : Int) 32)] W fun e w' => e = .returned (.int .i64 d) ∧ W = w' := by
  refine (Tryd.strings_IndexByte _ _ W).mono ?_
  rintro e w' ⟨rfl, rfl⟩
  rw [or_tab]
  exact ⟨ret_int hd, rfl⟩
theorem cell_new_rune (w : World) (n : Int) : (w.alloc (.cells #[.int .i32 n] 21)).cell? ⟨w.heap.size, 0, none⟩ = some (.int .i32 n) := (Blk.new w 21 #[.int .i32 n]).cell 0
set_option maxRecDepth 100000 in
set_option maxHeartbeats 2000000 in
theorem escape_u (pb a tz : Nat) (s : Ini.Str) (h2 : a + 2 < tz) (ht : tz ≤ s.length) (hs : s.length ≤ 1073741824) (w : World) (hp : SrcAt w pb s)
    (hc : s[a + 1]'(by omega) = 117) (hb : s[a + 2]'(by omega) = 123) (v : Value) (hv : escVal (Ini.esc (seg s a tz)) = v) :
    Calls Tryd.prog 51 #[.pointer (some ⟨pb, 0, none⟩), .int .i64 a, .int .i64 tz] w fun e w' => e = .returned v ∧ Below w.heap.size w w' := by
  unfold SrcAt at hp
  obtain ⟨ds, hds⟩ : ∃ ds, hexSeg s (a + 3) tz = ds := ⟨_, rfl⟩
  have hlt : (a : Int) + 1 < (tz : Int) := by omega
  have hlt2 : (a : Int) + 2 < (tz : Int) := by omega
  have hd1 : decide ((tz : Int) ≤ (a : Int) + 1) = false := by simpa using hlt
  have hd2 : decide ((tz : Int) ≤ (a : Int) + 2) = false := by simpa using hlt2
  have q0 := byte_is s (a + 1) (by omega) 117 117 117 rfl hc rfl
  have q1 := byte_is s (a + 2) (by omega) 123 123 123 rfl hb rfl
  have hl6 := hexSeg_len s _ tz ds hds
  have HSM : ∀ j, Hid (Ini.hexVal (ds.take j) < 16777216) := fun j => Lib.hid (hexVal_small s _ tz j ht ds hds)
  have HSEG : Hid (seg s a tz = s[a]'(by omega) :: 117 :: 123 :: seg s (a + 3) tz) := Lib.hid (by
    rw [seg_cons s a tz (by omega) ht, seg_cons s (a + 1) tz (by omega) ht, seg_cons s (a + 2) tz (by omega) ht, hc, hb])
  have HV := Lib.hid hv
  have HD := Lib.hid hds
  clear hc hb hds hv
  go_enter Tryd.func51, Tryd.ntmps51
  go_upto_block 1 with fail
  go_cut [9, 10] (fun n i wx => n = .int .i64 (Ini.hexVal ds) ∧ i = .int .i64 ((a + 3 + ds.length : Nat) : Int) ∧ w = wx)
  case first =>
    go_wp2_with fail
    go_loop [9, 10] (fun n i => ∃ j : Nat, j ≤ ds.length ∧ n = .int .i64 (Ini.hexVal (ds.take j)) ∧ i = .int .i64 ((a + 3 + j : Nat) : Int)) (fun _ i => a + 10 - (intOf i).toNat)
    case atStart => exact ⟨0, by omega, rfl, rfl⟩
    case round =>
      obtain ⟨j, hj, rfl, rfl⟩ := hrel
      by_cases hlt : j < ds.length
      · obtain ⟨hc1, hj6, hcs, hhex⟩ := hexSeg_at s _ tz j ht ds HD.out hlt
        have hnx : Ini.hexVal (ds.take (j + 1)) = 16 * Ini.hexVal (ds.take j) + Ini.hexOf (s[a + 3 + j]'(by omega)) := by
          rw [List.take_succ_eq_append_getElem hlt, hexVal_snoc, hcs]
        obtain ⟨c, hcc⟩ : ∃ c, s[a + 3 + j]'(by omega) = c := ⟨_, rfl⟩
        rw [hcc] at hhex hnx
        obtain ⟨hy1, hy2, hy3, hy4⟩ := hex_yes c hhex
        have q2 := byte_is s (a + 3 + j) (by omega) c c c.toNat rfl hcc rfl
        have hi1 : ((a + 3 + j : Nat) : Int) < tz := by omega
        have hi2 : ((a + 3 + j : Nat) : Int) < a + 9 := by omega
        have hsm := (HSM j).out
        have HIX := fun W => index_hex c _ hy1 W
        have HNX := Lib.hid hnx
        generalize Ini.hexVal (ds.take j) = n at *
        generalize hho : Ini.hexOf c = o at *
        have g1 : ¬ ((o : Int) < 0) := by omega
        have g2 : ¬ ((c.toNat : Int) < 48) := by omega
        have g3 : (c.toNat : Int) ≤ 57 ∨ 65 ≤ (c.toNat : Int) := by omega
        have HHO := Lib.hid hho
        have HY1 := Lib.hid hy1
        clear hcs hhex hcc hnx hho hy1
        rcases g3 with g3 | g3
        · go_wp2_with fail
          refine (HIX _).mono ?_
          rintro e w' ⟨rfl, rfl⟩
          go_wp2_with fail
          go_round
          case rel => exact ⟨j + 1, by omega, by rw [HNX.out]; go_num, by go_num⟩
          case measure => simp [intOf]; omega
        · have g4 : 57 < (c.toNat : Int) := by omega
          go_wp2_with fail
          refine (HIX _).mono ?_
          rintro e w' ⟨rfl, rfl⟩
          go_wp2_with fail
          go_round
          case rel => exact ⟨j + 1, by omega, by rw [HNX.out]; go_num, by go_num⟩
          case measure => simp [intOf]; omega
      · have hjl : j = ds.length := by omega
        have hfull : ds.take j = ds := List.take_of_length_le (by omega)
        rw [hfull]
        rcases hexSeg_stop s _ tz ht ds HD.out with h6 | h7 | ⟨h8, hno⟩
        · have hi2 : ¬ (((a + 3 + j : Nat) : Int) < a + 9) := by omega
          clear hfull
          by_cases hi1 : ((a + 3 + j : Nat) : Int) < tz
          · go_wp2_with fail
            go_meet
            exact ⟨rfl, by go_num, rfl⟩
          · go_wp2_with fail
            go_meet
            exact ⟨rfl, by go_num, rfl⟩
        · have hi1 : ¬ (((a + 3 + j : Nat) : Int) < tz) := by omega
          clear hfull
          go_wp2_with fail
          go_meet
          exact ⟨rfl, by go_num, rfl⟩
        · subst hjl
          by_cases hi2 : ((a + 3 + ds.length : Nat) : Int) < a + 9
          · obtain ⟨c, hcc⟩ : ∃ c, s[a + 3 + ds.length]'(by omega) = c := ⟨_, rfl⟩
            rw [hcc] at hno
            have q2 := byte_is s (a + 3 + ds.length) (by omega) c c c.toNat rfl hcc rfl
            have hi1 : ((a + 3 + ds.length : Nat) : Int) < tz := by omega
            have hno2 := hex_no c hno
            obtain ⟨d, hd⟩ : ∃ d, Lib.indexByte hexDigits (c ||| 32) = d := ⟨_, rfl⟩
            rw [hd] at hno2
            have HIX := fun W => index_hex c _ hd W
            have HD2 := Lib.hid hd
            clear hcc hno hfull hd
            by_cases g1 : d < 0
            · go_wp2_with fail
              refine (HIX _).mono ?_
              rintro e w' ⟨rfl, rfl⟩
              go_wp2_with fail
              go_meet
              exact ⟨rfl, rfl, rfl⟩
            · by_cases g2 : (c.toNat : Int) < 48
              · go_wp2_with fail
                refine (HIX _).mono ?_
                rintro e w' ⟨rfl, rfl⟩
                go_wp2_with fail
                go_meet
                exact ⟨rfl, rfl, rfl⟩
              · have g3 : (57 : Int) < c.toNat := by omega
                have g4 : (c.toNat : Int) < 65 := by omega
                clear hno2
                go_wp2_with fail
                refine (HIX _).mono ?_
                rintro e w' ⟨rfl, rfl⟩
                go_wp2_with fail
                go_meet
                exact ⟨rfl, rfl, rfl⟩
          · clear hfull
            have hi1 : ((a + 3 + ds.length : Nat) : Int) < tz := by omega
            go_wp2_with fail
            go_meet
            exact ⟨rfl, rfl, rfl⟩
  case rest =>
    obtain ⟨rfl, rfl, rfl⟩ := hcut
    have hsm := (HSM ds.length).out
    rw [List.take_length] at hsm
    have HDD : Hid (((seg s (a + 3) tz).take 6).takeWhile Ini.isHex = ds) := Lib.hid HD.out
    by_cases hk0 : ds.length = 0
    · have h0 : ds = [] := List.eq_nil_of_length_eq_zero hk0
      have HE : Hid (v = .tuple #[.string ⟨#[]⟩, .int .i64 0, .int .i64 4]) := Lib.hid (by
        rw [← HV.out, HSEG.out, esc_u0 _ _ (HDD.out.trans h0)]; rfl)
      subst h0
      clear hk0
      go_wp2_with fail
      go_ret3
      exact ⟨by rw [HE.out]; rfl, Below.refl _ _⟩
    · have HNE : Hid (ds ≠ []) := Lib.hid (by intro e; rw [e] at hk0; simp at hk0)
      have hne : ¬ (((a + 3 + ds.length : Nat) : Int) = (a : Int) + 3) := by omega
      have hneb : ((a : Int) + 3 + (ds.length : Int) == (a : Int) + 3) = false := by simp; omega
      by_cases hi1 : ((a + 3 + ds.length : Nat) : Int) < tz
      · obtain ⟨c, hcc⟩ : ∃ c, s[a + 3 + ds.length]'(by omega) = c := ⟨_, rfl⟩
        have hdrop : (seg s (a + 3) tz).drop ds.length = c :: seg s (a + 3 + ds.length + 1) tz := by
          have : (seg s (a + 3) tz).drop ds.length = seg s (a + 3 + ds.length) tz := by unfold seg; rw [List.drop_drop]
          rw [this, seg_cons s _ tz (by omega) ht, hcc]
        by_cases h125 : c = 125
        · have q2 := byte_is s (a + 3 + ds.length) (by omega) c 125 125 rfl hcc h125
          by_cases hsc : Ini.isScalar (Ini.hexVal ds) = true
          · have HE : Hid (v = .tuple #[.string ⟨(Ini.enc (Ini.hexVal ds)).toArray⟩, .int .i64 ((ds.length + 4 : Nat) : Int), .int .i64 0]) := Lib.hid (by
              rw [← HV.out, HSEG.out, esc_u2 _ _ ds HDD.out HNE.out _ _ hdrop]
              simp only [h125, ne_eq, not_true_eq_false, if_false, hsc, if_true]; rfl)
            have HSC := Lib.hid hsc
            clear hcc hdrop h125 hsc
            go_wp2_with fail
            refine (encode_yes (Ini.hexVal ds) w.heap.size (w.alloc (.cells #[.int .i32 (Ini.hexVal ds)] 21)) (cell_new_rune w (Ini.hexVal ds)) HSC.out (by omega)).mono ?_
            rintro e w1 ⟨rfl, hb1⟩
            go_wp2_with fail
            go_ret3
            exact ⟨by rw [HE.out]; refine congrArg Ending.returned (congrArg Value.tuple ?_); go_num, ((Below.refl _ _).alloc (Nat.le_refl _) _).trans (hb1.mono (by simp))⟩
          · have HE : Hid (v = .tuple #[.string ⟨#[]⟩, .int .i64 0, .int .i64 11]) := Lib.hid (by
              rw [← HV.out, HSEG.out, esc_u2 _ _ ds HDD.out HNE.out _ _ hdrop]
              simp only [h125, ne_eq, not_true_eq_false, if_false, hsc]; rfl)
            have HSC : Hid (Ini.isScalar (Ini.hexVal ds) = false) := Lib.hid (by simpa using hsc)
            clear hcc hdrop h125 hsc
            go_wp2_with fail
            refine (encode_no (Ini.hexVal ds) w.heap.size (w.alloc (.cells #[.int .i32 (Ini.hexVal ds)] 21)) (cell_new_rune w (Ini.hexVal ds)) HSC.out).mono ?_
            rintro e w1 ⟨rfl, hb1⟩
            go_wp2_with fail
            go_ret3
            exact ⟨by rw [HE.out]; rfl, ((Below.refl _ _).alloc (Nat.le_refl _) _).trans (hb1.mono (by simp))⟩
        · have q2 := byte_not s (a + 3 + ds.length) (by omega) c 125 125 rfl hcc h125
          have q2b := byte_nob s (a + 3 + ds.length) (by omega) c 125 125 rfl hcc h125
          have q2c : ((((⟨s.toArray⟩ : ByteArray)[a + 3 + ds.length]'(by simp [ByteArray.size]; omega)).toNat : Int) != 125) = true := by simpa using q2
          have HE : Hid (v = .tuple #[.string ⟨#[]⟩, .int .i64 0, .int .i64 4]) := Lib.hid (by
            rw [← HV.out, HSEG.out, esc_u2 _ _ ds HDD.out HNE.out _ _ hdrop]
            simp only [ne_eq, h125, not_false_eq_true, if_true]; rfl)
          clear hcc hdrop h125
          go_wp2_with fail
          go_ret3
          exact ⟨by rw [HE.out]; rfl, Below.refl _ _⟩
      · have hdrop : (seg s (a + 3) tz).drop ds.length = [] := List.drop_eq_nil_of_le (by rw [seg_len s _ tz ht]; omega)
        have HE : Hid (v = .tuple #[.string ⟨#[]⟩, .int .i64 0, .int .i64 4]) := Lib.hid (by
          rw [← HV.out, HSEG.out, esc_u1 _ _ ds HDD.out hdrop]; rfl)
        clear hdrop
        go_wp2_with fail
        go_ret3
        exact ⟨by rw [HE.out]; rfl, Below.refl _ _⟩
end Go.Proofs.YtegdemnfjmaicaaDoor
