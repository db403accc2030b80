/- Walks: the reference's reader of quoted texts. -/
import Derived.Test.YtegdemnfjmaicaaDoorWalk34
import Derived.Test.YtegdemnfjmaicaaDoorWalk8
import Derived.Test.YtegdemnfjmaicaaDoorWalk7
namespace Go.Proofs.YtegdemnfjmaicaaDoor
open Go.RowKit
/-- what the reference's reader of a quoted text leaves. -/
def RQPost (B rb tz : Nat) (z : Bool) (V : PV) (s : Ini.Str) (st : Ini.St) (R : Ini.Res (Ini.Str × Nat)) (e : Ending) (w' : World) : Prop :=
  match R with
  | .err x c => e = .returned (.tuple #[.string ⟨#[]⟩, .int .i64 (tz : Nat)]) ∧ RAt B (failV z V x c) w' rb s st
  | .ok p => e = .returned (.tuple #[.string ⟨p.1.toArray⟩, .int .i64 (p.2 : Nat)]) ∧ RAt B V w' rb s st
theorem qs_esc (s : Ini.Str) (i tz : Nat) (acc : Ini.Str) (ht : tz ≤ s.length) (hi : i < tz) (hc : s[i]'(by omega) = 92) : Ini.Q (seg s i tz) i acc = match Ini.esc (seg s i tz) with
    | .err _ e => .err i e
    | .ok (t, k) => Ini.Q (seg s (i + k) tz) (i + k) (acc ++ t) := by
  have e : seg s i tz = 92 :: seg s (i + 1) tz := by rw [seg_cons s i tz hi ht, hc]
  rw [e, Ini.Q_esc, ← e]
  cases Ini.esc (seg s i tz) with
  | err x c => rfl
  | ok p => simp only; rw [seg_drop]
theorem seg_pair (s : Ini.Str) (i tz : Nat) (hi : i + 1 < tz) (ht : tz ≤ s.length) : seg s i tz = s[i]'(by omega) :: s[i + 1]'(by omega) :: seg s (i + 2) tz := by
  rw [seg_cons s i tz (by omega) ht, seg_cons s (i + 1) tz hi ht]
theorem esc_same (x c : UInt8) (q : Ini.Str) (h : c = 92 ∨ c = 34) : Ini.esc (x :: c :: q) = .ok ([c], 2) := by simp only [Ini.esc, List.drop_succ_cons, List.drop_zero, if_pos h]
theorem esc_other (x c : UInt8) (q : Ini.Str) (h1 : ¬ (c = 92 ∨ c = 34)) (h2 : c ≠ 110) (h3 : c ≠ 114) (h4 : c ≠ 116) (h5 : c ≠ 117) : Ini.esc (x :: c :: q) = .err 0 4 := by
  simp only [Ini.esc, List.drop_succ_cons, List.drop_zero, if_neg h1, if_neg h2, if_neg h3, if_neg h4, if_neg h5]
/-- an escape at u. -/
theorem esc_at_u (s : Ini.Str) (i tz : Nat) (ht : tz ≤ s.length) (hi : i + 1 < tz) (hu : s[i + 1]'(by omega) = 117) (ds : Ini.Str) (hds : hexSeg s (i + 3) tz = ds) :
    Ini.esc (seg s i tz) = if (∃ h : i + 2 < tz, s[i + 2]'(by omega) = 123) ∧ ds ≠ [] ∧ (∃ h : i + 3 + ds.length < tz, s[i + 3 + ds.length]'(by omega) = 125) then
      (if Ini.isScalar (Ini.hexVal ds) then .ok (Ini.enc (Ini.hexVal ds), ds.length + 4) else .err 0 11) else .err 0 4 := by
  rw [seg_pair s i tz hi ht, hu]
  by_cases h2 : i + 2 < tz
  · rw [seg_cons s (i + 2) tz h2 ht]
    by_cases h3 : s[i + 2]'(by omega) = 123
    · rw [h3]
      unfold hexSeg at hds
      by_cases h4 : i + 3 + ds.length < tz
      · have hd : (seg s (i + 2 + 1) tz).drop ds.length = s[i + 3 + ds.length]'(by omega) :: seg s (i + 3 + ds.length + 1) tz := by
          have e3 : i + 2 + 1 + ds.length = i + 3 + ds.length := by omega
          rw [seg_drop, show seg s (i + 2 + 1 + ds.length) tz = seg s (i + 3 + ds.length) tz from by rw [e3]]; exact seg_cons s _ tz h4 ht
        by_cases h5 : ds = []
        · rw [esc_u0 _ _ (by rw [show i + 2 + 1 = i + 3 from rfl, hds, h5]), if_neg (by simp [h5])]
        · rw [esc_u2 _ _ ds hds h5 _ _ hd]
          by_cases h6 : s[i + 3 + ds.length]'(by omega) = 125
          · rw [if_neg (by simp [h6])]
            symm
            rw [if_pos ⟨⟨h2, h3⟩, h5, ⟨h4, h6⟩⟩]
          · rw [if_pos h6, if_neg (by rintro ⟨_, _, _, h⟩; exact h6 h)]
      · have hd : (seg s (i + 2 + 1) tz).drop ds.length = [] := by rw [seg_drop]; exact seg_nil s _ _ (by omega)
        rw [esc_u1 _ _ ds hds hd, if_neg (by rintro ⟨_, _, h, _⟩; exact h4 h)]
    · rw [if_neg (by rintro ⟨⟨_, h⟩, _⟩; exact h3 h)]
      have : Ini.esc (s[i] :: 117 :: s[i + 2]'(by omega) :: seg s (i + 2 + 1) tz) = .err 0 4 := by
        simp [Ini.esc, h3]
      exact this
  · rw [if_neg (by rintro ⟨⟨h, _⟩, _⟩; exact h2 h), seg_nil s _ _ (by omega)]
    simp [Ini.esc]
theorem at_some (s : Ini.Str) (k tz : Nat) (ht : tz ≤ s.length) (c : UInt8) : (∃ h : k < tz, s[k]'(by omega) = c) = (k < tz ∧ s[k]? = some c) := by
  apply propext
  constructor
  · rintro ⟨h, e⟩; exact ⟨h, by rw [List.getElem?_eq_getElem (by omega), e]⟩
  · rintro ⟨h, e⟩; exact ⟨h, (List.getElem?_eq_some_iff.1 e).2⟩
theorem esc_at_u' (s : Ini.Str) (i tz : Nat) (ht : tz ≤ s.length) (hi : i + 1 < tz) (hu : s[i + 1]'(by omega) = 117) (ds : Ini.Str) (hds : hexSeg s (i + 3) tz = ds) :
    Ini.esc (seg s i tz) = if (i + 2 < tz ∧ s[i + 2]? = some 123) ∧ ds.length ≠ 0 ∧ (i + 3 + ds.length < tz ∧ s[i + 3 + ds.length]? = some 125) then
      (if Ini.isScalar (Ini.hexVal ds) then .ok (Ini.enc (Ini.hexVal ds), ds.length + 4) else .err 0 11) else .err 0 4 := by
  have h := esc_at_u s i tz ht hi hu ds hds
  have hiff : ((∃ h : i + 2 < tz, s[i + 2]'(by omega) = 123) ∧ ds ≠ [] ∧ (∃ h : i + 3 + ds.length < tz, s[i + 3 + ds.length]'(by omega) = 125)) ↔ ((i + 2 < tz ∧ s[i + 2]? = some 123) ∧ ds.length ≠ 0 ∧ (i + 3 + ds.length < tz ∧ s[i + 3 + ds.length]? = some 125)) := by
    rw [at_some s _ tz ht, at_some s _ tz ht]
    simp
  by_cases hA : ((i + 2 < tz ∧ s[i + 2]? = some 123) ∧ ds.length ≠ 0 ∧ (i + 3 + ds.length < tz ∧ s[i + 3 + ds.length]? = some 125))
  · rw [h, if_pos (hiff.2 hA), if_pos hA]
  · rw [h, if_neg (fun hh => hA (hiff.1 hh)), if_neg hA]
theorem hexSeg_stop' (s : Ini.Str) (a tz : Nat) (ht : tz ≤ s.length) (ds : Ini.Str) (hds : hexSeg s a tz = ds) (h6 : ds.length < 6) (hlt : a + ds.length < tz) : ∃ x, s[a + ds.length]? = some x ∧ Ini.isHex x = false := by
  rcases hexSeg_stop s a tz ht ds hds with h | h | ⟨_, h⟩
  · omega
  · omega
  · exact ⟨_, List.getElem?_eq_getElem (by omega), h⟩
set_option maxRecDepth 100000 in
set_option maxHeartbeats 16000000 in
theorem rquoted_any (B rb a tz : Nat) (V : PV) (s : Ini.Str) (st : Ini.St) (w : World) (h : RAt B V w rb s st) (ha : a < tz) (ht : tz ≤ s.length) (hs : s.length ≤ 1073741823) (z : Bool) (hz : E0 z V)
    (R : Ini.Res (Ini.Str × Nat)) (hR : Ini.quoted (seg s a tz) a = R) :
    Calls Tryd.prog 48 #[.pointer (some ⟨rb, 0, none⟩), .int .i64 a, .int .i64 tz] w fun e w' => Below B w w' ∧ RQPost B rb tz z V s st R e w' := by
  have hR : Ini.Q (seg s (a + 1) tz) (a + 1) [] = R := by rw [← hR, seg_cons s a tz ha ht, Ini.quoted_Q]
  have HR0 := Lib.hid hR
  have HA := Lib.hid h
  have HZ := Lib.hid hz
  have hsrc := h.src
  clear hR h hz
  go_enter Tryd.func48, Tryd.ntmps48
  go_wp2_with fail
  clear hsrc
  go_loopw [1, 9] (fun s1 s9 wr => ∃ (i : Nat) (acc : List UInt8), a < i ∧ i ≤ tz ∧ acc.length ≤ i ∧ s1 = .int .i64 i ∧ s9 = .string ⟨acc.toArray⟩ ∧ Below B w wr ∧ RAt B V wr rb s st ∧ Hid (Ini.Q (seg s i tz) i acc = R)) (fun s1 _ _ => tz - (intOf s1).toNat)
  case atStart => exact ⟨a + 1, [], by omega, by omega, by simp, by go_num, rfl, Below.refl _ _, HA.out, HR0⟩
  case round =>
    obtain ⟨i, acc, hai, hit, hacc, rfl, rfl, hb, hra, hQ⟩ := hrel
    have HB := Lib.hid hb
    have HRA := Lib.hid hra
    clear hb hra
    by_cases hlt : i < tz
    · have hltI : (i : Int) < (tz : Int) := by omega
      have hil : i < s.length := by omega
      have hcc : ∃ c, s[i] = c := ⟨_, rfl⟩
      obtain ⟨c, hc⟩ := hcc
      by_cases h34 : c = 34
      · have q1 := byte_is s i hil 34 34 34 rfl (by rw [hc, h34]) rfl
        have q1b := byte_isb s i hil 34 34 34 rfl (by rw [hc, h34]) rfl
        have HE : Hid (R = .ok (acc, i + 1)) := Lib.hid (by rw [← hQ.out, seg_cons s i tz hlt ht, hc, h34, Ini.Q_end])
        clear hc h34 hQ
        go_wp2_with fail
        go_ret2
        rw [HE.out]
        exact ⟨HB.out, by go_num, HRA.out⟩
      · have q1 := byte_not s i hil c 34 34 rfl hc h34
        have q1b := byte_nob s i hil c 34 34 rfl hc h34
        by_cases h92 : c = 92
        · have q2 := byte_is s i hil 92 92 92 rfl (by rw [hc, h92]) rfl
          have q2b := byte_isb s i hil 92 92 92 rfl (by rw [hc, h92]) rfl
          have i3 : ¬ (9223372036854775807 < acc.length + 1) := by omega
          have HRX := HRA
          have HBX := HB
          by_cases h1 : i + 1 < tz
          · have h1I : (i : Int) + 1 < (tz : Int) := by omega
            have h1l : i + 1 < s.length := by omega
            obtain ⟨d, hd⟩ : ∃ d, s[i + 1] = d := ⟨_, rfl⟩
            by_cases d92 : d = 92
            · have p92 := byte_is s (i + 1) h1l 92 92 92 rfl (by rw [hd, d92]) rfl
              have p92b := byte_isb s (i + 1) h1l 92 92 92 rfl (by rw [hd, d92]) rfl
              have hex : (⟨s.toArray⟩ : ByteArray).extract (i + 1) (i + 2) = ⟨([92] : Ini.Str).toArray⟩ := by rw [extract_seg, seg_cons s (i + 1) (i + 2) (by omega) (by omega), seg_nil _ _ _ (Nat.le_refl _), hd, d92]
              have j1 : (i : Int) + 1 ≤ (i : Int) + 2 := by omega
              have j2 : (i : Int) + 2 ≤ (s.length : Int) := by omega
              have HQ2 : Hid (Ini.Q (seg s (i + 2) tz) (i + 2) (acc ++ [92]) = R) := Lib.hid (by rw [← hQ.out, qs_esc s i tz acc ht hlt (by rw [hc, h92]), seg_pair s i tz h1 ht, hd]; rw [d92, esc_same _ 92 _ (.inl rfl)])
              clear hc hd h34 h92 hQ
              go_wp2_with fail
              go_roundw
              case rel => exact ⟨i + 2, acc ++ [92], by omega, by omega, by simp; omega, by go_num, by rw [cat_list'], HB.out, HRA.out, HQ2⟩
              case measure => simp [intOf]; omega
            · have p92 := byte_not s (i + 1) h1l d 92 92 rfl hd d92
              have p92b := byte_nob s (i + 1) h1l d 92 92 rfl hd d92
              by_cases d34 : d = 34
              · have p34 := byte_is s (i + 1) h1l 34 34 34 rfl (by rw [hd, d34]) rfl
                have p34b := byte_isb s (i + 1) h1l 34 34 34 rfl (by rw [hd, d34]) rfl
                have hex : (⟨s.toArray⟩ : ByteArray).extract (i + 1) (i + 2) = ⟨([34] : Ini.Str).toArray⟩ := by rw [extract_seg, seg_cons s (i + 1) (i + 2) (by omega) (by omega), seg_nil _ _ _ (Nat.le_refl _), hd, d34]
                have j1 : (i : Int) + 1 ≤ (i : Int) + 2 := by omega
                have j2 : (i : Int) + 2 ≤ (s.length : Int) := by omega
                have HQ2 : Hid (Ini.Q (seg s (i + 2) tz) (i + 2) (acc ++ [34]) = R) := Lib.hid (by rw [← hQ.out, qs_esc s i tz acc ht hlt (by rw [hc, h92]), seg_pair s i tz h1 ht, hd]; rw [d34, esc_same _ 34 _ (.inr rfl)])
                clear hc hd h34 h92 hQ
                go_wp2_with fail
                go_roundw
                case rel => exact ⟨i + 2, acc ++ [34], by omega, by omega, by simp; omega, by go_num, by rw [cat_list'], HB.out, HRA.out, HQ2⟩
                case measure => simp [intOf]; omega
              · have p34 := byte_not s (i + 1) h1l d 34 34 rfl hd d34
                have p34b := byte_nob s (i + 1) h1l d 34 34 rfl hd d34
                by_cases d110 : d = 110
                · have p110 := byte_is s (i + 1) h1l 110 110 110 rfl (by rw [hd, d110]) rfl
                  have p110b := byte_isb s (i + 1) h1l 110 110 110 rfl (by rw [hd, d110]) rfl
                  have HQ2 : Hid (Ini.Q (seg s (i + 2) tz) (i + 2) (acc ++ [10]) = R) := Lib.hid (by rw [← hQ.out, qs_esc s i tz acc ht hlt (by rw [hc, h92]), seg_pair s i tz h1 ht, hd]; rw [d110]; rfl)
                  clear hc hd h34 h92 hQ
                  go_wp2_with fail
                  go_roundw
                  case rel => exact ⟨i + 2, acc ++ [10], by omega, by omega, by simp; omega, by go_num, by rw [show (⟨#[10]⟩ : ByteArray) = ⟨([10] : Ini.Str).toArray⟩ from rfl, cat_list'], HB.out, HRA.out, HQ2⟩
                  case measure => simp [intOf]; omega
                · have p110 := byte_not s (i + 1) h1l d 110 110 rfl hd d110
                  have p110b := byte_nob s (i + 1) h1l d 110 110 rfl hd d110
                  by_cases d114 : d = 114
                  · have p114 := byte_is s (i + 1) h1l 114 114 114 rfl (by rw [hd, d114]) rfl
                    have p114b := byte_isb s (i + 1) h1l 114 114 114 rfl (by rw [hd, d114]) rfl
                    have HQ2 : Hid (Ini.Q (seg s (i + 2) tz) (i + 2) (acc ++ [13]) = R) := Lib.hid (by rw [← hQ.out, qs_esc s i tz acc ht hlt (by rw [hc, h92]), seg_pair s i tz h1 ht, hd]; rw [d114]; rfl)
                    clear hc hd h34 h92 hQ
                    go_wp2_with fail
                    go_roundw
                    case rel => exact ⟨i + 2, acc ++ [13], by omega, by omega, by simp; omega, by go_num, by rw [show (⟨#[13]⟩ : ByteArray) = ⟨([13] : Ini.Str).toArray⟩ from rfl, cat_list'], HB.out, HRA.out, HQ2⟩
                    case measure => simp [intOf]; omega
                  · have p114 := byte_not s (i + 1) h1l d 114 114 rfl hd d114
                    have p114b := byte_nob s (i + 1) h1l d 114 114 rfl hd d114
                    by_cases d116 : d = 116
                    · have p116 := byte_is s (i + 1) h1l 116 116 116 rfl (by rw [hd, d116]) rfl
                      have p116b := byte_isb s (i + 1) h1l 116 116 116 rfl (by rw [hd, d116]) rfl
                      have HQ2 : Hid (Ini.Q (seg s (i + 2) tz) (i + 2) (acc ++ [9]) = R) := Lib.hid (by rw [← hQ.out, qs_esc s i tz acc ht hlt (by rw [hc, h92]), seg_pair s i tz h1 ht, hd]; rw [d116]; rfl)
                      clear hc hd h34 h92 hQ
                      go_wp2_with fail
                      go_roundw
                      case rel => exact ⟨i + 2, acc ++ [9], by omega, by omega, by simp; omega, by go_num, by rw [show (⟨#[9]⟩ : ByteArray) = ⟨([9] : Ini.Str).toArray⟩ from rfl, cat_list'], HB.out, HRA.out, HQ2⟩
                      case measure => simp [intOf]; omega
                    · have p116 := byte_not s (i + 1) h1l d 116 116 rfl hd d116
                      have p116b := byte_nob s (i + 1) h1l d 116 116 rfl hd d116
                      by_cases d117 : d = 117
                      · have p117 := byte_is s (i + 1) h1l 117 117 117 rfl (by rw [hd, d117]) rfl
                        have p117b := byte_isb s (i + 1) h1l 117 117 117 rfl (by rw [hd, d117]) rfl
                        obtain ⟨ds, hds⟩ : ∃ ds, hexSeg s (i + 3) tz = ds := ⟨_, rfl⟩
                        have hes := esc_at_u' s i tz ht h1 (by rw [hd, d117]) ds hds
                        have HQ3 := Lib.hid (show Ini.Q (seg s i tz) i acc = _ from qs_esc s i tz acc ht hlt (by rw [hc, h92]))
                        have HES := Lib.hid hes
                        have HDS := Lib.hid hds
                        have hd6 := hexSeg_len s (i + 3) tz ds hds
                        clear hc hd h34 h92 hes hds d117
                        go_wp2_with fail
                        go_loop [12, 13] (fun s12 s13 => ∃ j : Nat, j ≤ ds.length ∧ s12 = .int .i64 (Ini.hexVal (ds.take j)) ∧ s13 = .int .i64 ((i + 3 + j : Nat) : Int)) (fun _ s13 => ds.length - (intOf s13 - (i + 3)).toNat)
                        case atStart => exact ⟨0, by omega, rfl, by go_num⟩
                        case round =>
                          obtain ⟨j, hj, rfl, rfl⟩ := hrel
                          have hsm := hexVal_small s (i + 3) tz j ht ds HDS.out
                          obtain ⟨hv, hhv⟩ : ∃ hv, Ini.hexVal (ds.take j) = hv := ⟨_, rfl⟩
                          rw [hhv] at hsm ⊢
                          by_cases hjl : j < ds.length
                          · obtain ⟨g1, g2, g3, g4⟩ := hexSeg_at s (i + 3) tz j ht ds HDS.out hjl
                            have g1I : ((i + 3 + j : Nat) : Int) < (tz : Int) := by omega
                            have gl : i + 3 + j < s.length := by omega
                            have glI : ((i + 3 + j : Nat) : Int) < (s.length : Int) := by omega
                            have g2I : ((i + 3 + j : Nat) : Int) ≤ (i : Int) + 2 + 6 := by omega
                            have g2J : ((i + 3 + j : Nat) : Int) ≤ (i : Int) + 8 := by omega
                            obtain ⟨x, hx⟩ : ∃ x, s[i + 3 + j] = x := ⟨_, rfl⟩
                            rw [hx] at g3 g4
                            have hdg := digit_hex x
                            rw [if_pos g4] at hdg
                            have hxb : (((⟨s.toArray⟩ : ByteArray)[i + 3 + j]'(by simpa [ByteArray.size] using gl)).toNat : Int) = (x.toNat : Int) := by
                              have : (⟨s.toArray⟩ : ByteArray)[i + 3 + j]'(by simpa [ByteArray.size] using gl) = s[i + 3 + j] := rfl
                              rw [this, hx]
                            have hh16 : Ini.hexOf x < 16 := (hex_yes x g4).2.2.2
                            have HV2 : Hid (Ini.hexVal (ds.take (j + 1)) = 16 * hv + Ini.hexOf x) := Lib.hid (by rw [List.take_succ_eq_append_getElem hjl, hexVal_snoc, hhv, g3])
                            obtain ⟨xn, hxn⟩ : ∃ xn, x.toNat = xn := ⟨_, rfl⟩
                            have hx256 : xn < 256 := by rw [← hxn]; exact UInt8.toNat_lt _
                            rw [hxn] at hxb hdg
                            obtain ⟨hh, hhh⟩ : ∃ hh, Ini.hexOf x = hh := ⟨_, rfl⟩
                            rw [hhh] at hdg hh16 HV2
                            have HDG := Lib.hid hdg
                            have h0I : (0 : Int) ≤ (hh : Int) := by omega
                            clear hdg hx g3 g4 hxn hhh hhv
                            go_wp2_with fail
                            refine (digit_any xn hx256 _ _ HDG.out).mono ?_
                            rintro e w2 ⟨rfl, rfl⟩
                            go_wp2_with fail
                            refine (digit_any xn hx256 _ _ HDG.out).mono ?_
                            rintro e w2 ⟨rfl, rfl⟩
                            go_wp2_with fail
                            go_round
                            case rel => exact ⟨j + 1, by omega, by rw [HV2.out]; go_num, by go_num⟩
                            case measure => simp [intOf]; omega
                          · have hje : j = ds.length := by omega
                            subst hje
                            rw [List.take_length] at hhv
                            obtain ⟨m, hm⟩ : ∃ m, ds.length = m := ⟨_, rfl⟩
                            have hstop := hexSeg_stop' s (i + 3) tz ht ds HDS.out
                            have hes := HES.out
                            rw [hhv] at hes
                            rw [hm] at hstop hd6 hes
                            have HM := Lib.hid hm
                            have HHV := Lib.hid hhv
                            have HES2 := Lib.hid hes
                            have kk : (0 : Int) ≤ (m : Int) := by omega
                            rw [hm]
                            clear hj hhv hjl hes hm HES
                            go_upto_region 28 with fail
                            go_cut [101] (fun s101 wx => s101 = .bool false ∧ wx = wr)
                            case first =>
                              by_cases ct : i + 3 + m < tz
                              · have ctI : ((i + 3 + m : Nat) : Int) < (tz : Int) := by omega
                                by_cases c6 : m < 6
                                · have c6I : ((i + 3 + m : Nat) : Int) ≤ (i : Int) + 8 := by omega
                                  have c6J : ((i + 3 + m : Nat) : Int) ≤ (i : Int) + 2 + 6 := by omega
                                  obtain ⟨x, hx', hnx⟩ := hstop c6 ct
                                  have gl : i + 3 + m < s.length := by omega
                                  have glI : ((i + 3 + m : Nat) : Int) < (s.length : Int) := by omega
                                  have hx : s[i + 3 + m] = x := (List.getElem?_eq_some_iff.1 hx').2
                                  have hdg := digit_hex x
                                  rw [hnx, if_neg (by simp)] at hdg
                                  have hxb : (((⟨s.toArray⟩ : ByteArray)[i + 3 + m]'(by simpa [ByteArray.size] using gl)).toNat : Int) = (x.toNat : Int) := by
                                    have : (⟨s.toArray⟩ : ByteArray)[i + 3 + m]'(by simpa [ByteArray.size] using gl) = s[i + 3 + m] := rfl
                                    rw [this, hx]
                                  obtain ⟨xn, hxn⟩ : ∃ xn, x.toNat = xn := ⟨_, rfl⟩
                                  have hx256 : xn < 256 := by rw [← hxn]; exact UInt8.toNat_lt _
                                  rw [hxn] at hxb hdg
                                  have HDG := Lib.hid hdg
                                  clear hdg hx hx' hnx hxn hstop
                                  go_wp2_with fail
                                  refine (digit_any xn hx256 _ _ HDG.out).mono ?_
                                  rintro e w2 ⟨rfl, rfl⟩
                                  go_wp2_with fail
                                  go_meet
                                  exact ⟨rfl, rfl⟩
                                · have c6I : ¬ (((i + 3 + m : Nat) : Int) ≤ (i : Int) + 8) := by omega
                                  have c6J : ¬ (((i + 3 + m : Nat) : Int) ≤ (i : Int) + 2 + 6) := by omega
                                  have c6b : decide (((i + 3 + m : Nat) : Int) ≤ (i : Int) + 8) = false := by simpa using c6I
                                  clear hstop
                                  go_wp2_with fail
                                  go_meet
                                  exact ⟨rfl, rfl⟩
                              · have ctI : ¬ (((i + 3 + m : Nat) : Int) < (tz : Int)) := by omega
                                have ctb : decide (((i + 3 + m : Nat) : Int) < (tz : Int)) = false := by simpa using ctI
                                clear hstop
                                go_wp2_with fail
                                go_meet
                                exact ⟨rfl, rfl⟩
                            case rest =>
                              rename_i wOld
                              obtain ⟨rfl, rfl⟩ := hcut
                              clear hstop
                              by_cases hC : (i + 2 < tz ∧ s[i + 2]? = some 123) ∧ m ≠ 0 ∧ (i + 3 + m < tz ∧ s[i + 3 + m]? = some 125)
                              · have hes := HES2.out
                                rw [if_pos hC] at hes
                                obtain ⟨⟨c1, c2⟩, c3, c4, c5⟩ := hC
                                have f2 : s[i + 2]'(by omega) = 123 := (List.getElem?_eq_some_iff.1 c2).2
                                have f5 : s[i + 3 + m]'(by omega) = 125 := (List.getElem?_eq_some_iff.1 c5).2
                                have r1 := byte_is s (i + 2) (by omega) 123 123 123 rfl f2 rfl
                                have r1b := byte_isb s (i + 2) (by omega) 123 123 123 rfl f2 rfl
                                have r2 := byte_is s (i + 3 + m) (by omega) 125 125 125 rfl f5 rfl
                                have r2b := byte_isb s (i + 3 + m) (by omega) 125 125 125 rfl f5 rfl
                                have t1 : ¬ ((tz : Int) ≤ (i : Int) + 2) := by omega
                                have t1b : decide ((tz : Int) ≤ (i : Int) + 2) = false := by simpa using t1
                                have t2 : ¬ (((i + 3 + m : Nat) : Int) = (i : Int) + 2 + 1) := by omega
                                have t2' : ¬ (((i + 3 + m : Nat) : Int) = (i : Int) + 3) := by omega
                                have t2b : ((i : Int) + 3 + (m : Int) == (i : Int) + 2 + 1) = false := by rw [beq_eq_false_iff_ne]; omega
                                have t3 : ¬ ((tz : Int) ≤ ((i + 3 + m : Nat) : Int)) := by omega
                                have t3b : decide ((tz : Int) ≤ (i : Int) + 3 + (m : Int)) = false := by rw [decide_eq_false_iff_not]; omega
                                have u1 : (i : Int) + 2 < (s.length : Int) := by omega
                                have u2 : ((i + 3 + m : Nat) : Int) < (s.length : Int) := by omega
                                clear c2 c5 f2 f5
                                cases hsc : Ini.isScalar hv with
                                | false =>
                                  rw [hsc] at hes
                                  have HE : Hid (R = .err i 11) := Lib.hid (by rw [← hQ.out, HQ3.out, hes]; rfl)
                                  have HSC := Lib.hid hsc
                                  clear hes hsc hQ
                                  go_wp2_with fail
                                  refine (rscalar_any hv hsm _ _ HSC.out).mono ?_
                                  rintro e w3 ⟨rfl, rfl⟩
                                  go_wp2_with fail
                                  refine (rfail_any B rb i 11 V s st _ HRX.out z HZ.out).mono ?_
                                  rintro e w2 ⟨rfl, hb2, hr2⟩
                                  have HB2 : Hid (Below B w w2) := Lib.hid (HBX.out.trans hb2)
                                  have HR2 := Lib.hid hr2
                                  clear hb2 hr2
                                  go_wp2_with fail
                                  go_ret2
                                  rw [HE.out]
                                  exact ⟨HB2.out, rfl, HR2.out⟩
                                | true =>
                                  rw [hsc] at hes
                                  have hn11 : hv ≤ 1114111 := by unfold Ini.isScalar at hsc; simp at hsc; omega
                                  obtain ⟨E, hE⟩ : ∃ E, Ini.enc hv = E := ⟨_, rfl⟩
                                  have hE4 : E.length ≤ 4 := by rw [← hE]; exact Ini.enc_le hv
                                  have HQ2 : Hid (Ini.Q (seg s (i + (m + 4)) tz) (i + (m + 4)) (acc ++ E) = R) := Lib.hid (by rw [← hQ.out, HQ3.out, hes, ← hE]; rfl)
                                  have HENC : Hid (∀ W, Calls Tryd.prog 57 #[.int .i32 hv] W fun e w' => e = .returned (.string ⟨E.toArray⟩) ∧ Below W.heap.size W w') := Lib.hid (fun W => by rw [← hE]; exact rencode_any hv hn11 W)
                                  have HSC := Lib.hid hsc
                                  have i4 : ¬ (9223372036854775807 < acc.length + E.length) := by omega
                                  clear hes hsc hQ hE
                                  go_wp2_with fail
                                  refine (rscalar_any hv hsm _ _ HSC.out).mono ?_
                                  rintro e w3 ⟨rfl, rfl⟩
                                  go_wp2_with fail
                                  refine (HENC.out _).mono ?_
                                  rintro e w3 ⟨rfl, hb3⟩
                                  have HB3 : Hid (Below B w w3) := Lib.hid (HBX.out.trans (hb3.mono HRX.out.base))
                                  have HR3 := Lib.hid (HRX.out.later hb3)
                                  clear hb3
                                  go_wp2_with fail
                                  go_roundw
                                  case rel => exact ⟨i + (m + 4), acc ++ E, by omega, by omega, by simp; omega, by go_num, by rw [cat_list'], HB3.out, HR3.out, HQ2⟩
                                  case measure => simp [intOf]; omega
                              · have HE : Hid (R = .err i 4) := Lib.hid (by rw [← hQ.out, HQ3.out, HES2.out, if_neg hC])
                                clear hQ
                                go_upto_region 31 with fail
                                go_cut [136] (fun s136 wx => s136 = .bool true ∧ wx = wc)
                                case first =>
                                  by_cases c1 : i + 2 < tz
                                  · have t1 : ¬ ((tz : Int) ≤ (i : Int) + 2) := by omega
                                    have t1b : decide ((tz : Int) ≤ (i : Int) + 2) = false := by simpa using t1
                                    have u1 : (i : Int) + 2 < (s.length : Int) := by omega
                                    obtain ⟨b, hb⟩ : ∃ b, s[i + 2] = b := ⟨_, rfl⟩
                                    by_cases c2 : b = 123
                                    · have r1 := byte_is s (i + 2) (by omega) 123 123 123 rfl (by rw [hb, c2]) rfl
                                      have r1b := byte_isb s (i + 2) (by omega) 123 123 123 rfl (by rw [hb, c2]) rfl
                                      by_cases c3 : m = 0
                                      · have t2b : ((i : Int) + 3 + (m : Int) == (i : Int) + 2 + 1) = true := by rw [beq_iff_eq]; omega
                                        clear hb c2 hC c3
                                        go_wp2_with fail
                                        go_meet
                                        exact ⟨rfl, rfl⟩
                                      · have t2' : ¬ (((i + 3 + m : Nat) : Int) = (i : Int) + 3) := by omega
                                        have t2b : ((i : Int) + 3 + (m : Int) == (i : Int) + 2 + 1) = false := by rw [beq_eq_false_iff_ne]; omega
                                        by_cases c4 : i + 3 + m < tz
                                        · have t3 : ¬ ((tz : Int) ≤ ((i + 3 + m : Nat) : Int)) := by omega
                                          have t3b : decide ((tz : Int) ≤ (i : Int) + 3 + (m : Int)) = false := by rw [decide_eq_false_iff_not]; omega
                                          have u2 : ((i + 3 + m : Nat) : Int) < (s.length : Int) := by omega
                                          obtain ⟨b2, hb2⟩ : ∃ b2, s[i + 3 + m] = b2 := ⟨_, rfl⟩
                                          have c5 : b2 ≠ 125 := fun e => hC ⟨⟨c1, by rw [List.getElem?_eq_getElem (by omega), hb, c2]⟩, c3, c4, by rw [List.getElem?_eq_getElem (by omega), hb2, e]⟩
                                          have r2 := byte_not s (i + 3 + m) (by omega) b2 125 125 rfl hb2 c5
                                          have r2b := byte_nob s (i + 3 + m) (by omega) b2 125 125 rfl hb2 c5
                                          clear hb c2 hC c3 hb2 c5
                                          go_wp2_with fail
                                          go_meet
                                          exact ⟨by simp only [bne, r2b]; rfl, rfl⟩
                                        · have t3 : (tz : Int) ≤ ((i + 3 + m : Nat) : Int) := by omega
                                          clear hb c2 hC c3
                                          go_wp2_with fail
                                          go_meet
                                          exact ⟨rfl, rfl⟩
                                    · have r1 := byte_not s (i + 2) (by omega) b 123 123 rfl hb c2
                                      have r1b := byte_nob s (i + 2) (by omega) b 123 123 rfl hb c2
                                      clear hb c2 hC
                                      go_wp2_with fail
                                      go_meet
                                      exact ⟨rfl, rfl⟩
                                  · have t1 : (tz : Int) ≤ (i : Int) + 2 := by omega
                                    clear hC
                                    go_wp2_with fail
                                    go_meet
                                    exact ⟨rfl, rfl⟩
                                case rest =>
                                  rename_i wOld2
                                  obtain ⟨rfl, rfl⟩ := hcut
                                  go_wp2_with fail
                                  refine (rfail_any B rb i 4 V s st _ HRX.out z HZ.out).mono ?_
                                  rintro e w2 ⟨rfl, hb2, hr2⟩
                                  have HB2 : Hid (Below B w w2) := Lib.hid (HBX.out.trans hb2)
                                  have HR2 := Lib.hid hr2
                                  clear hb2 hr2
                                  go_wp2_with fail
                                  go_ret2
                                  rw [HE.out]
                                  exact ⟨HB2.out, rfl, HR2.out⟩
                      · have p117 := byte_not s (i + 1) h1l d 117 117 rfl hd d117
                        have p117b := byte_nob s (i + 1) h1l d 117 117 rfl hd d117
                        have HE : Hid (R = .err i 4) := Lib.hid (by rw [← hQ.out, qs_esc s i tz acc ht hlt (by rw [hc, h92]), seg_pair s i tz h1 ht, hd, esc_other _ d _ (by simp [d92, d34]) d110 d114 d116 d117])
                        clear hc hd h34 h92 hQ
                        go_wp2_with fail
                        refine (rfail_any B rb i 4 V s st _ HRX.out z HZ.out).mono ?_
                        rintro e w2 ⟨rfl, hb2, hr2⟩
                        have HB2 : Hid (Below B w w2) := Lib.hid (HBX.out.trans hb2)
                        have HR2 := Lib.hid hr2
                        clear hb2 hr2
                        go_wp2_with fail
                        go_ret2
                        rw [HE.out]
                        exact ⟨HB2.out, rfl, HR2.out⟩
          · have h1I : ¬ ((i : Int) + 1 < (tz : Int)) := by omega
            have HE : Hid (R = .err i 4) := Lib.hid (by rw [← hQ.out, qs_esc s i tz acc ht hlt (by rw [hc, h92]), seg_cons s i tz hlt ht, seg_nil s (i + 1) tz (by omega)]; simp [Ini.esc])
            clear hc h34 h92 hQ
            go_wp2_with fail
            refine (rfail_any B rb i 4 V s st _ HRX.out z HZ.out).mono ?_
            rintro e w2 ⟨rfl, hb2, hr2⟩
            have HB2 : Hid (Below B w w2) := Lib.hid (HBX.out.trans hb2)
            have HR2 := Lib.hid hr2
            clear hb2 hr2
            go_wp2_with fail
            go_ret2
            rw [HE.out]
            exact ⟨HB2.out, rfl, HR2.out⟩
        · have q2 := byte_not s i hil c 92 92 rfl hc h92
          have q2b := byte_nob s i hil c 92 92 rfl hc h92
          have HQ2 : Hid (Ini.Q (seg s (i + 1) tz) (i + 1) (acc ++ [c]) = R) := Lib.hid (by rw [← hQ.out, seg_cons s i tz hlt ht, hc, Ini.Q_byte _ _ _ _ h34 h92])
          have hex : (⟨s.toArray⟩ : ByteArray).extract i (i + 1) = ⟨([c] : Ini.Str).toArray⟩ := by rw [extract_seg, seg_cons s i (i + 1) (by omega) (by omega), seg_nil _ _ _ (Nat.le_refl _), hc]
          have i1 : (i : Int) ≤ (i : Int) + 1 := by omega
          have i2 : (i : Int) + 1 ≤ (s.length : Int) := by omega
          have i3 : ¬ (9223372036854775807 < acc.length + 1) := by omega
          clear hc h34 h92 hQ
          go_wp2_with fail
          go_roundw
          case rel => exact ⟨i + 1, acc ++ [c], by omega, by omega, by simp; omega, by go_num, by rw [cat_list'], HB.out, HRA.out, HQ2⟩
          case measure => simp [intOf]; omega
    · have hie : i = tz := by omega
      have hltI : ¬ ((i : Int) < (tz : Int)) := by omega
      have hltb : decide ((i : Int) < (tz : Int)) = false := by simpa using hltI
      have hgeI : (tz : Int) ≤ (i : Int) := by omega
      have HE : Hid (R = .err tz 4) := Lib.hid (by rw [← hQ.out, seg_nil s i tz (by omega), Ini.Q_nil, hie])
      clear hQ hie
      go_wp2_with fail
      refine (rfail_any B rb tz 4 V s st _ HRA.out z HZ.out).mono ?_
      rintro e w2 ⟨rfl, hb2, hr2⟩
      have HB2 : Hid (Below B w w2) := Lib.hid (HB.out.trans hb2)
      have HR2 := Lib.hid hr2
      clear hb2 hr2
      go_wp2_with fail
      go_ret2
      rw [HE.out]
      exact ⟨HB2.out, rfl, HR2.out⟩
end Go.Proofs.YtegdemnfjmaicaaDoor
