/- Walks: an escape. -/
import Derived.Test.YtegdemnfjmaicaaDoorWalk4
import Derived.Outline
namespace Go.Proofs.YtegdemnfjmaicaaDoor
open Go.RowKit
/-- what escape answers. -/
def escVal : Ini.Res (Ini.Str × Nat) → Value
  | .err _ e => .tuple #[.string ⟨#[]⟩, .int .i64 0, .int .i64 (e : Int)]
  | .ok (t, k) => .tuple #[.string ⟨t.toArray⟩, .int .i64 (k : Int), .int .i64 0]
theorem seg_two (s : Ini.Str) (a to : Nat) (h : a + 1 < to) (ht : to ≤ s.length) : (seg s a to).drop 1 = s[a + 1]'(by omega) :: seg s (a + 2) to := by
  rw [seg_cons s a to (by omega) ht, List.drop_one, List.tail_cons, seg_cons s (a + 1) to h ht]
theorem extract_one (s : Ini.Str) (k : Nat) (hk : k < s.length) : (⟨s.toArray⟩ : ByteArray).extract k (k + 1) = ⟨([s[k]] : Ini.Str).toArray⟩ := by
  apply ByteArray.ext
  apply Array.ext'
  simp [ByteArray.extract, ByteArray.copySlice, List.extract]
  rw [List.drop_eq_getElem_cons hk, List.take_succ_cons, List.take_zero]
set_option maxRecDepth 100000 in
set_option maxHeartbeats 2000000 in
theorem escape_plain (pb a to : Nat) (s : Ini.Str) (ha : a < to) (ht : to ≤ s.length) (hs : s.length ≤ 1073741824) (w : World) (hp : SrcAt w pb s)
    (hc : ∀ h : a + 1 < to, s[a + 1]'(by omega) ≠ 117) (v : Value) (hv : escVal (Ini.esc (seg s a to)) = v) :
    Calls Tryd.prog 51 #[.pointer (some ⟨pb, 0, none⟩), .int .i64 a, .int .i64 to] w fun e w' => e = .returned v ∧ w = w' := by
  unfold SrcAt at hp
  have HVV := Lib.hid hv
  clear hv
  by_cases h1 : a + 1 < to
  · have h117 := hc h1
    have hseg := seg_two s a to h1 ht
    have hex := extract_one s (a + 1) (by omega)
    generalize hcc : s[a + 1]'(by omega) = c at *
    have HCC := Lib.hid hcc
    have HSG := Lib.hid hseg
    have HEX' : Hid ((⟨s.toArray⟩ : ByteArray).extract (a + 1) (a + 2) = ⟨([c] : Ini.Str).toArray⟩) := Lib.hid hex
    clear hcc hseg hc hex
    have n6 := byte_nob s (a + 1) (by omega) c 117 117 rfl HCC.out h117
    have hlt : (a : Int) + 1 < (to : Int) := by omega
    by_cases e92 : c = 92
    · have HV : Hid (v = .tuple #[.string ⟨([c] : Ini.Str).toArray⟩, .int .i64 2, .int .i64 0]) := Lib.hid (by
        rw [← HVV.out]; unfold Ini.esc; rw [HSG.out]; simp only [e92]; rfl)
      have q92 := byte_isb s (a + 1) (by omega) c 92 92 rfl HCC.out e92
      clear e92 h117 n6
      go_enter Tryd.func51, Tryd.ntmps51
      go_wp2_with fail
      go_ret3
      exact ⟨by rw [HV.out]; rw [HEX'.out]; rfl, rfl⟩
    · have n92 := byte_nob s (a + 1) (by omega) c 92 92 rfl HCC.out e92
      by_cases e34 : c = 34
      · have HV : Hid (v = .tuple #[.string ⟨([c] : Ini.Str).toArray⟩, .int .i64 2, .int .i64 0]) := Lib.hid (by
          rw [← HVV.out]; unfold Ini.esc; rw [HSG.out]; simp only [e34]; rfl)
        have q34 := byte_isb s (a + 1) (by omega) c 34 34 rfl HCC.out e34
        clear e34 h117 n6
        go_enter Tryd.func51, Tryd.ntmps51
        go_wp2_with fail
        go_ret3
        exact ⟨by rw [HV.out]; rw [HEX'.out]; rfl, rfl⟩
      · have n34 := byte_nob s (a + 1) (by omega) c 34 34 rfl HCC.out e34
        by_cases e110 : c = 110
        · have HV : Hid (v = .tuple #[.string ⟨([10] : Ini.Str).toArray⟩, .int .i64 2, .int .i64 0]) := Lib.hid (by
            rw [← HVV.out]; unfold Ini.esc; rw [HSG.out]; simp only [e110]; rfl)
          have q110 := byte_isb s (a + 1) (by omega) c 110 110 rfl HCC.out e110
          clear e110 h117 n6
          go_enter Tryd.func51, Tryd.ntmps51
          go_wp2_with fail
          go_ret3
          exact ⟨by rw [HV.out]; rfl, rfl⟩
        · have n110 := byte_nob s (a + 1) (by omega) c 110 110 rfl HCC.out e110
          by_cases e114 : c = 114
          · have HV : Hid (v = .tuple #[.string ⟨([13] : Ini.Str).toArray⟩, .int .i64 2, .int .i64 0]) := Lib.hid (by
              rw [← HVV.out]; unfold Ini.esc; rw [HSG.out]; simp only [e114]; rfl)
            have q114 := byte_isb s (a + 1) (by omega) c 114 114 rfl HCC.out e114
            clear e114 h117 n6
            go_enter Tryd.func51, Tryd.ntmps51
            go_wp2_with fail
            go_ret3
            exact ⟨by rw [HV.out]; rfl, rfl⟩
          · have n114 := byte_nob s (a + 1) (by omega) c 114 114 rfl HCC.out e114
            by_cases e116 : c = 116
            · have HV : Hid (v = .tuple #[.string ⟨([9] : Ini.Str).toArray⟩, .int .i64 2, .int .i64 0]) := Lib.hid (by
                rw [← HVV.out]; unfold Ini.esc; rw [HSG.out]; simp only [e116]; rfl)
              have q116 := byte_isb s (a + 1) (by omega) c 116 116 rfl HCC.out e116
              clear e116 h117 n6
              go_enter Tryd.func51, Tryd.ntmps51
              go_wp2_with fail
              go_ret3
              exact ⟨by rw [HV.out]; rfl, rfl⟩
            · have n116 := byte_nob s (a + 1) (by omega) c 116 116 rfl HCC.out e116
              have HV : Hid (v = .tuple #[.string ⟨#[]⟩, .int .i64 0, .int .i64 4]) := Lib.hid (by
                rw [← HVV.out]; unfold Ini.esc; rw [HSG.out]; simp only [e92, e34, e110, e114, e116, h117, or_self, if_false]; rfl)
              clear e92 e34 e110 e114 e116 h117
              go_enter Tryd.func51, Tryd.ntmps51
              go_wp2_with fail
              go_ret3
              exact ⟨by rw [HV.out]; rfl, rfl⟩
  · have HV : Hid (v = .tuple #[.string ⟨#[]⟩, .int .i64 0, .int .i64 4]) := Lib.hid (by
      rw [← HVV.out]; unfold Ini.esc; rw [seg_cons s a to ha ht, List.drop_one, List.tail_cons, seg_nil s (a + 1) to (by omega)]; rfl)
    have hge : (to : Int) ≤ (a : Int) + 1 := by omega
    clear hc h1
    go_enter Tryd.func51, Tryd.ntmps51
    go_wp2_with fail
    go_ret3
    exact ⟨by rw [HV.out]; rfl, rfl⟩
end Go.Proofs.YtegdemnfjmaicaaDoor
