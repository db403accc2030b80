/- Walks: the parser's small readers. -/
import Derived.Test.YtegdemnfjmaicaaDoorRow
import Derived.Test.YtegdemnfjmaicaaDoorPlainZ
import Derived.BigRegion
import Derived.Outline
namespace Go.Proofs.YtegdemnfjmaicaaDoor
open Go.RowKit
/-- the parser's source. -/
def SrcAt (w : World) (pb : Nat) (s : Ini.Str) : Prop := w.cell? ⟨pb, 2, none⟩ = some (.string ⟨s.toArray⟩)
theorem nB_zero (r : Ini.Str) (h : ∀ c, r.head? = some c → Ini.isB c = false) : Ini.nB r = 0 := by
  cases r with
  | nil => rfl
  | cons c r => simp [Ini.nB, h c rfl]
theorem nB_cons (c : UInt8) (r : Ini.Str) (h : Ini.isB c = true) : Ini.nB (c :: r) = Ini.nB r + 1 := by simp [Ini.nB, h]
/-- what is left of the first 'to' bytes behind 'a'. -/
def seg (s : Ini.Str) (a to : Nat) : Ini.Str := (s.take to).drop a
theorem seg_cons (s : Ini.Str) (a to : Nat) (h : a < to) (ht : to ≤ s.length) : seg s a to = s[a]'(by omega) :: seg s (a + 1) to := by
  unfold seg
  rw [List.drop_eq_getElem_cons (by rw [List.length_take]; omega), List.getElem_take]
theorem seg_nil (s : Ini.Str) (a to : Nat) (h : to ≤ a) : seg s a to = [] := by
  unfold seg; rw [List.drop_eq_nil_of_le (by rw [List.length_take]; omega)]
theorem seg_len (s : Ini.Str) (a to : Nat) (ht : to ≤ s.length) : (seg s a to).length = to - a := by
  unfold seg; rw [List.length_drop, List.length_take]; omega
theorem beqF (c d : UInt8) (h : c ≠ d) : ((c.toNat : Int) == (d.toNat : Int)) = false := by
  have : ¬ ((c.toNat : Int) = (d.toNat : Int)) := fun e => h (UInt8.toNat_inj.1 (by omega))
  simpa using this
theorem beqT (c d : UInt8) (h : c = d) : ((c.toNat : Int) == (d.toNat : Int)) = true := by subst h; simp
theorem byte_is (s : Ini.Str) (k : Nat) (hk : k < s.length) (c d : UInt8) (n : Int) (hn : (d.toNat : Int) = n) (h : s[k] = c) (e : c = d) : (((⟨s.toArray⟩ : ByteArray)[k]'(by simpa [ByteArray.size] using hk)).toNat : Int) = n := by
  have : (⟨s.toArray⟩ : ByteArray)[k]'(by simpa [ByteArray.size] using hk) = s[k] := rfl
  rw [this, h, e, hn]
theorem byte_not (s : Ini.Str) (k : Nat) (hk : k < s.length) (c d : UInt8) (n : Int) (hn : (d.toNat : Int) = n) (h : s[k] = c) (e : c ≠ d) : ¬ (((⟨s.toArray⟩ : ByteArray)[k]'(by simpa [ByteArray.size] using hk)).toNat : Int) = n := by
  have : (⟨s.toArray⟩ : ByteArray)[k]'(by simpa [ByteArray.size] using hk) = s[k] := rfl
  rw [this, h, ← hn]
  exact fun he => e (UInt8.toNat_inj.1 (by omega))
theorem byte_isb (s : Ini.Str) (k : Nat) (hk : k < s.length) (c d : UInt8) (n : Int) (hn : (d.toNat : Int) = n) (h : s[k] = c) (e : c = d) : ((((⟨s.toArray⟩ : ByteArray)[k]'(by simpa [ByteArray.size] using hk)).toNat : Int) == n) = true := by
  simpa using byte_is s k hk c d n hn h e
theorem byte_nob (s : Ini.Str) (k : Nat) (hk : k < s.length) (c d : UInt8) (n : Int) (hn : (d.toNat : Int) = n) (h : s[k] = c) (e : c ≠ d) : ((((⟨s.toArray⟩ : ByteArray)[k]'(by simpa [ByteArray.size] using hk)).toNat : Int) == n) = false := by
  simpa using byte_not s k hk c d n hn h e
theorem ret_nat {a b : Nat} (h : a = b) : Ending.returned (.int .i64 (a : Int)) = .returned (.int .i64 (b : Int)) := by rw [h]
set_option maxHeartbeats 1000000 in
theorem blanks_any (pb a to : Nat) (s : Ini.Str) (ha : a ≤ to) (ht : to ≤ s.length) (hs : s.length ≤ 1073741824) (w : World) (hp : SrcAt w pb s) (r : Nat) (hr : a + Ini.nB (seg s a to) = r) :
    Calls Tryd.prog 28 #[.pointer (some ⟨pb, 0, none⟩), .int .i64 a, .int .i64 to] w fun e w' => e = .returned (.int .i64 r) ∧ w = w' := by
  unfold SrcAt at hp
  have HR := Lib.hid hr
  clear hr
  go_enter Tryd.func28, Tryd.ntmps28
  go_wp2_with fail
  go_loop [1] (fun i => ∃ k : Nat, a ≤ k ∧ k ≤ to ∧ i = .int .i64 k ∧ Hid (a + Ini.nB (seg s a to) = k + Ini.nB (seg s k to))) (fun i => to - (intOf i).toNat)
  case atStart => exact ⟨a, by omega, ha, rfl, Lib.hid rfl⟩
  case round =>
    obtain ⟨k, h1, h2, rfl, HK⟩ := hrel
    by_cases hlt : k < to
    · have hc := seg_cons s k to hlt ht
      generalize hcc : s[k]'(by omega) = c at *
      have HC := Lib.hid hc
      have HCC := Lib.hid hcc
      clear hc hcc
      by_cases e1 : c = 32
      · have HV : Hid (a + Ini.nB (seg s a to) = k + 1 + Ini.nB (seg s (k + 1) to)) := Lib.hid (by rw [HK.out, HC.out, nB_cons c _ (by rw [e1]; rfl)]; omega)
        have q1 := byte_is s k (by omega) c 32 32 rfl HCC.out e1
        clear e1
        go_wp2_with fail
        go_round
        case rel => exact ⟨k + 1, by omega, by omega, by go_num, HV⟩
        case measure => simp [intOf]; omega
      · have q1 := byte_not s k (by omega) c 32 32 rfl HCC.out e1
        by_cases e2 : c = 9
        · have HV : Hid (a + Ini.nB (seg s a to) = k + 1 + Ini.nB (seg s (k + 1) to)) := Lib.hid (by rw [HK.out, HC.out, nB_cons c _ (by rw [e2]; rfl)]; omega)
          have q2 := byte_is s k (by omega) c 9 9 rfl HCC.out e2
          clear e1 e2
          go_wp2_with fail
          go_round
          case rel => exact ⟨k + 1, by omega, by omega, by go_num, HV⟩
          case measure => simp [intOf]; omega
        · have HV : Hid (a + Ini.nB (seg s a to) = k) := Lib.hid (by
            rw [HK.out, HC.out, nB_zero _ (fun d hd => ?_)]; rfl
            simp only [List.head?_cons, Option.some.injEq] at hd
            subst hd
            simp [Ini.isB, e1, e2])
          have q2 := byte_not s k (by omega) c 9 9 rfl HCC.out e2
          have q1b := byte_nob s k (by omega) c 32 32 rfl HCC.out e1
          have q2b := byte_nob s k (by omega) c 9 9 rfl HCC.out e2
          clear e1 e2
          go_wp2_with fail
          go_ret
          exact ⟨ret_nat (by rw [← HR.out, HV.out]), rfl⟩
    · have HV : Hid (a + Ini.nB (seg s a to) = k) := Lib.hid (by rw [HK.out, seg_nil s k to (by omega)]; rfl)
      go_wp2_with fail
      go_ret
      exact ⟨ret_nat (by rw [← HR.out, HV.out]), rfl⟩
end Go.Proofs.YtegdemnfjmaicaaDoor
