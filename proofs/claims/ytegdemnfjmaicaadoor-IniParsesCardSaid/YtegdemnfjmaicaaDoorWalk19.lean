/- Walks: the lines of a source, one after the other. -/
import Derived.Test.YtegdemnfjmaicaaDoorWalk10
import Derived.Test.YtegdemnfjmaicaaDoorPlainZ
import Derived.RangeFuncKeeps
import Derived.RangeFuncLeaves
import Derived.OwnWalkIn
import Derived.TacticsInMore
import Derived.LoopNIn
import Derived.LoopIn
namespace Go.Proofs.YtegdemnfjmaicaaDoor
open Go.RowKit Go.Shelf
attribute [local go_sem] Oper.semAt_some
/-- a line of a source. -/
abbrev Ln (s : Ini.Str) := { x : Nat × Nat // x.1 ≤ x.2 ∧ x.2 ≤ s.length }
def Ln.vals {s : Ini.Str} (l : List (Ln s)) : List (Nat × Nat) := l.map (·.1)
/-- the source's box is kept. -/
def KpS (sb : Nat) (W W' : World) : Prop := ∀ cs, Blk W sb 9 cs → Blk W' sb 9 cs
theorem KpS.trans {sb : Nat} {A B C : World} (h : KpS sb A B) (k : KpS sb B C) : KpS sb A C := fun cs x => k cs (h cs x)
theorem index_nl (s : Ini.Str) (a : Nat) (v : Int) (hv : Lib.indexByte (s.drop a) 10 = v) (W : World) :
    Calls Tryd.prog 27 #[.string ((⟨s.toArray⟩ : ByteArray).extract a s.length), .int .u8 10] W fun e w' => e = .returned (.int .i64 v) ∧ w' = W := by
  have e0 : (⟨s.toArray⟩ : ByteArray).extract a s.length = ⟨(s.drop a).toArray⟩ := by
    rw [extract_seg]; unfold seg; rw [List.take_length]
  rw [e0]
  refine (Tryd.strings_IndexByte _ _ W).mono ?_
  rintro e w' ⟨rfl, rfl⟩
  exact ⟨ret_int (by rw [← hv]; rfl), rfl⟩
set_option maxRecDepth 100000 in
set_option maxHeartbeats 4000000 in
theorem lines_in (s : Ini.Str) (hs : s.length ≤ 1073741823) (n : Nat) (hn : 3 ≤ n) (l sb : Nat) (xs : List (Ln s)) (hxs : Ln.vals xs = Ini.lineL s) (J Jx : List (Ln s) → World → Prop)
    (hY : ∀ pre x W, J pre W → pre.length < xs.length → YieldAt Fence.wide (n - 1) Tryd.prog l #[.agg #[.int .i64 x.1.1, .int .i64 x.1.2]] W fun e W' =>
      (e = .returned (.bool true) ∧ J (pre ++ [x]) W' ∧ KpS sb W W') ∨ (e = .returned (.bool false) ∧ Jx (pre ++ [x]) W'))
    (W : World) (hB : Blk W sb 9 #[.string ⟨s.toArray⟩]) (h0 : J [] W) :
    CallsIn Fence.wide n Tryd.prog 26 #[.func (.yield l) #[] #[], .pointer (some ⟨sb, 0, none⟩)] W fun e W' => (∃ v, e = .returned v) ∧
      ((∃ ys, ys = xs ∧ J ys W') ∨ (∃ pre, pre <+: xs ∧ Jx pre W')) := by
  refine callsIn_of_wp Tryd.func26 rfl trivial ?_ rfl
  simp only [Tryd.ntmps26, List.size_toArray, List.length_cons, List.length_nil, Nat.reduceAdd, Nat.reduceSub, Array.replicate_succ, Array.replicate_zero, List.push_toArray, List.append_toArray, List.nil_append, List.cons_append]
  gi_wp2
  gi_loopw [3] (fun p wr => ∃ (a : Nat) (pre rest : List (Ln s)), p = .int .i64 a ∧ a ≤ s.length ∧ xs = pre ++ rest ∧ Ln.vals rest = Ini.lineR (s.drop a) a ∧ J pre wr ∧ Blk wr sb 9 #[.string ⟨s.toArray⟩])
    (fun p _ => s.length + 1 - (intOf p).toNat)
  case atStart =>
    exact ⟨0, [], xs, rfl, by omega, rfl, hxs, h0, hB⟩
  case round =>
    obtain ⟨a, pre, rest, rfl, ha, hx, hl, hJ, hb⟩ := hrel
    have hbc : wr.cell? ⟨sb, 0, none⟩ = some (.string ⟨s.toArray⟩) := hb.cell 0
    have HBB := Lib.hid hb
    have haI : (a : Int) ≤ (s.length : Int) := by omega
    have hle : a + (s.drop a).length = s.length := by rw [List.length_drop]; omega
    clear hb
    rcases Ini.split_cases (s.drop a) with h10 | ⟨ln, q, hq, h10⟩
    · have hix := Ini.index_none _ h10
      rw [Ini.lineR_last _ _ h10, hle] at hl
      obtain ⟨x, rfl⟩ : ∃ x, rest = [x] := by
        cases rest with
        | nil => simp [Ln.vals] at hl
        | cons x t =>
          cases t with
          | nil => exact ⟨x, rfl⟩
          | cons y t => simp [Ln.vals] at hl
      obtain ⟨⟨x1, x2⟩, hxp⟩ := x
      obtain ⟨rfl, rfl⟩ : x1 = a ∧ x2 = s.length := by simpa [Ln.vals] using hl
      obtain ⟨fn, tmps, assign, body, hy, hR⟩ := hY pre ⟨(x1, s.length), hxp⟩ wr hJ (by rw [hx]; simp)
      dsimp only at hy
      have HX := Lib.hid hx
      clear hx hl hle hY h10 hJ
      gi_wp2
      refine ⟨trivial, fun _ => by omega, (callsIn_wide.2 (index_nl s x1 (-1) hix _)).mono ?_⟩
      rintro e w' ⟨rfl, rfl⟩
      gi_wp2
      refine ⟨fun _ => by omega, hR.mono ?_⟩
      rintro e W3 (⟨rfl, hJ3, hk3⟩ | ⟨rfl, hJx3⟩)
      · gi_wp2
        refine bodyPost_ret (results_none rfl _ _ _) rfl ?_
        exact ⟨⟨_, rfl⟩, .inl ⟨_, HX.out.symm, hJ3⟩⟩
      · gi_wp2
        refine bodyPost_ret (results_none rfl _ _ _) rfl ?_
        exact ⟨⟨_, rfl⟩, .inr ⟨_, ⟨[], by rw [HX.out]; simp⟩, hJx3⟩⟩
    · obtain ⟨x, rest2, rfl⟩ : ∃ x t, rest = x :: t := by
        cases rest with
        | nil => rw [hq, Ini.lineR_line _ _ _ h10] at hl; simp [Ln.vals] at hl
        | cons x t => exact ⟨x, t, rfl⟩
      rw [hq, Ini.lineR_line _ _ _ h10] at hl
      obtain ⟨⟨x1, x2⟩, hxp⟩ := x
      have hl2 : (x1, x2) :: Ln.vals rest2 = (a, a + (Ini.cr ln).length) :: Ini.lineR q (a + ln.length + 1) := hl
      injection hl2 with h1 h2
      injection h1 with h3 h4
      subst h3 h4
      have hlen : ln.length + 1 + q.length = s.length - x1 := by
        have := congrArg List.length hq
        simp at this
        omega
      have hdr : s.drop (x1 + ln.length + 1) = q := by
        rw [show x1 + ln.length + 1 = x1 + (ln.length + 1) from by omega, ← List.drop_drop, hq]
        simp
      have hix := Ini.index_some ln q h10
      rw [← hq] at hix
      obtain ⟨fn, tmps, assign, body, hy, hR⟩ := hY pre ⟨(x1, x1 + (Ini.cr ln).length), hxp⟩ wr hJ (by rw [hx]; simp)
      dsimp only at hy
      have HX := Lib.hid hx
      have HREST : Hid (Ln.vals rest2 = Ini.lineR (s.drop (x1 + ln.length + 1)) (x1 + ln.length + 1)) := Lib.hid (by rw [hdr]; exact h2)
      have hgt : ∀ k (hk : k < ln.length), ∃ h : x1 + k < s.length, s[x1 + k] = ln[k] := by
        intro k hk
        have e1 : (s.drop x1)[k]'(by rw [hq]; simp; omega) = ln[k] := by
          simp only [hq]
          rw [List.getElem_append_left hk]
        rw [List.getElem_drop] at e1
        exact ⟨by omega, e1⟩
      have hnx : x1 + ln.length + 1 ≤ s.length := by omega
      clear hx hl hle hY h10 hJ h2 hdr hq hlen
      rcases Nat.eq_zero_or_pos ln.length with hz | hz
      · have hcl : (Ini.cr ln).length = 0 := by have := Ini.cr_le ln; omega
        rw [hz] at hix HREST hnx
        rw [hcl, show ((x1 + 0 : Nat) : Int) = (x1 : Int) from by omega] at hy
        clear hz hcl hgt
        gi_wp2
        refine ⟨trivial, fun _ => by omega, (callsIn_wide.2 (index_nl s x1 0 hix _)).mono ?_⟩
        rintro e w' ⟨rfl, rfl⟩
        gi_wp2
        refine ⟨fun _ => by omega, hR.mono ?_⟩
        rintro e W3 (⟨rfl, hJ3, hk3⟩ | ⟨rfl, hJx3⟩)
        · have hb3 := hk3 _ HBB.out
          gi_wp2
          go_roundw
          case rel => exact ⟨x1 + 0 + 1, _, rest2, by go_num, hnx, by rw [HX.out, List.append_assoc]; rfl, HREST.out, hJ3, hb3⟩
          case measure => simp [intOf]; omega
        · gi_wp2
          refine bodyPost_ret (results_none rfl _ _ _) rfl ?_
          exact ⟨⟨_, rfl⟩, .inr ⟨_, ⟨rest2, by rw [HX.out, List.append_assoc]; rfl⟩, hJx3⟩⟩
      · obtain ⟨m, hm⟩ : ∃ m, ln.length = m + 1 := ⟨ln.length - 1, by omega⟩
        obtain ⟨hk1, hk2⟩ := hgt m (by omega)
        obtain ⟨c, hc⟩ : ∃ c, ln[m]'(by omega) = c := ⟨_, rfl⟩
        rw [hc] at hk2
        obtain ⟨k, hk, hks, hkc⟩ : ∃ k, k = x1 + m ∧ ∃ h : k < s.length, s[k] = c := ⟨_, rfl, hk1, hk2⟩
        have hgl : ln.getLast? = some c := by rw [List.getLast?_eq_getElem?, hm, Nat.add_sub_cancel, List.getElem?_eq_getElem (by omega), hc]
        have t1 : (x1 : Int) + ((m : Int) + 1) - 1 = (k : Int) := by omega
        have hvv : ((ln.length : Nat) : Int) = (m : Int) + 1 := by omega
        rw [hvv] at hix
        rw [hm] at HREST hnx
        have hb0 : (x1 : Int) < (x1 : Int) + ((m : Int) + 1) := by omega
        have hvm : (m : Int) ≤ 1073741823 := by omega
        by_cases h13 : c = 13
        · have hcl : (Ini.cr ln).length = m := by unfold Ini.cr; rw [if_pos (by rw [hgl, h13]), List.length_dropLast, hm]; omega
          rw [hcl, ← hk] at hy
          have q1 := byte_is s k hks 13 13 13 rfl (by rw [hkc, h13]) rfl
          have q1b := byte_isb s k hks 13 13 13 rfl (by rw [hkc, h13]) rfl
          have hkI : (k : Int) < (s.length : Int) := by omega
          have HK := Lib.hid hk
          clear hz hcl hgt hgl hc hk2 h13 hm hvv hk hk1 hkc
          gi_wp2
          refine ⟨trivial, fun _ => by omega, (callsIn_wide.2 (index_nl s x1 _ hix _)).mono ?_⟩
          rintro e w' ⟨rfl, rfl⟩
          gi_wp2
          refine ⟨fun _ => by omega, hR.mono ?_⟩
          rintro e W3 (⟨rfl, hJ3, hk3⟩ | ⟨rfl, hJx3⟩)
          · have hb3 := hk3 _ HBB.out
            gi_wp2
            go_roundw
            case rel => exact ⟨x1 + (m + 1) + 1, _, rest2, by go_num, hnx, by rw [HX.out, List.append_assoc]; rfl, HREST.out, hJ3, hb3⟩
            case measure => simp [intOf]; omega
          · gi_wp2
            refine bodyPost_ret (results_none rfl _ _ _) rfl ?_
            exact ⟨⟨_, rfl⟩, .inr ⟨_, ⟨rest2, by rw [HX.out, List.append_assoc]; rfl⟩, hJx3⟩⟩
        · have hcl : (Ini.cr ln).length = m + 1 := by unfold Ini.cr; rw [if_neg (by rw [hgl]; intro e; injection e with e; exact h13 e), hm]
          rw [hcl, show ((x1 + (m + 1) : Nat) : Int) = (x1 : Int) + ((m : Int) + 1) from by omega] at hy
          have q1 := byte_not s k hks c 13 13 rfl hkc h13
          have q1b := byte_nob s k hks c 13 13 rfl hkc h13
          have hkI : (k : Int) < (s.length : Int) := by omega
          have HK := Lib.hid hk
          clear hz hcl hgt hgl hc hk2 h13 hm hvv hk hk1 hkc
          gi_wp2
          refine ⟨trivial, fun _ => by omega, (callsIn_wide.2 (index_nl s x1 _ hix _)).mono ?_⟩
          rintro e w' ⟨rfl, rfl⟩
          gi_wp2
          refine ⟨fun _ => by omega, hR.mono ?_⟩
          rintro e W3 (⟨rfl, hJ3, hk3⟩ | ⟨rfl, hJx3⟩)
          · have hb3 := hk3 _ HBB.out
            gi_wp2
            go_roundw
            case rel => exact ⟨x1 + (m + 1) + 1, _, rest2, by go_num, hnx, by rw [HX.out, List.append_assoc]; rfl, HREST.out, hJ3, hb3⟩
            case measure => simp [intOf]; omega
          · gi_wp2
            refine bodyPost_ret (results_none rfl _ _ _) rfl ?_
            exact ⟨⟨_, rfl⟩, .inr ⟨_, ⟨rest2, by rw [HX.out, List.append_assoc]; rfl⟩, hJx3⟩⟩
theorem lines_stops (s : Ini.Str) (hs : s.length ≤ 1073741823) (n : Nat) (hn : 3 ≤ n) (sb : Nat) (xs : List (Ln s)) (hxs : Ln.vals xs = Ini.lineL s) (w : World) (hB : Blk w sb 9 #[.string ⟨s.toArray⟩]) :
    SeqStopsK Fence.wide n Tryd.prog 26 #[.pointer (some ⟨sb, 0, none⟩)] (fun x : Ln s => #[Value.agg #[.int .i64 x.1.1, .int .i64 x.1.2]]) (KpS sb) (fun ys => ys = xs) (fun pre => pre <+: xs) xs.length w := fun l J Jx W hW _ _ hY h0 =>
  lines_in s hs n hn l sb xs hxs J Jx hY W (hB.below hW hB.lt) h0
/-- the lines, each with its bounds. -/
theorem lns (s : Ini.Str) : ∃ xs : List (Ln s), Ln.vals xs = Ini.lineL s := by
  have h : ∀ x ∈ Ini.lineL s, x.1 ≤ x.2 ∧ x.2 ≤ s.length := by
    intro x hx
    have := Ini.lineR_bounds s.length s 0 (Nat.le_refl _) x hx
    omega
  revert h
  generalize Ini.lineL s = l
  intro h
  induction l with
  | nil => exact ⟨[], rfl⟩
  | cons x l ih =>
    obtain ⟨xs, hxs⟩ := ih (fun y hy => h y (List.mem_cons_of_mem _ hy))
    exact ⟨⟨x, h x (List.mem_cons_self ..)⟩ :: xs, by show x :: Ln.vals xs = _; rw [hxs]⟩
set_option maxRecDepth 100000 in
/-- lines hands back the iterator, which has the source's box. -/
theorem lines_any (s : Ini.Str) (w : World) : Calls Tryd.prog 20 #[.string ⟨s.toArray⟩] w fun e w' => e = .returned (.func (.func 26) #[] #[.pointer (some ⟨w.heap.size, 0, none⟩)]) ∧ w' = w.alloc (.cells #[.string ⟨s.toArray⟩] 9) := by
  go_enter Tryd.func20, Tryd.ntmps20
  go_wp2_with fail
  go_ret
  exact ⟨rfl, rfl⟩
end Go.Proofs.YtegdemnfjmaicaaDoor
