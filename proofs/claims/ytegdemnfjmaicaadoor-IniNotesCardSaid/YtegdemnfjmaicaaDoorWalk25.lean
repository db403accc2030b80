/- Walks: Parse, whole. -/
import Derived.Test.YtegdemnfjmaicaaDoorWalk21
namespace Go.Proofs.YtegdemnfjmaicaaDoor
open Go.RowKit
/-- Parse answers as the plain parser does. -/
theorem parse_any (s : Ini.Str) (hs : s.length ≤ 65536) (w : World) (hT : Lib.Utf8Tabs 0 1 w) (hw : 2 ≤ w.heap.size) (R : Ini.Res Ini.St) (hR : Ini.parse s = R) :
    Calls Tryd.prog 10 #[.string ⟨s.toArray⟩] w (PPost w s R) := by
  refine (callsIn_wide (n := 9)).1 ?_
  unfold Ini.parse at hR
  rw [if_neg (by omega)] at hR
  cases hb : Ini.bad s with
  | some a =>
    rw [hb] at hR
    simp only at hR
    rw [← hR]
    exact parse_bad s hs w hT hw a hb
  | none =>
    rw [hb] at hR
    simp only at hR
    cases hc : Ini.ctl s 0 with
    | some a =>
      rw [hc] at hR
      simp only at hR
      rw [← hR]
      exact parse_ctl s hs w hT hw hb a hc
    | none =>
      rw [hc] at hR
      simp only at hR
      rw [Ini.lines_runs] at hR
      exact parse_lines s hs w hT hw hb hc R hR
end Go.Proofs.YtegdemnfjmaicaaDoor
