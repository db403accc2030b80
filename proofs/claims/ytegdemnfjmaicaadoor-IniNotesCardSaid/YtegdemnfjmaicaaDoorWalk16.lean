/- Walks: a line, whole. -/
import Derived.Test.YtegdemnfjmaicaaDoorWalk15A
import Derived.Test.YtegdemnfjmaicaaDoorWalk15B
namespace Go.Proofs.YtegdemnfjmaicaaDoor
theorem one_any (B pb a tz : Nat) (V : PV) (s : Ini.Str) (st : Ini.St) (ha : a ≤ tz) (ht : tz ≤ s.length) (hs : s.length ≤ 1073741823) (w : World) (hp : PAt B V w pb s st) (hf : Fit st) (hnl : st.notes.length < 1073741823)
    (R : Ini.Res Ini.St) (hR : Ini.line st (seg s a tz) a = R) :
    Calls Tryd.prog 21 #[.pointer (some ⟨pb, 0, none⟩), .agg #[.int .i64 a, .int .i64 tz]] w (LPost B V w pb s R) := by
  obtain ⟨b, hb⟩ : ∃ b, a + Ini.nB (seg s a tz) = b := ⟨_, rfl⟩
  have hbz : b ≤ tz := by have := nB_le (seg s a tz); rw [seg_len s _ tz ht] at this; omega
  by_cases hlt : b < tz
  · rw [line_eq st s a tz b ht ha hb hlt] at hR
    by_cases h1 : s[b]'(by omega) = 59
    · rw [if_pos (.inl h1)] at hR
      rw [← hR]
      exact one_note59 B pb a tz V s st ha ht hs w hp hnl b hb hlt h1
    · by_cases h2 : s[b]'(by omega) = 35
      · rw [if_pos (.inr h2)] at hR
        rw [← hR]
        exact one_note35 B pb a tz V s st ha ht hs w hp hnl b hb hlt h2
      · rw [if_neg (by simp [h1, h2])] at hR
        by_cases h3 : s[b]'(by omega) = 91
        · rw [if_pos h3] at hR
          exact one_header B pb a tz V s st ha ht hs w hp hf b hb hlt h3 R hR
        · rw [if_neg h3] at hR
          exact one_entry B pb a tz V s st ha ht hs w hp hf b hb hlt h1 h2 h3 R hR
  · obtain rfl : b = tz := by omega
    rw [line_end st s a b hb] at hR
    rw [← hR]
    exact one_end B pb a b V s st ha ht hs w hp hb
end Go.Proofs.YtegdemnfjmaicaaDoor
