/- Joined lists: plain. -/
import Derived.Test.YtnnicjbceadnbaaJoin2
namespace Go.Proofs.Ytnnicjbceadnbaa
open Sp (Ed Ce chk)
theorem mem_dedTo (out l : List Ed) (x : Ed) : x ∈ dedTo out l ↔ x ∈ out ∨ x ∈ l := by
  induction l generalizing out with
  | nil => simp [dedTo]
  | cons y r ih =>
    rw [dedTo, ih]
    by_cases h : y ∈ out
    · rw [if_pos h]
      simp only [List.mem_cons]
      constructor
      · rintro (h1 | h1)
        · exact .inl h1
        · exact .inr (.inr h1)
      · rintro (h1 | rfl | h1)
        · exact .inl h1
        · exact .inl h
        · exact .inr h1
    · rw [if_neg h]
      simp only [List.mem_append, List.mem_cons, List.not_mem_nil, or_false, or_assoc]
theorem nodup_dedTo (out l : List Ed) (h : out.Nodup) : (dedTo out l).Nodup := by
  induction l generalizing out with
  | nil => exact h
  | cons y r ih =>
    rw [dedTo]
    by_cases hy : y ∈ out
    · rw [if_pos hy]; exact ih out h
    · rw [if_neg hy]
      refine ih _ ?_
      rw [List.nodup_append]
      refine ⟨h, by simp, ?_⟩
      intro a ha b hb
      rw [List.mem_singleton] at hb
      subst hb
      intro e
      exact hy (e ▸ ha)
theorem perm_of_nodup (l m : List Ed) (hl : l.Nodup) (hm : m.Nodup) (h : ∀ x, x ∈ l ↔ x ∈ m) : l.Perm m := by
  rw [List.perm_iff_count]
  intro x
  by_cases hx : x ∈ l
  · have h1 := List.nodup_iff_count.1 hl x
    have h2 := List.nodup_iff_count.1 hm x
    have h3 := List.count_pos_iff.2 hx
    have h4 := List.count_pos_iff.2 ((h x).1 hx)
    omega
  · rw [List.count_eq_zero.2 hx, List.count_eq_zero.2 (fun h' => hx ((h x).2 h'))]
theorem ded_swap (a b : List Ed) : (ded (a ++ b)).Perm (ded (b ++ a)) := by
  refine perm_of_nodup _ _ (nodup_dedTo _ _ List.nodup_nil) (nodup_dedTo _ _ List.nodup_nil) fun x => ?_
  unfold ded
  rw [mem_dedTo, mem_dedTo]
  simp [or_comm]
theorem IsJoin.swap {a b J : List Ed} (h : IsJoin a b J) : IsJoin b a J := ⟨h.1.trans (ded_swap a b), h.2⟩
/-- in a valid list no edit stands at or above a later one. -/
theorem chk_strict (n : Int) (l : List Ed) (e i : Int) (h : chk n e i l = 0) : (∀ x ∈ l, e ≤ x.f ∧ (x.f = x.t → x.f ≠ i ∨ e < x.f) ∧ x.f ≤ x.t) ∧ l.Pairwise fun x y => ¬ leEd y x := by
  induction l generalizing e i with
  | nil => exact ⟨fun x hx => (by cases hx), List.Pairwise.nil⟩
  | cons y r ih =>
    unfold chk at h
    split at h
    · simp at h
    · rename_i h1
      split at h
      · simp at h
      · rename_i h2
        obtain ⟨h3, h4⟩ := ih _ _ h
        refine ⟨fun x hx => ?_, List.pairwise_cons.2 ⟨fun x hx => ?_, h4⟩⟩
        · rcases List.mem_cons.1 hx with rfl | hx
          · exact ⟨by omega, fun h5 => .inl fun h6 => h2 (.inr ⟨h5, h6⟩), by omega⟩
          · have := h3 x hx
            refine ⟨by omega, fun h5 => ?_, this.2.2⟩
            have h6 := this.2.1 h5
            by_cases hyt : y.f = y.t
            · rw [if_pos hyt] at h6
              by_cases hi : x.f = i
              · right
                rcases h6 with h6 | h6
                · omega
                · omega
              · exact .inl hi
            · right; omega
        · have := h3 x hx
          unfold leEd
          intro h7
          by_cases hyt : y.f = y.t
          · rw [if_pos hyt] at this
            by_cases hxt : x.f = x.t
            · have := this.2.1 hxt
              omega
            · omega
          · omega
theorem srt_unique {n : Int} {J K : List Ed} (hp : J.Perm K) (sJ : Srt J) (sK : Srt K) (h : chk n 0 (-1) J = 0) : J = K := by
  have hs := (chk_strict n J 0 (-1) h).2
  refine List.Perm.eq_of_pairwise (le := leEd) ?_ sJ sK hp
  intro x y hx hy h1 h2
  have hy' : y ∈ J := hp.mem_iff.2 hy
  obtain ⟨i, hi, rfl⟩ := List.mem_iff_getElem.1 hx
  obtain ⟨j, hj, rfl⟩ := List.mem_iff_getElem.1 hy'
  rw [List.pairwise_iff_getElem] at hs
  rcases Nat.lt_trichotomy i j with hij | hij | hij
  · exact absurd h2 (hs i j hi hj hij)
  · subst hij; rfl
  · exact absurd h1 (hs j i hj hi hij)
theorem IsJoin.unique {n : Int} {a b J K : List Ed} (h1 : IsJoin a b J) (h2 : IsJoin a b K) (h : chk n 0 (-1) J = 0) : J = K :=
  srt_unique (h1.1.trans h2.1.symm) h1.2 h2.2 h
theorem IsJoin.len {a b J : List Ed} (h : IsJoin a b J) : J.length ≤ a.length + b.length := by
  rw [h.1.length_eq]
  have := dedTo_len [] (a ++ b)
  rw [List.length_append, List.length_nil, Nat.zero_add] at this
  exact this
end Go.Proofs.Ytnnicjbceadnbaa
