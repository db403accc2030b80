/- Edits after edits: plain. -/
import Derived.Test.YtnnicjbceadnbaaPlainG
import Derived.Test.YtnnicjbceadnbaaLawB
namespace Go.Proofs.Ytnnicjbceadnbaa
namespace Sp
/-- a piece of a source with n bytes. -/
def Pis (n : Int) (p : Ed) : Prop := Okp p ∧ (p.f < 0 ∨ p.f + p.t ≤ n)
theorem expand_len (S : List UInt8) (p : Ed) (h : Pis S.length p) : ((expand S p).length : Int) = p.t := by
  obtain ⟨⟨h0, h1⟩, h2⟩ := h
  unfold expand
  split
  · rename_i hf; rw [news_length, h1 hf]
  · rename_i hf
    have := cut_length (cells S) p.f (p.f + p.t) (by omega) (by omega) (by rw [cells_len]; rcases h2 with h2 | h2 <;> omega)
    omega
theorem cellsOf_len (S : List UInt8) (l : List Ed) (h : ∀ p ∈ l, Pis S.length p) : ((cellsOf S l).length : Int) = size l := by
  induction l with
  | nil => rfl
  | cons p r ih =>
    have h1 := expand_len S p (h p (by simp))
    have h2 := ih (fun q hq => h q (by simp [hq]))
    rw [cellsOf_cons, List.length_append, size]; omega
theorem take_same {α : Type} {i j : Nat} (l : List α) (h : min i l.length = min j l.length) : l.take i = l.take j := List.take_eq_take_iff.2 h
theorem bit_cells (S : List UInt8) (fr to a : Int) (p : Ed) (h : Pis S.length p) : cellsOf S (bit fr to a p) = cut (expand S p) (fr - a) (to - a) := by
  have hl := expand_len S p h
  obtain ⟨⟨h0, h1⟩, h2⟩ := h
  unfold bit
  split
  · rename_i hs
    rw [cellsOf, List.flatMap_cons, List.flatMap_nil, List.append_nil]
    by_cases hf : p.f < 0
    · rw [if_pos hf]
      unfold expand at hl ⊢
      simp only [if_pos hf] at hl ⊢
      have ht := h1 hf
      unfold cut news
      rw [List.map_take, List.map_drop, show (max fr a - a).toNat = (fr - a).toNat from by omega]
      apply take_same
      rw [List.length_drop, List.length_map]
      omega
    · rw [if_neg hf]
      unfold expand at hl ⊢
      simp only [if_neg hf] at hl ⊢
      rw [if_neg (by omega)]
      unfold cut
      rw [List.drop_take, List.drop_drop, List.take_take, show (p.f + (max fr a - a)).toNat = p.f.toNat + (fr - a).toNat from by omega]
      congr 1
      omega
  · rename_i hs
    symm
    rw [cellsOf, List.flatMap_nil]
    unfold cut
    by_cases hx : (expand S p).length ≤ (fr - a).toNat
    · rw [List.drop_eq_nil_of_le hx, List.take_nil]
    · rw [show (to - a).toNat - (fr - a).toNat = 0 from by omega, List.take_zero]
theorem cut_append (E R : List Ce) (x y : Int) : cut (E ++ R) x y = cut E x y ++ cut R (x - E.length) (y - E.length) := by
  unfold cut
  rw [List.drop_append, List.take_append, List.length_drop]
  congr 1
  rw [show x.toNat - E.length = (x - (E.length : Int)).toNat from by omega]
  congr 1
  omega
theorem part_cells (S : List UInt8) (fr to a : Int) (l : List Ed) (h : ∀ p ∈ l, Pis S.length p) : cellsOf S (part fr to a l) = cut (cellsOf S l) (fr - a) (to - a) := by
  induction l generalizing a with
  | nil => simp [part, cellsOf, cut]
  | cons p r ih =>
    rw [part, cellsOf_append, bit_cells S fr to a p (h p (by simp)), ih (a + p.t) (fun q hq => h q (by simp [hq])), cellsOf_cons, cut_append, expand_len S p (h p (by simp)), show fr - (a + p.t) = fr - a - p.t from by omega, show to - (a + p.t) = to - a - p.t from by omega]
theorem edited_cells (S : List UInt8) (l : List Ed) (a : Int) (es : List Ed) (h : ∀ p ∈ l, Pis S.length p) (h0 : 0 ≤ a) (hv : Val (cellsOf S l).length a es) :
    cellsOf S (edited l (cellsOf S l).length a es) = splV (cellsOf S l) a es := by
  induction es generalizing a with
  | nil =>
    rw [edited, splV, part_cells S _ _ _ _ h, Int.sub_zero, Int.sub_zero, cut_all _ a h0]
  | cons x r ih =>
    have g1 := hv.1
    have g2 := hv.2.1
    rw [edited, splV, cellsOf_append, cellsOf_append, part_cells S _ _ _ _ h, Int.sub_zero, Int.sub_zero, expand_added, ih x.t (by omega) hv.2.2]
theorem bit_pos (fr to a : Int) (p : Ed) : ∀ q ∈ bit fr to a p, 0 < q.t := by
  intro q hq
  unfold bit at hq
  split at hq
  · rename_i hs
    rw [List.mem_singleton] at hq
    subst hq
    split
    · show 0 < min to (a + p.t) - max fr a; omega
    · show 0 < min to (a + p.t) - max fr a; omega
  · cases hq
theorem part_pos (fr to a : Int) (l : List Ed) : ∀ q ∈ part fr to a l, 0 < q.t := by
  induction l generalizing a with
  | nil => intro q hq; cases hq
  | cons p r ih =>
    intro q hq
    rw [part] at hq
    rcases List.mem_append.1 hq with hq | hq
    · exact bit_pos _ _ _ _ q hq
    · exact ih _ q hq
theorem edited_pos (l : List Ed) (n a : Int) (es : List Ed) : ∀ q ∈ edited l n a es, q.f < 0 ∨ 0 < q.t := by
  induction es generalizing a with
  | nil => intro q hq; exact .inr (part_pos _ _ _ _ q hq)
  | cons x r ih =>
    intro q hq
    rw [edited] at hq
    rcases List.mem_append.1 hq with hq | hq
    · rcases List.mem_append.1 hq with hq | hq
      · exact .inr (part_pos _ _ _ _ q hq)
      · unfold added at hq
        split at hq
        · cases hq
        · rw [List.mem_singleton] at hq; subst hq; exact .inl (by show (-1 : Int) < 0; omega)
    · exact ih _ q hq
/-- the same as Cok, by pairs. -/
def Rel (c d : Ce) : Prop := c.o < 0 ∨ d.o < 0 ∨ c.o < d.o
def Each (S : List UInt8) (a : Int) (cs : List Ce) : Prop := ∀ c ∈ cs, ¬ c.o < 0 → a ≤ c.o ∧ S[c.o.toNat]? = some c.b
theorem cok_iff (S : List UInt8) (a : Int) (cs : List Ce) : Cok S a cs ↔ Each S a cs ∧ cs.Pairwise Rel := by
  induction cs generalizing a with
  | nil => exact ⟨fun _ => ⟨fun c hc => (by cases hc), List.Pairwise.nil⟩, fun _ => True.intro⟩
  | cons c r ih =>
    unfold Cok
    rw [List.pairwise_cons]
    by_cases ho : c.o < 0
    · rw [if_pos ho, ih]
      refine ⟨fun ⟨h1, h2⟩ => ⟨fun d hd hd0 => ?_, fun d _ => .inl ho, h2⟩, fun ⟨h1, _, h2⟩ => ⟨fun d hd hd0 => h1 d (by simp [hd]) hd0, h2⟩⟩
      rcases List.mem_cons.1 hd with rfl | hd
      · exact absurd ho hd0
      · exact h1 d hd hd0
    · rw [if_neg ho, ih]
      constructor
      · rintro ⟨h1, h2, h3, h4⟩
        refine ⟨fun d hd hd0 => ?_, fun d hd => ?_, h4⟩
        · rcases List.mem_cons.1 hd with rfl | hd
          · exact ⟨h1, h2⟩
          · have := h3 d hd hd0; exact ⟨by omega, this.2⟩
        · by_cases hd0 : d.o < 0
          · exact .inr (.inl hd0)
          · have := h3 d hd hd0; exact .inr (.inr (by omega))
      · rintro ⟨h1, h2, h3⟩
        have hc := h1 c (by simp) ho
        refine ⟨hc.1, hc.2, fun d hd hd0 => ?_, h3⟩
        have := h1 d (by simp [hd]) hd0
        rcases h2 d hd with h | h | h
        · exact absurd h ho
        · exact absurd h hd0
        · exact ⟨by omega, this.2⟩
theorem splV_pair (cs : List Ce) (a : Int) (es : List Ed) (h : cs.Pairwise Rel) (h0 : 0 ≤ a) (hv : Val cs.length a es) : (splV cs a es).Pairwise Rel := by
  induction es generalizing a with
  | nil => exact h.sublist (List.drop_sublist _ _)
  | cons x r ih =>
    have g1 := hv.1
    have g2 := hv.2.1
    have hin : ∀ (a : Int) (es : List Ed), 0 ≤ a → Val cs.length a es → ∀ c ∈ splV cs a es, c.o < 0 ∨ c ∈ cs.drop a.toNat := by
      intro a es
      induction es generalizing a with
      | nil => intro _ _ c hc; exact .inr hc
      | cons y q ih2 =>
        intro h0 hv c hc
        have g1 := hv.1
        have g2 := hv.2.1
        rw [splV] at hc
        rcases List.mem_append.1 hc with hc | hc
        · rcases List.mem_append.1 hc with hc | hc
          · exact .inr (List.mem_of_mem_take hc)
          · obtain ⟨b, _, rfl⟩ := List.mem_map.1 hc
            exact .inl (by show (-1 : Int) < 0; omega)
        · rcases ih2 y.t (by omega) hv.2.2 c hc with hc | hc
          · exact .inl hc
          · refine .inr ?_
            rw [show y.t.toNat = a.toNat + (y.t.toNat - a.toNat) from by omega, ← List.drop_drop] at hc
            exact List.mem_of_mem_drop hc
    rw [splV, List.pairwise_append, List.pairwise_append]
    refine ⟨⟨h.sublist ((List.take_sublist _ _).trans (List.drop_sublist _ _)), ?_, ?_⟩, ih x.t (by omega) hv.2.2, ?_⟩
    · unfold news
      rw [List.pairwise_map]
      exact List.pairwise_of_forall (fun _ _ => .inl (by show (-1 : Int) < 0; omega))
    · intro c _ d hd
      obtain ⟨b, _, rfl⟩ := List.mem_map.1 hd
      exact .inr (.inl (by show (-1 : Int) < 0; omega))
    · intro c hc d hd
      rcases List.mem_append.1 hc with hc | hc
      · rcases hin x.t r (by omega) hv.2.2 d hd with hd | hd
        · exact .inr (.inl hd)
        · have h2 := h.sublist (List.drop_sublist a.toNat cs)
          rw [← List.take_append_drop (x.f.toNat - a.toNat) (cs.drop a.toNat), List.pairwise_append] at h2
          refine h2.2.2 c hc d ?_
          rw [List.drop_drop]
          rw [show x.t.toNat = a.toNat + (x.f.toNat - a.toNat) + (x.t.toNat - x.f.toNat) from by omega, ← List.drop_drop] at hd
          exact List.mem_of_mem_drop hd
      · obtain ⟨b, _, rfl⟩ := List.mem_map.1 hc
        exact .inl (by show (-1 : Int) < 0; omega)
theorem splV_cok (S : List UInt8) (cs : List Ce) (es : List Ed) (h : Cok S 0 cs) (hv : Val cs.length 0 es) : Cok S 0 (splV cs 0 es) := by
  rw [cok_iff] at h ⊢
  refine ⟨fun c hc h0 => ?_, splV_pair cs 0 es h.2 (by omega) hv⟩
  rcases mem_splV cs 0 es c hc with hc | hc
  · omega
  · exact h.1 c hc h0
theorem splV_neg (cs : List Ce) (a : Int) (es : List Ed) (h : Neg cs) : Neg (splV cs a es) := by
  intro c hc h0
  rcases mem_splV cs a es c hc with hc | hc
  · exact hc
  · exact h c hc h0
theorem cok_cells (S : List UInt8) : Cok S 0 (cells S) := by
  have := Cok.run (S := S) (cs := []) 0 S [] (by simp) True.intro
  rw [List.append_nil] at this
  exact this
theorem neg_cells (S : List UInt8) : Neg (cells S) := Neg.run 0 S
end Sp
open Sp (Ed Ce chk)
theorem pieces_pis (src : List UInt8) (l : List Ed) (h : Small src l) : ∀ p ∈ pieces src l, Sp.Pis src.length p := fun p hp => ⟨(pieces_ok src l h p hp).1, (pieces_ok src l h p hp).2.1⟩
/-- the cells of a source after edits. -/
theorem pieces_cells (src : List UInt8) (l : List Ed) (h : chk src.length 0 (-1) l = 0) : Sp.cellsOf src (pieces src l) = Sp.splV (Sp.cells src) 0 l := by
  have hv := Sp.chk_val src.length l 0 (-1) (by omega) (by omega) h
  unfold pieces
  rw [Sp.pieces_flat src.length 0 l (by omega) hv, Sp.flat_cells src 0 l (by omega) hv]
/-- what the law of Compose needs. -/
structure CompFacts (src : List UInt8) (a b : List Ed) (T : List UInt8) (L : List Ed) : Prop where
  mid : (Sp.splV (Sp.cells src) 0 a).length = T.length
  text : Sp.textOf (Sp.splV (Sp.cells src) 0 a) = T
  prog : Sp.normal src.length 0 [] (Sp.edited (pieces src a) T.length 0 b) = L
  ref : Sp.eds src.length (Sp.splV (Sp.splV (Sp.cells src) 0 a) 0 b) = L
  ok : chk src.length 0 (-1) L = 0
  out : Sp.asm src (pieces src L) = Sp.textOf (Sp.splV (Sp.splV (Sp.cells src) 0 a) 0 b)
  back : Sp.splV (Sp.cells src) 0 L = Sp.splV (Sp.splV (Sp.cells src) 0 a) 0 b
  len : L.length ≤ (Sp.splV (Sp.splV (Sp.cells src) 0 a) 0 b).length + 1
  txt : Sp.txt L ≤ (Sp.splV (Sp.splV (Sp.cells src) 0 a) 0 b).length
theorem mid_text (src : List UInt8) (a : List Ed) (h : chk src.length 0 (-1) a = 0) : Sp.asm src (pieces src a) = Sp.textOf (Sp.splV (Sp.cells src) 0 a) := Sp.splV_text src a h
theorem comp_facts (src : List UInt8) (a b : List Ed) (hsm : Small src a) (hsb : ∀ x ∈ b, x.s.length ≤ 1099511627776) (h : chk src.length 0 (-1) a = 0) (T : List UInt8) (hT : Sp.asm src (pieces src a) = T) (h2 : chk T.length 0 (-1) b = 0) :
    ∃ L, CompFacts src a b T L := by
  have hv := Sp.chk_val src.length a 0 (-1) (by omega) (by omega) h
  have hv2 := Sp.chk_val T.length b 0 (-1) (by omega) (by omega) h2
  have htx := mid_text src a h
  rw [hT] at htx
  have hml : (Sp.splV (Sp.cells src) 0 a).length = T.length := by rw [← Sp.textOf_len, ← htx]
  have hpc := pieces_cells src a h
  have hpi := pieces_pis src a hsm
  have hcl : (Sp.cellsOf src (pieces src a)).length = T.length := by rw [hpc, hml]
  have hcok1 := Sp.splV_cok src (Sp.cells src) a (Sp.cok_cells src) (by rw [Sp.cells_len]; exact hv)
  have hneg1 := Sp.splV_neg (Sp.cells src) 0 a (Sp.neg_cells src)
  have hcok2 := Sp.splV_cok src _ b hcok1 (by rw [hml]; exact hv2)
  have hneg2 := Sp.splV_neg _ 0 b hneg1
  have hlen := Sp.edsGo_len src.length 0 [] (Sp.splV (Sp.splV (Sp.cells src) 0 a) 0 b)
  refine ⟨Sp.eds src.length (Sp.splV (Sp.splV (Sp.cells src) 0 a) 0 b), hml, htx.symm, ?_, rfl, Sp.eds_chk _ _ hcok2, ?_, Sp.eds_spl _ _ hcok2 hneg2, hlen.1, by have := hlen.2; simp only [List.length_nil] at this; unfold Sp.eds; omega⟩
  · have hok := Sp.edited_ok src.length (by omega) (pieces src a) T.length 0 b (pieces_ok src a hsm) hsb
    rw [Sp.normal_eds src src.length 0 [] _ (fun q hq => ?_)]
    · have := Sp.edited_cells src (pieces src a) 0 b hpi (by omega) (by rw [hcl]; exact hv2)
      rw [hcl, hpc] at this
      rw [this]; rfl
    · rcases Sp.edited_pos _ _ _ _ q hq with h | h
      · exact .inl h
      · rcases (hok q hq).2.1 with h3 | h3
        · exact .inl h3
        · exact .inr ⟨h, h3⟩
  · exact Sp.eds_apply src _ hcok2 hneg2
end Go.Proofs.Ytnnicjbceadnbaa
