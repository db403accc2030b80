/- Pieces as cells, and normal forms of cells: plain. -/
import Derived.Test.YtnnicjbceadnbaaPlainE
namespace Go.Proofs.Ytnnicjbceadnbaa
namespace Sp
/-- the cells of one piece of a source. -/
def expand (S : List UInt8) (p : Ed) : List Ce := if p.f < 0 then news p.s else cut (cells S) p.f (p.f + p.t)
def cellsOf (S : List UInt8) (ps : List Ed) : List Ce := ps.flatMap (expand S)
theorem cellsOf_append (S : List UInt8) (l r : List Ed) : cellsOf S (l ++ r) = cellsOf S l ++ cellsOf S r := by simp [cellsOf]
theorem cellsOf_cons (S : List UInt8) (p : Ed) (r : List Ed) : cellsOf S (p :: r) = expand S p ++ cellsOf S r := rfl
theorem cellsFrom_drop (k m : Nat) (s : List UInt8) : (cellsFrom k s).drop m = cellsFrom (k + m) (s.drop m) := by
  induction m generalizing k s with
  | zero => rfl
  | succ m ih =>
    cases s with
    | nil => simp [cellsFrom]
    | cons b r =>
      simp only [cellsFrom, List.drop_succ_cons]
      rw [ih (k + 1) r, Nat.add_assoc, Nat.add_comm 1 m]
theorem cellsFrom_take (k m : Nat) (s : List UInt8) : (cellsFrom k s).take m = cellsFrom k (s.take m) := by
  induction m generalizing k s with
  | zero => simp [cellsFrom]
  | succ m ih =>
    cases s with
    | nil => simp [cellsFrom]
    | cons b r => simp only [cellsFrom, List.take_succ_cons, ih]
theorem cut_cells (S : List UInt8) (a f : Int) : cut (cells S) a f = cellsFrom a.toNat ((S.drop a.toNat).take (f.toNat - a.toNat)) := by
  unfold cut cells
  rw [cellsFrom_drop, cellsFrom_take, Nat.zero_add]
theorem expand_kept (S : List UInt8) (a f : Int) (h0 : 0 ≤ a) (h : a ≤ f) : cellsOf S (kept a f) = cut (cells S) a f := by
  unfold kept
  split
  · rename_i h; subst h; simp [cellsOf, cut]
  · simp only [cellsOf, List.flatMap_cons, List.flatMap_nil, List.append_nil, expand]
    rw [if_neg (by omega), show a + (f - a) = f from by omega]
theorem expand_added (S s : List UInt8) : cellsOf S (added s) = news s := by
  unfold added
  split
  · rename_i h; subst h; rfl
  · simp [cellsOf, expand]
theorem flat_cells (S : List UInt8) (a : Int) (es : List Ed) (h0 : 0 ≤ a) (h : Val S.length a es) : cellsOf S (flat S.length a es) = splV (cells S) a es := by
  induction es generalizing a with
  | nil =>
    rw [flat, splV, expand_kept S a S.length h0 h, cut, List.take_of_length_le (by rw [List.length_drop, cells_len]; omega)]
  | cons x r ih =>
    rw [flat, splV, cellsOf_append, cellsOf_append, expand_kept S a x.f h0 h.1, expand_added, ih x.t (by have := h.1; have := h.2.1; omega) h.2.2]
/-- pieces that 'normal' sees as their cells. -/
def Npc (n : Int) (p : Ed) : Prop := p.f < 0 ∨ (0 < p.t ∧ p.f + p.t ≤ n)
theorem edsGo_news (n a : Int) (s t : List UInt8) (r : List Ce) : edsGo n a s (news t ++ r) = edsGo n a (s ++ t) r := by
  induction t generalizing s with
  | nil => simp [news]
  | cons b t ih =>
    have : news (b :: t) = ⟨-1, b⟩ :: news t := rfl
    rw [this, List.cons_append, edsGo, if_pos (by show (-1 : Int) < 0; omega), ih]
    simp
theorem edsGo_run (n : Int) (k : Nat) (u : List UInt8) (r : List Ce) : edsGo n k [] (cellsFrom k u ++ r) = edsGo n (k + u.length) [] r := by
  induction u generalizing k with
  | nil => simp [cellsFrom]
  | cons b u ih =>
    simp only [cellsFrom, List.cons_append, edsGo]
    rw [if_neg (by omega)]
    have h1 : shut (k : Int) k [] = [] := by simp [shut]
    have := ih (k + 1)
    rw [h1, List.nil_append, show ((k : Int) + 1) = ((k + 1 : Nat) : Int) from by simp, this]
    congr 1
    simp; omega
theorem edsGo_run1 (n a : Int) (s : List UInt8) (k : Nat) (u : List UInt8) (hu : u ≠ []) (r : List Ce) : edsGo n a s (cellsFrom k u ++ r) = shut a k s ++ edsGo n (k + u.length) [] r := by
  cases u with
  | nil => exact absurd rfl hu
  | cons b u =>
    simp only [cellsFrom, List.cons_append, edsGo]
    rw [if_neg (by omega)]
    have := edsGo_run n (k + 1) u r
    rw [show ((k : Int) + 1) = ((k + 1 : Nat) : Int) from by simp, this]
    congr 2
    simp; omega
theorem normal_eds (S : List UInt8) (n a : Int) (s : List UInt8) (ps : List Ed) (h : ∀ p ∈ ps, Npc S.length p) : normal n a s ps = edsGo n a s (cellsOf S ps) := by
  induction ps generalizing a s with
  | nil => rfl
  | cons p r ih =>
    have hp := h p (by simp)
    have ih' := fun a s => ih a s (fun q hq => h q (by simp [hq]))
    rw [normal, cellsOf_cons]
    by_cases hf : p.f < 0
    · rw [if_pos hf, ih', expand, if_pos hf, edsGo_news]
    · rw [if_neg hf, ih', expand, if_neg hf, cut_cells]
      rcases hp with hp | ⟨h1, h2⟩
      · exact absurd hp hf
      · have hlen : ((S.drop p.f.toNat).take ((p.f + p.t).toNat - p.f.toNat)).length = p.t.toNat := by rw [List.length_take, List.length_drop]; omega
        rw [edsGo_run1 _ _ _ _ _ (by intro e; rw [e] at hlen; simp at hlen; omega), hlen]
        congr 2 <;> omega
/-- cells of an edited source: offsets ascend from a on, and bytes are the source's. -/
def Cok (S : List UInt8) : Int → List Ce → Prop
  | _, [] => True
  | a, c :: r => if c.o < 0 then Cok S a r else a ≤ c.o ∧ S[c.o.toNat]? = some c.b ∧ Cok S (c.o + 1) r
/-- cells whose new bytes are written as -1. -/
def Neg (cs : List Ce) : Prop := ∀ c ∈ cs, c.o < 0 → c.o = -1
theorem Cok.le {S : List UInt8} {a : Int} {cs : List Ce} (h : Cok S a cs) (c : Ce) (hc : c ∈ cs) (h0 : ¬ c.o < 0) : a ≤ c.o ∧ c.o < S.length := by
  induction cs generalizing a with
  | nil => cases hc
  | cons d r ih =>
    unfold Cok at h
    rcases List.mem_cons.1 hc with rfl | hc
    · rw [if_neg h0] at h
      have := (List.getElem?_eq_some_iff.1 h.2.1).1
      exact ⟨h.1, by omega⟩
    · split at h
      · exact ih h hc
      · have := ih h.2.2 hc; omega
/-- a byte of the source, cut out. -/
theorem cut_one (S : List UInt8) (k : Int) (b : UInt8) (h0 : 0 ≤ k) (h : S[k.toNat]? = some b) (f : Int) (hf : k + 1 ≤ f) : cut (cells S) k f = ⟨k, b⟩ :: cut (cells S) (k + 1) f := by
  rw [cut_cells, cut_cells]
  obtain ⟨hl, rfl⟩ := List.getElem?_eq_some_iff.1 h
  rw [List.drop_eq_getElem_cons hl, show f.toNat - k.toNat = (f.toNat - (k + 1).toNat) + 1 from by omega, List.take_succ_cons, cellsFrom]
  congr 1
  · congr 1; omega
  · rw [show (k + 1).toNat = k.toNat + 1 from by omega]
theorem cut_self (S : List UInt8) (a : Int) : cut (cells S) a a = [] := by simp [cut]
theorem cut_split (c : List Ce) (a f g : Int) (h0 : 0 ≤ a) (h1 : a ≤ f) (h2 : f ≤ g) : cut c a g = cut c a f ++ cut c f g := by
  unfold cut
  rw [show g.toNat - a.toNat = (f.toNat - a.toNat) + (g.toNat - f.toNat) from by omega, List.take_add, List.drop_drop]
  congr 3; omega
theorem cut_all (c : List Ce) (a : Int) (h0 : 0 ≤ a) : cut c a c.length = c.drop a.toNat := by
  unfold cut
  rw [List.take_of_length_le (by rw [List.length_drop]; omega)]
theorem news_append (s t : List UInt8) : news (s ++ t) = news s ++ news t := by simp [news]
theorem news_nil : news [] = [] := rfl
/-- the edits of a normal form, applied, are the cells: from where the source stands at 'at0', a kept run from at0 to a has been passed. -/
theorem edsGo_spl (S : List UInt8) (at0 a : Int) (s : List UInt8) (cs : List Ce) (h0 : 0 ≤ at0) (h1 : at0 ≤ a) (han : a ≤ S.length) (hc : Cok S a cs) (hn : Neg cs) :
    splV (cells S) at0 (edsGo S.length a s cs) = cut (cells S) at0 a ++ news s ++ cs := by
  have hd : ∀ a : Int, 0 ≤ a → a ≤ S.length → (cells S).drop a.toNat = cut (cells S) a S.length := by
    intro a h _
    have := cut_all (cells S) a h
    rw [cells_len] at this
    exact this.symm
  induction cs generalizing at0 a s with
  | nil =>
    rw [edsGo, shut]
    split
    · change cut (cells S) at0 a ++ news s ++ splV (cells S) (S.length : Int) [] = _
      rw [splV, hd _ (by omega) (by omega), cut_self]
    · rename_i h
      have h2 : a = S.length := by omega
      have h3 : s = [] := by
        by_cases hs : s = []
        · exact hs
        · exact absurd (.inr hs) h
      subst h2 h3
      rw [splV, hd _ h0 (by omega), news_nil, List.append_nil, List.append_nil]
  | cons c r ih =>
    have hn' : Neg r := fun d hd hd0 => hn d (by simp [hd]) hd0
    rw [edsGo]
    by_cases ho : c.o < 0
    · rw [if_pos ho, ih at0 a _ h0 h1 han (by unfold Cok at hc; rw [if_pos ho] at hc; exact hc) hn', news_append]
      have : c = ⟨-1, c.b⟩ := by have := hn c (by simp) ho; cases c; simp_all
      simp only [List.append_assoc]
      rw [show news [c.b] = [c] from by rw [this]; rfl]
      rfl
    · unfold Cok at hc
      rw [if_neg ho] at hc
      obtain ⟨hao, hb, hr⟩ := hc
      have hlt := (List.getElem?_eq_some_iff.1 hb).1
      have h1c := cut_one S c.o c.b (by omega) hb (c.o + 1) (by omega)
      rw [cut_self] at h1c
      rw [if_neg ho, shut]
      split
      · rw [List.singleton_append, splV, ih c.o (c.o + 1) [] (by omega) (by omega) (by omega) hr hn', h1c, news_nil]
        simp
      · rename_i h
        have h2 : a = c.o := by omega
        have h3 : s = [] := by
          by_cases hs : s = []
          · exact hs
          · exact absurd (.inr hs) h
        subst h2 h3
        rw [List.nil_append, ih at0 (c.o + 1) [] h0 (by omega) (by omega) hr hn', cut_split _ at0 c.o (c.o + 1) h0 h1 (by omega), h1c, news_nil]
        simp
theorem eds_spl (S : List UInt8) (cs : List Ce) (hc : Cok S 0 cs) (hn : Neg cs) : splV (cells S) 0 (eds S.length cs) = cs := by
  rw [eds, edsGo_spl S 0 0 [] cs (by omega) (by omega) (by omega) hc hn, cut_self]; simp [news]
theorem edsGo_chk (S : List UInt8) (a : Int) (s : List UInt8) (cs : List Ce) (h0 : 0 ≤ a) (han : a ≤ S.length) (hc : Cok S a cs) (e i : Int) (he : e ≤ a) (hi : i < a) :
    chk S.length e i (edsGo S.length a s cs) = 0 := by
  induction cs generalizing a s e i with
  | nil =>
    rw [edsGo, shut]
    split
    · rw [chk, if_neg (by simp only; omega), if_neg (by simp only; omega)]; rfl
    · rfl
  | cons c r ih =>
    rw [edsGo]
    unfold Cok at hc
    by_cases ho : c.o < 0
    · rw [if_pos ho] at hc ⊢
      exact ih a _ h0 han hc e i he hi
    · rw [if_neg ho] at hc ⊢
      obtain ⟨hao, hb, hr⟩ := hc
      have hlt := (List.getElem?_eq_some_iff.1 hb).1
      rw [shut]
      split
      · rw [List.singleton_append, chk, if_neg (by simp only; omega), if_neg (by simp only; omega)]
        exact ih (c.o + 1) [] (by omega) (by omega) hr _ _ (by simp only; omega) (by simp only; split <;> omega)
      · rw [List.nil_append]
        exact ih (c.o + 1) [] (by omega) (by omega) hr _ _ (by omega) (by omega)
theorem eds_chk (S : List UInt8) (cs : List Ce) (hc : Cok S 0 cs) : chk S.length 0 (-1) (eds S.length cs) = 0 :=
  edsGo_chk S 0 [] cs (by omega) (by omega) hc 0 (-1) (by omega) (by omega)
/-- the edits of a normal form, applied to the source, give the cells' bytes. -/
theorem eds_apply (S : List UInt8) (cs : List Ce) (hc : Cok S 0 cs) (hn : Neg cs) : asm S (edited (kept 0 S.length) S.length 0 (eds S.length cs)) = textOf cs := by
  rw [← apply_law S _ (eds_chk S cs hc), spl, spl_eq, eds_spl S cs hc hn]
end Sp
end Go.Proofs.Ytnnicjbceadnbaa
