/- Joined edits as edits one after the other: plain. -/
import Derived.Test.YtnnicjbceadnbaaPlainM
import Derived.Test.YtnnicjbceadnbaaPlainJ
namespace Go.Proofs.Ytnnicjbceadnbaa
open Sp (Ed Ce chk)
/-- an edit moved. -/
def by_ (k : Int) (x : Ed) : Ed := ⟨x.f + k, x.t + k, x.s⟩
theorem cut_after (A D : List Ce) (a f : Int) (ha : 0 ≤ a) : Sp.cut (A ++ D) (a + A.length) (f + A.length) = Sp.cut D a f := by
  unfold Sp.cut
  rw [List.drop_append, List.drop_eq_nil_of_le (by omega), List.nil_append, show (a + (A.length : Int)).toNat - A.length = a.toNat from by omega]
  congr 1
  omega
theorem splV_after (A D : List Ce) (a : Int) (L : List Ed) (ha : 0 ≤ a) (n : Int) (hv : Sp.Val n a L) : Sp.splV (A ++ D) (a + A.length) (L.map (by_ A.length)) = Sp.splV D a L := by
  induction L generalizing a with
  | nil =>
    rw [List.map_nil, Sp.splV, Sp.splV, List.drop_append, List.drop_eq_nil_of_le (by omega), List.nil_append, show (a + (A.length : Int)).toNat - A.length = a.toNat from by omega]
  | cons x r ih =>
    have h1 := hv.1
    have h2 := hv.2.1
    rw [List.map_cons, Sp.splV, Sp.splV, show (by_ (A.length : Int) x).f = x.f + A.length from rfl, show (by_ (A.length : Int) x).t = x.t + A.length from rfl, show (by_ (A.length : Int) x).s = x.s from rfl, cut_after A D a x.f ha, ih x.t (by omega) hv.2.2]
theorem splV_pre (A D : List Ce) (L : List Ed) (n : Int) (hv : Sp.Val n 0 L) : Sp.splV (A ++ D) 0 (L.map (by_ A.length)) = A ++ Sp.splV D 0 L := by
  cases L with
  | nil => simp [Sp.splV]
  | cons x r =>
    have h1 := hv.1
    have h2 := hv.2.1
    rw [List.map_cons, Sp.splV, Sp.splV, show (by_ (A.length : Int) x).f = x.f + A.length from rfl, show (by_ (A.length : Int) x).t = x.t + A.length from rfl, show (by_ (A.length : Int) x).s = x.s from rfl, splV_after A D x.t r (by omega) n hv.2.2]
    have : Sp.cut (A ++ D) 0 (x.f + A.length) = A ++ Sp.cut D 0 x.f := by
      unfold Sp.cut
      simp only [Int.toNat_zero, List.drop_zero, Nat.sub_zero]
      rw [List.take_append, List.take_of_length_le (by omega)]
      congr 2
      omega
    rw [this]
    simp only [List.append_assoc]
theorem val_by (n a k : Int) (L : List Ed) (h : Sp.Val n a L) : Sp.Val (n + k) (a + k) (L.map (by_ k)) := by
  induction L generalizing a with
  | nil => have : a ≤ n := h; show a + k ≤ n + k; omega
  | cons x r ih =>
    have h1 := h.1
    have h2 := h.2.1
    exact ⟨by show a + k ≤ x.f + k; omega, by show x.f + k ≤ x.t + k; omega, ih x.t h.2.2⟩
theorem val_low {n a b : Int} {L : List Ed} (h : Sp.Val n a L) (hb : b ≤ a) : Sp.Val n b L := by
  cases L with
  | nil => have : a ≤ n := h; show b ≤ n; omega
  | cons x r => exact ⟨by have := h.1; omega, h.2⟩
theorem val_filter {n a : Int} {L : List Ed} (h : Sp.Val n a L) (P : Ed → Bool) : Sp.Val n a (L.filter P) := by
  induction L generalizing a with
  | nil => exact h
  | cons x r ih =>
    rw [List.filter_cons]
    split
    · exact ⟨h.1, h.2.1, ih h.2.2⟩
    · exact val_low (ih h.2.2) (by have := h.1; have := h.2.1; omega)
theorem splV_split (C : List Ce) (a t : Int) (L : List Ed) (h0 : 0 ≤ a) (hat : a ≤ t) (hv : Sp.Val C.length t L) : Sp.splV C a L = Sp.cut C a t ++ Sp.splV C t L := by
  have hd : ∀ (f : Int), t ≤ f → Sp.cut C a f = Sp.cut C a t ++ Sp.cut C t f := by
    intro f hf
    unfold Sp.cut
    rw [show f.toNat - a.toNat = (t.toNat - a.toNat) + (f.toNat - t.toNat) from by omega, List.take_add, List.drop_drop, show a.toNat + (t.toNat - a.toNat) = t.toNat from by omega]
  cases L with
  | nil =>
    rw [Sp.splV, Sp.splV]
    unfold Sp.cut
    rw [show C.drop t.toNat = (C.drop a.toNat).drop (t.toNat - a.toNat) from by rw [List.drop_drop]; congr 1; omega, List.take_append_drop]
  | cons x r =>
    have h1 := hv.1
    rw [Sp.splV, Sp.splV, hd x.f h1]
    simp only [List.append_assoc]
/-- an edit at the place where it stands after the edits p of a source's rest. -/
def mvAt (a : Int) (p : List Ed) (x : Ed) : Ed := by_ (Sp.shift x.f p - a) x
theorem val_mem {n a : Int} {L : List Ed} (h : Sp.Val n a L) : ∀ x ∈ L, a ≤ x.f ∧ x.f ≤ x.t ∧ x.t ≤ n := by
  induction L generalizing a with
  | nil => intro x hx; cases hx
  | cons y r ih =>
    intro x hx
    have h1 := h.1
    have h2 := h.2.1
    rcases List.mem_cons.1 hx with rfl | hx
    · exact ⟨h1, h2, h.2.2.le⟩
    · have := ih h.2.2 x hx; omega
theorem by_by (k m : Int) (x : Ed) : by_ k (by_ m x) = by_ (m + k) x := by simp [by_, Int.add_assoc]
/-- what stands under both lists, one after the other, is what stands under the joined list. -/
theorem merged (C : List Ce) (P : Ed → Bool) (J : List Ed) (a : Int) (h0 : 0 ≤ a) (hv : Sp.Val C.length a J) (hr : ∀ x ∈ J, P x = false → x.f < x.t) :
    Sp.splV (Sp.splV C a (J.filter P)) 0 ((J.filter (fun x => !P x)).map (mvAt a (J.filter P))) = Sp.splV C a J ∧
    Sp.Val (Sp.splV C a (J.filter P)).length 0 ((J.filter (fun x => !P x)).map (mvAt a (J.filter P))) := by
  induction J generalizing a with
  | nil => exact ⟨by simp [Sp.splV], by show (0 : Int) ≤ _; omega⟩
  | cons x J ih =>
    have h1 := hv.1
    have h2 := hv.2.1
    have hle := hv.2.2.le
    obtain ⟨i1, i2⟩ := ih x.t (by omega) hv.2.2 (fun y hy => hr y (List.mem_cons_of_mem _ hy))
    have hm := val_mem hv.2.2
    cases hP : P x with
    | true =>
      rw [List.filter_cons_of_pos hP, List.filter_cons_of_neg (by simp [hP])]
      have hA : ((Sp.cut C a x.f ++ Sp.news x.s).length : Int) = x.f - a + x.s.length := by
        rw [List.length_append, Sp.news_length]
        have := Sp.cut_length C a x.f h0 h1 (by omega)
        omega
      have hmap : (J.filter (fun y => !P y)).map (mvAt a (x :: J.filter P)) = ((J.filter (fun y => !P y)).map (mvAt x.t (J.filter P))).map (by_ (Sp.cut C a x.f ++ Sp.news x.s).length) := by
        rw [List.map_map]
        apply List.map_congr_left
        intro y hy
        have := hm y (List.mem_filter.1 hy).1
        show by_ _ y = by_ _ (by_ _ y)
        rw [by_by, hA, Sp.shift_cons, if_pos (by omega)]
        congr 1; omega
      rw [Sp.splV, hmap]
      refine ⟨?_, ?_⟩
      · rw [splV_pre _ _ _ _ i2, i1, Sp.splV]
      · have := val_by _ 0 ((Sp.cut C a x.f ++ Sp.news x.s).length : Int) _ i2
        rw [Int.zero_add] at this
        rw [List.length_append, show (((Sp.cut C a x.f ++ Sp.news x.s).length + (Sp.splV C x.t (J.filter P)).length : Nat) : Int) = ((Sp.splV C x.t (J.filter P)).length : Int) + ((Sp.cut C a x.f ++ Sp.news x.s).length : Int) from by omega]
        exact val_low this (by omega)
    | false =>
      have hft := hr x (by simp) hP
      rw [List.filter_cons_of_neg (by simp [hP]), List.filter_cons_of_pos (by simp [hP]), List.map_cons]
      have hpv := val_filter hv.2.2 P
      have hK : ((Sp.cut C a x.t).length : Int) = x.t - a := Sp.cut_length C a x.t h0 (by omega) hle
      have hmx : mvAt a (J.filter P) x = by_ (-a) x := by unfold mvAt; rw [Sp.shift_zero C.length x.f x.t _ hpv hft]; congr 1; omega
      have hmap : (J.filter (fun y => !P y)).map (mvAt a (J.filter P)) = ((J.filter (fun y => !P y)).map (mvAt x.t (J.filter P))).map (by_ (Sp.cut C a x.t).length) := by
        rw [List.map_map]
        apply List.map_congr_left
        intro y hy
        show by_ _ y = by_ _ (by_ _ y)
        rw [by_by, hK]
        congr 1; omega
      rw [splV_split C a x.t _ h0 (by omega) hpv, hmx, hmap]
      have hcut : Sp.cut (Sp.cut C a x.t ++ Sp.splV C x.t (J.filter P)) 0 (x.f + -a) = Sp.cut C a x.f := by
        have hl := hK
        unfold Sp.cut at hl ⊢
        simp only [Int.toNat_zero, List.drop_zero, Nat.sub_zero]
        rw [List.take_append_of_le_length (by omega), List.take_take]
        congr 1
        omega
      refine ⟨?_, ?_⟩
      · rw [Sp.splV, show (by_ (-a) x).f = x.f + -a from rfl, show (by_ (-a) x).t = x.t + -a from rfl, show (by_ (-a) x).s = x.s from rfl, hcut, Sp.splV]
        have := splV_after (Sp.cut C a x.t) (Sp.splV C x.t (J.filter P)) 0 _ (by omega) _ i2
        rw [Int.zero_add, hK, show x.t - a = x.t + -a from by omega, i1] at this
        rw [hK, show x.t - a = x.t + -a from by omega, this]
      · refine ⟨by show (0 : Int) ≤ x.f + -a; omega, by show x.f + -a ≤ x.t + -a; omega, ?_⟩
        have := val_by _ 0 ((Sp.cut C a x.t).length : Int) _ i2
        rw [Int.zero_add] at this
        rw [List.length_append, show (((Sp.cut C a x.t).length + (Sp.splV C x.t (J.filter P)).length : Nat) : Int) = ((Sp.splV C x.t (J.filter P)).length : Int) + ((Sp.cut C a x.t).length : Int) from by omega, show (by_ (-a) x).t = ((Sp.cut C a x.t).length : Int) from by rw [hK]; show x.t + -a = _; omega]
        exact this
theorem chk_of_val (n a i : Int) (L : List Ed) (h0 : 0 ≤ a) (h : Sp.Val n a L) (hs : ∀ x ∈ L, x.f < x.t) : chk n a i L = 0 := by
  induction L generalizing a i with
  | nil => rfl
  | cons x r ih =>
    have h1 := h.1
    have h2 := hs x (by simp)
    have h3 := h.2.2.le
    rw [chk, if_neg (by omega), if_neg (by omega), if_neg (by omega)]
    exact ih x.t (-1) (by omega) h.2.2 (fun y hy => hs y (by simp [hy]))
theorem leEd_total (x y : Ed) (h : ¬ leEd y x) : leEd x y := by unfold leEd at *; omega
/-- strictly ascending lists with the same elements are one. -/
theorem strict_unique (L M : List Ed) (hL : L.Pairwise fun x y => ¬ leEd y x) (hM : M.Pairwise fun x y => ¬ leEd y x) (h : ∀ x, x ∈ L ↔ x ∈ M) : L = M := by
  have nL : L.Nodup := hL.imp (fun {x y} hxy (e : x = y) => hxy (by rw [e]; exact leEd_refl y))
  have nM : M.Nodup := hM.imp (fun {x y} hxy (e : x = y) => hxy (by rw [e]; exact leEd_refl y))
  refine List.Perm.eq_of_pairwise (le := fun x y => ¬ leEd y x) ?_ hL hM (perm_of_nodup L M nL nM h)
  intro x y _ _ h1 h2
  exact absurd (leEd_total x y h1) h2
theorem shift_bd (n : Int) (off : Int) (l : List Ed) (h : ∀ x ∈ l, 0 ≤ x.f ∧ x.f ≤ x.t ∧ x.t ≤ n) (hn : 0 ≤ n) : -(n * l.length) ≤ Sp.shift off l ∧ Sp.shift off l ≤ Sp.txt l := by
  induction l with
  | nil => simp [Sp.shift, Sp.txt]
  | cons x r ih =>
    have h1 := h x (by simp)
    have h2 := ih fun y hy => h y (by simp [hy])
    rw [Sp.shift_cons, Sp.txt, List.length_cons]
    have e : n * ((r.length + 1 : Nat) : Int) = n * r.length + n := by rw [show ((r.length + 1 : Nat) : Int) = (r.length : Int) + 1 from by omega, Int.mul_add, Int.mul_one]
    rw [e]
    split <;> omega
theorem txt_perm {l m : List Ed} (h : l.Perm m) : Sp.txt l = Sp.txt m := by
  induction h with
  | nil => rfl
  | cons x _ ih => simp only [Sp.txt, ih]
  | swap x y l => simp only [Sp.txt]; omega
  | trans _ _ h1 h2 => rw [h1, h2]
theorem txt_dedTo (out l : List Ed) : Sp.txt (dedTo out l) ≤ Sp.txt out + Sp.txt l := by
  induction l generalizing out with
  | nil => simp [dedTo, Sp.txt]
  | cons y r ih =>
    rw [dedTo]
    have := ih (if y ∈ out then out else out ++ [y])
    simp only [Sp.txt]
    split at this
    · rename_i h; rw [if_pos h]; omega
    · rename_i h; rw [if_neg h]; rw [Sp.txt_snoc] at this; omega
theorem txt_filter (l : List Ed) (P : Ed → Bool) : Sp.txt (l.filter P) ≤ Sp.txt l := by
  induction l with
  | nil => simp
  | cons y r ih =>
    rw [List.filter_cons]
    split <;> (simp only [Sp.txt]; omega)
/-- is an edit not in the first list. -/
def notIn (p : List Ed) (x : Ed) : Bool := !decide (x ∈ p)
/-- an edit of the second list, moved. -/
def mvR (p : List Ed) (x : Ed) : Ed := by_ (Sp.shift x.f p) x
/-- what the law of the parts needs. -/
structure PartsFacts (src : List UInt8) (p q J R : List Ed) (S U : List UInt8) : Prop where
  text : Sp.asm src (pieces src p) = S
  ok : chk S.length 0 (-1) R = 0
  out : Sp.asm S (pieces S R) = U
  all : Sp.asm src (pieces src J) = U
  sp : Small src p
  sR : Small S R
  sJ : Small src J
theorem parts_facts (src : List UInt8) (p q J : List Ed) (h300 : src.length ≤ 300) (lp : p.length ≤ 30 ∧ Sp.txt p ≤ 3000) (lq : q.length ≤ 30 ∧ Sp.txt q ≤ 3000) (hp : chk src.length 0 (-1) p = 0) (hq : chk src.length 0 (-1) q = 0) (hJ : IsJoin p q J) (hJ0 : chk src.length 0 (-1) J = 0)
    (hg : ∀ x ∈ q, x ∉ p → x.f < x.t) : ∃ S U, PartsFacts src p q J ((q.filter (notIn p)).map (mvR p)) S U := by
  have hmem : ∀ x, x ∈ J ↔ x ∈ p ∨ x ∈ q := by
    intro x
    rw [hJ.1.mem_iff]
    unfold ded
    rw [mem_dedTo, List.mem_append]
    simp
  have sJ := (chk_strict _ _ _ _ hJ0).2
  have sp := (chk_strict _ _ _ _ hp).2
  have sq := (chk_strict _ _ _ _ hq).2
  have e1 : J.filter (fun x => decide (x ∈ p)) = p := by
    refine strict_unique _ _ (sJ.sublist List.filter_sublist) sp fun x => ?_
    rw [List.mem_filter, hmem]
    simp only [decide_eq_true_eq]
    constructor
    · exact fun h => h.2
    · exact fun h => ⟨.inl h, h⟩
  have e2 : J.filter (fun x => !decide (x ∈ p)) = q.filter (notIn p) := by
    refine strict_unique _ _ (sJ.sublist List.filter_sublist) (sq.sublist List.filter_sublist) fun x => ?_
    rw [List.mem_filter, List.mem_filter, hmem]
    unfold notIn
    simp only [Bool.not_eq_true', decide_eq_false_iff_not]
    constructor
    · rintro ⟨h1 | h1, h2⟩
      · exact absurd h1 h2
      · exact ⟨h1, h2⟩
    · exact fun h => ⟨.inr h.1, h.2⟩
  have vJ := Sp.chk_val src.length J 0 (-1) (by omega) (by omega) hJ0
  have vp := Sp.chk_val src.length p 0 (-1) (by omega) (by omega) hp
  obtain ⟨m1, m2⟩ := merged (Sp.cells src) (fun x => decide (x ∈ p)) J 0 (by omega) (by rw [Sp.cells_len]; exact vJ) (fun x hx hn => by
    have hn' : x ∉ p := by simpa using hn
    rcases (hmem x).1 hx with h | h
    · exact absurd h hn'
    · exact hg x h hn')
  rw [e1, e2] at m1 m2
  have hmv : (q.filter (notIn p)).map (mvAt 0 p) = (q.filter (notIn p)).map (mvR p) := by
    apply List.map_congr_left
    intro x _
    unfold mvAt mvR
    rw [Int.sub_zero]
  rw [hmv] at m1 m2
  have ht := mid_text src p hp
  have hl : (Sp.splV (Sp.cells src) 0 p).length = (Sp.asm src (pieces src p)).length := by rw [ht, Sp.textOf_len]
  have hs3 : (Sp.splV (Sp.cells src) 0 p).length ≤ 3300 := by
    have := Sp.splV_le (Sp.cells src) p (by rw [Sp.cells_len]; exact vp)
    rw [Sp.cells_len] at this; omega
  have hR : chk (Sp.asm src (pieces src p)).length 0 (-1) ((q.filter (notIn p)).map (mvR p)) = 0 := by
    rw [← hl]
    refine chk_of_val _ 0 (-1) _ (by omega) m2 ?_
    intro x hx
    obtain ⟨y, hy, rfl⟩ := List.mem_map.1 hx
    obtain ⟨h1, h2⟩ := List.mem_filter.1 hy
    have := hg y h1 (by simpa [notIn] using h2)
    show y.f + _ < y.t + _
    omega
  have hRl : ((q.filter (notIn p)).map (mvR p)).length ≤ 30 := by
    rw [List.length_map]
    have := List.length_filter_le (notIn p) q
    omega
  have hRt : Sp.txt ((q.filter (notIn p)).map (mvR p)) ≤ 3000 := by
    have : ∀ l : List Ed, Sp.txt (l.map (mvR p)) = Sp.txt l := by
      intro l
      induction l with
      | nil => rfl
      | cons y r ih => simp only [List.map_cons, Sp.txt, ih]; rfl
    rw [this]
    have := txt_filter q (notIn p)
    omega
  have hJl := hJ.len
  have hJt : Sp.txt J ≤ 6000 := by
    rw [txt_perm hJ.1]
    have := txt_dedTo [] (p ++ q)
    rw [Sp.txt_append] at this
    simp only [Sp.txt] at this
    unfold ded
    omega
  refine ⟨Sp.asm src (pieces src p), Sp.asm src (pieces src J), rfl, hR, ?_, rfl, small_of (by omega) (by omega) (by omega), small_of (by omega) (by omega) (by omega), small_of (by omega) (by omega) (by omega)⟩
  rw [mid_text _ _ hR, mid_text _ _ hJ0, ← m1]
  exact Sp.text_congr _ _ 0 _ (by rw [Sp.textOf_cells, ht])
end Go.Proofs.Ytnnicjbceadnbaa
