/- Compose is associative: plain. -/
import Derived.Test.YtnnicjbceadnbaaValid
namespace Go.Proofs.Ytnnicjbceadnbaa
open Sp (Ed Ce chk)
namespace Sp
theorem cut_map (φ : Ce → Ce) (cs : List Ce) (a f : Int) : cut (cs.map φ) a f = (cut cs a f).map φ := by unfold cut; rw [List.map_take, List.map_drop]
theorem splV_map (φ : Ce → Ce) (hφ : ∀ b, φ ⟨-1, b⟩ = ⟨-1, b⟩) (cs : List Ce) (a : Int) (es : List Ed) : splV (cs.map φ) a es = (splV cs a es).map φ := by
  have hn : ∀ s : List UInt8, (news s).map φ = news s := by
    intro s
    unfold news
    rw [List.map_map]
    apply List.map_congr_left
    intro b _
    exact hφ b
  induction es generalizing a with
  | nil => rw [splV, splV, List.map_drop]
  | cons x r ih => rw [splV, splV, cut_map, ih, List.map_append, List.map_append, hn]
theorem text_congr (cs ds : List Ce) (a : Int) (es : List Ed) (h : textOf cs = textOf ds) : textOf (splV cs a es) = textOf (splV ds a es) := by
  induction es generalizing a with
  | nil =>
    rw [splV, splV]
    unfold textOf at *
    rw [List.map_drop, List.map_drop, h]
  | cons x r ih =>
    rw [splV, splV]
    simp only [textOf_append, textOf_cut, ih, h]
/-- what stands at a cell's offset. -/
def back (E : List Ce) (c : Ce) : Ce := if c.o < 0 then c else E[c.o.toNat]?.getD c
theorem back_new (E : List Ce) (b : UInt8) : back E ⟨-1, b⟩ = ⟨-1, b⟩ := by unfold back; rw [if_pos (by show (-1 : Int) < 0; omega)]
theorem back_cells (E : List Ce) : (cells (textOf E)).map (back E) = E := by
  have h : ∀ (k : Nat) (R : List Ce), E.drop k = R → (cellsFrom k (textOf R)).map (back E) = R := by
    intro k R
    induction R generalizing k with
    | nil => intro _; rfl
    | cons c r ih =>
      intro hd
      have hc : E[k]? = some c := by
        have : (E.drop k)[0]? = some c := by rw [hd]; rfl
        rwa [List.getElem?_drop, Nat.add_zero] at this
      have hr : E.drop (k + 1) = r := by rw [← List.drop_drop, hd]; rfl
      show back E ⟨(k : Int), c.b⟩ :: (cellsFrom (k + 1) (textOf r)).map (back E) = c :: r
      rw [ih (k + 1) hr]
      congr 1
      unfold back
      rw [if_neg (by show ¬ (k : Int) < 0; omega)]
      show (E[((k : Nat) : Int).toNat]?).getD _ = c
      rw [show ((k : Nat) : Int).toNat = k from by omega, hc]
      rfl
  exact h 0 E rfl
theorem shift_le (n : Int) (a : Int) (es : List Ed) (h : Val n a es) : shift n es ≤ txt es := by
  induction es generalizing a with
  | nil => simp [shift, txt]
  | cons x r ih =>
    have g2 := h.2.1
    have := ih x.t h.2.2
    rw [shift_cons, if_pos h.2.2.le, txt]
    omega
theorem splV_le (cs : List Ce) (es : List Ed) (h : Val cs.length 0 es) : (splV cs 0 es).length ≤ cs.length + txt es := by
  have h1 := splV_len cs 0 es (by omega) h
  have h2 := shift_le cs.length 0 es h
  omega
end Sp
/-- what the law of associativity needs. -/
structure AssocFacts (src : List UInt8) (a b c : List Ed) (T1 T2 T3 : List UInt8) (ab bc x : List Ed) : Prop where
  fab : Fit2 src a b
  fbc : Fit2 T1 b c
  fx : Fit2 src ab c
  fy : Fit2 src a bc
  sc : Small T2 c
  sx : Small src x
  t2 : Sp.asm src (pieces src ab) = T2
  oab : chk src.length 0 (-1) ab = 0
  obc : chk T1.length 0 (-1) bc = 0
  ox : chk src.length 0 (-1) x = 0
  pab : Sp.normal src.length 0 [] (Sp.edited (pieces src a) T1.length 0 b) = ab
  pbc : Sp.normal T1.length 0 [] (Sp.edited (pieces T1 b) T2.length 0 c) = bc
  px : Sp.normal src.length 0 [] (Sp.edited (pieces src ab) T2.length 0 c) = x
  py : Sp.normal src.length 0 [] (Sp.edited (pieces src a) T1.length 0 bc) = x
  vx : Sp.asm src (pieces src x) = T3
  lx : x.length ≤ 10000
theorem small_of {src : List UInt8} {l : List Ed} (h1 : src.length ≤ 10000) (h2 : l.length ≤ 10000) (h3 : Sp.txt l ≤ 10000) : Small src l := by
  unfold Small
  have : (l.length + 1) * (src.length + 32) ≤ 10001 * 10032 := Nat.mul_le_mul (by omega) (by omega)
  omega
theorem fit_of {src : List UInt8} {a b : List Ed} (h1 : src.length ≤ 10000) (h2 : a.length ≤ 10000) (h3 : Sp.txt a ≤ 10000) (h4 : b.length ≤ 10000) (h5 : Sp.txt b ≤ 10000) (h6 : a.length ≤ 30 ∨ b.length ≤ 30) : Fit2 src a b := by
  refine ⟨small_of h1 h2 h3, ?_, by omega, by omega, by omega⟩
  rcases h6 with h6 | h6
  · have : b.length * (2 * a.length + 2) ≤ 10000 * 62 := Nat.mul_le_mul h4 (by omega)
    omega
  · have : b.length * (2 * a.length + 2) ≤ 30 * 20002 := Nat.mul_le_mul h6 (by omega)
    omega
theorem assoc_facts (src : List UInt8) (a b c : List Ed) (T1 T2 T3 : List UInt8) (h300 : src.length ≤ 300) (la : a.length ≤ 30 ∧ Sp.txt a ≤ 3000) (lb : b.length ≤ 30 ∧ Sp.txt b ≤ 3000) (lc : c.length ≤ 30 ∧ Sp.txt c ≤ 3000)
    (ha : chk src.length 0 (-1) a = 0) (h1 : Sp.asm src (pieces src a) = T1) (hb : chk T1.length 0 (-1) b = 0) (h2 : Sp.asm T1 (pieces T1 b) = T2) (hc : chk T2.length 0 (-1) c = 0) (h3 : Sp.asm T2 (pieces T2 c) = T3) :
    ∃ ab bc x, AssocFacts src a b c T1 T2 T3 ab bc x := by
  have hsa : Small src a := small_of (by omega) (by omega) (by omega)
  have e1 := mid_text src a ha
  rw [h1] at e1
  have va := Sp.chk_val src.length a 0 (-1) (by omega) (by omega) ha
  have vb := Sp.chk_val T1.length b 0 (-1) (by omega) (by omega) hb
  have vc := Sp.chk_val T2.length c 0 (-1) (by omega) (by omega) hc
  have l1 : (Sp.splV (Sp.cells src) 0 a).length ≤ 3300 := by
    have := Sp.splV_le (Sp.cells src) a (by rw [Sp.cells_len]; exact va)
    rw [Sp.cells_len] at this; omega
  have t1l : T1.length = (Sp.splV (Sp.cells src) 0 a).length := by rw [e1, Sp.textOf_len]
  have hsb : Small T1 b := small_of (by omega) (by omega) (by omega)
  have e2 := mid_text T1 b hb
  rw [h2] at e2
  have e2' : Sp.textOf (Sp.splV (Sp.splV (Sp.cells src) 0 a) 0 b) = T2 := by
    rw [e2]; exact Sp.text_congr _ _ 0 b (by rw [← e1, Sp.textOf_cells])
  have l2 : (Sp.splV (Sp.splV (Sp.cells src) 0 a) 0 b).length ≤ 6300 := by
    have := Sp.splV_le (Sp.splV (Sp.cells src) 0 a) b (by rw [← t1l]; exact vb)
    omega
  have t2l : T2.length = (Sp.splV (Sp.splV (Sp.cells src) 0 a) 0 b).length := by rw [← e2', Sp.textOf_len]
  have hsc : Small T2 c := small_of (by omega) (by omega) (by omega)
  have e3 := mid_text T2 c hc
  rw [h3] at e3
  have e3' : Sp.textOf (Sp.splV (Sp.splV (Sp.splV (Sp.cells src) 0 a) 0 b) 0 c) = T3 := by
    rw [e3]; exact Sp.text_congr _ _ 0 c (by rw [e2', Sp.textOf_cells])
  have l3 : (Sp.splV (Sp.splV (Sp.splV (Sp.cells src) 0 a) 0 b) 0 c).length ≤ 9300 := by
    have := Sp.splV_le (Sp.splV (Sp.splV (Sp.cells src) 0 a) 0 b) c (by rw [← t2l]; exact vc)
    omega
  obtain ⟨ab, hab⟩ := comp_facts src a b hsa (fun x hx => by have := txt_mem b x hx; omega) ha T1 h1 hb
  obtain ⟨bc, hbc⟩ := comp_facts T1 b c hsb (fun x hx => by have := txt_mem c x hx; omega) hb T2 h2 hc
  have lab := hab.len
  have tab := hab.txt
  have hsab : Small src ab := small_of (by omega) (by omega) (by omega)
  have t2ab : Sp.asm src (pieces src ab) = T2 := by rw [hab.out, e2']
  obtain ⟨x, hx⟩ := comp_facts src ab c hsab (fun x hx => by have := txt_mem c x hx; omega) hab.ok T2 t2ab hc
  -- the cells of b and c over T1
  have nat := Sp.back_cells (Sp.splV (Sp.cells src) 0 a)
  rw [← e1] at nat
  have hn := Sp.back_new (Sp.splV (Sp.cells src) 0 a)
  have key : Sp.splV (Sp.splV (Sp.cells src) 0 a) 0 bc = Sp.splV (Sp.splV (Sp.splV (Sp.cells src) 0 a) 0 b) 0 c := by
    calc Sp.splV (Sp.splV (Sp.cells src) 0 a) 0 bc
        = Sp.splV ((Sp.cells T1).map (Sp.back (Sp.splV (Sp.cells src) 0 a))) 0 bc := by rw [nat]
      _ = (Sp.splV (Sp.cells T1) 0 bc).map (Sp.back (Sp.splV (Sp.cells src) 0 a)) := Sp.splV_map _ hn _ _ _
      _ = (Sp.splV (Sp.splV (Sp.cells T1) 0 b) 0 c).map (Sp.back (Sp.splV (Sp.cells src) 0 a)) := by rw [hbc.back]
      _ = Sp.splV (Sp.splV ((Sp.cells T1).map (Sp.back (Sp.splV (Sp.cells src) 0 a))) 0 b) 0 c := by rw [Sp.splV_map _ hn, Sp.splV_map _ hn]
      _ = _ := by rw [nat]
  have l3b : (Sp.splV (Sp.splV (Sp.cells T1) 0 b) 0 c).length ≤ 9300 := by
    have e4 : Sp.textOf (Sp.splV (Sp.splV (Sp.cells T1) 0 b) 0 c) = T3 := by
      rw [← e3']
      exact Sp.text_congr _ _ 0 c (by rw [e2', ← e2])
    rw [← Sp.textOf_len, e4, ← e3', Sp.textOf_len]; exact l3
  have lbc := hbc.len
  have tbc := hbc.txt
  obtain ⟨y, hy⟩ := comp_facts src a bc hsa (fun x hx => by have := txt_mem bc x hx; omega) ha T1 h1 hbc.ok
  have hxr := hx.ref
  rw [hab.back] at hxr
  have hxy : y = x := by rw [← hy.ref, key, hxr]
  have lx := hx.len
  have tx := hx.txt
  rw [hab.back] at lx tx
  refine ⟨ab, bc, x, fit_of (by omega) (by omega) (by omega) (by omega) (by omega) (.inl la.1), fit_of (by omega) (by omega) (by omega) (by omega) (by omega) (.inl lb.1), fit_of (by omega) (by omega) (by omega) (by omega) (by omega) (.inr lc.1),
    fit_of (by omega) (by omega) (by omega) (by omega) (by omega) (.inl la.1), hsc, small_of (by omega) (by omega) (by omega), t2ab, hab.ok, hbc.ok, hx.ok, hab.prog, hbc.prog, hx.prog, by rw [hy.prog, hxy], ?_, by omega⟩
  rw [hx.out, hab.back, e3']
end Go.Proofs.Ytnnicjbceadnbaa
