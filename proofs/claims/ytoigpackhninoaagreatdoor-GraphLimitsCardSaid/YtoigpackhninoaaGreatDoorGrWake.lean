/- Walks: awake. -/
import Derived.Test.YtoigpackhninoaaGreatDoorGrList
namespace Go.Proofs.YtoigpackhninoaaGreatDoor
/-- the scalars that are walked. -/
def sclU (kind : Int) (text : Gr.Str) : Bool := if kind = 0 then text.isEmpty else if kind = 2 then Gr.intB text else if kind = 5 then utfB text else false
def KU (ns : List Gr.Nd) : Prop := ∀ x ∈ ns, x.kind = 0 ∨ x.kind = 2 ∨ x.kind = 5 ∨ x.kind = 9 ∨ x.kind = 10 ∨ x.kind = 11
theorem scalsU (ns : List Gr.Nd) (hk : KU ns) (hn : NH ns) : ScalsOk UT sclU ns := by
  intro x hx h9 h10 h11 _ _ _
  have hl := (hn x hx).2.2
  rcases hk x hx with h | h | h | h | h | h
  · rw [h]; exact scal_null x.text
  · rw [h]; exact scal_int x.text hl
  · rw [h]; exact scal_text x.text hl
  · exact absurd h h9
  · exact absurd h h10
  · exact absurd h h11
def nOne : Gr.Nd := ⟨2, [49], false, [], []⟩
def nA : Gr.Nd := ⟨5, [97], false, [], []⟩
def nsL : List Gr.Nd := [⟨9, [], false, [], [1, 2]⟩, nOne, nA]
def nsLoop : List Gr.Nd := [⟨9, [], false, [], [0]⟩]
theorem one_ok : checkG sclU [nOne] 0 = 0 := by decide +kernel
theorem a_ok : checkG sclU [nA] 0 = 0 := by decide +kernel
theorem list_ok : checkG sclU nsL 0 = 0 := by decide +kernel
theorem loop_ok : checkG sclU nsLoop 0 = 0 := by decide +kernel
theorem loop_depth : Gr.depth nsLoop 0 = (0, false) := by decide +kernel
theorem int_one : Gr.intB [49] = true := by decide +kernel
theorem int_bad : Gr.intB [48, 49] = false := by decide +kernel
theorem utf_a : utfB [97] = true := by decide +kernel
theorem list_is : Gr.listN [([nOne.ni], 0), ([nA.ni], 0)] = nsL := by rfl
theorem chkI_one : checkI sclU [nOne.ni] 0 = 0 := by decide +kernel
theorem chkI_a : checkI sclU [nA.ni] 0 = 0 := by decide +kernel
theorem nh_small (ns : List Gr.Nd) (h : (ns.all fun n => decide (n.keys.length ≤ 1000 ∧ n.items.length ≤ 1000 ∧ n.text.length ≤ 1000)) = true) : NH ns := by
  intro n hn
  have := List.all_eq_true.1 h n hn
  simp at this
  omega
theorem refs_small (ns : List Gr.Nd) (h : (ns.all fun n => (n.keys ++ n.items).all fun r => decide (r < ns.length)) = true) : Gr.Refs ns := by
  intro n hn r hr
  have := List.all_eq_true.1 (List.all_eq_true.1 h n hn) r hr
  simpa using this
theorem ku_small (ns : List Gr.Nd) (h : (ns.all fun n => n.kind == 0 || n.kind == 2 || n.kind == 5 || n.kind == 9 || n.kind == 10 || n.kind == 11) = true) : KU ns := by
  intro n hn
  have := List.all_eq_true.1 h n hn
  simp at this
  omega
theorem chk_small (A : Option Addr) (c : Nat) (vs : List NV) (ns : List Gr.Nd) (w : World) (hUT : UT w) (h1 : NH ns) (h2 : KU ns) (h3 : Gr.Refs ns) (h4 : 0 < ns.length) (h5 : ns.length ≤ 1073741823) (h : GAt w w.heap.size A vs ns) : ChkOk w (.agg #[.slice A ns.length c, .int .i64 0]) (checkG sclU ns 0) :=
  fun W hW => check_g UT UT.stays sclU A c 0 vs ns h1 (scalsU ns h2 h1) h5 h3 h4 W (UT.stays _ _ hUT hW) ((h.below hW).more hW.size)
theorem chk_none (w : World) (hUT : UT w) : ChkOk w gZero 3 := by
  intro W hW
  have := check_any UT UT.stays sclU none 0 0 [] [] (by simp [NH]) (by simp [ScalsOk]) (by simp) W (UT.stays _ _ hUT hW) ⟨?_, rfl, fun j h => by simp at h, fun j h => by simp at h⟩
  · exact this
  · exact (OwnRow.nil (L := nodeL) (w := W) (base := 0) (E := 35)).form.elim (fun A h => by obtain ⟨c, h1, h2⟩ := h; injection h1 with e1; subst e1; exact h2)
/-- a graph of one node, its lists nil, from a block. -/
theorem one_gat {w : World} {g : Nat} {kind : Int} {text : Gr.Str} (h : Blk w g 35 #[.int .i64 kind, .string ⟨text.toArray⟩, .bool false, .slice none 0 0, .slice none 0 0]) : GAt w w.heap.size (some ⟨g, 0, none⟩) [⟨kind, text, false, SV.nil, SV.nil⟩] [⟨kind, text, false, [], []⟩] := by
  obtain ⟨A, c, hv, hg⟩ := (Tab.one (B := 0) h (Nat.zero_le _)).at_
  injection hv with e1 e2 e3
  subst e1
  exact hg
/-- the two arguments. -/
def argOf (g : Nat) (kind : Int) (text : Gr.Str) : GArg := ⟨some ⟨g, 0, none⟩, 1, 0, [⟨kind, text, false, SV.nil, SV.nil⟩], [(⟨kind, text, false, [], []⟩ : Gr.Nd).ni]⟩
open Go.RowKit
theorem list_two (A : Option Addr) (c g1 g2 : Nat) (w : World) (hUT : UT w) (h1 : Blk w g1 35 #[.int .i64 2, .string ⟨([49] : Gr.Str).toArray⟩, .bool false, .slice none 0 0, .slice none 0 0]) (h2 : Blk w g2 35 #[.int .i64 5, .string ⟨([97] : Gr.Str).toArray⟩, .bool false, .slice none 0 0, .slice none 0 0])
    (hrow : RowAt argL w w.heap.size A [argOf g1 2 [49], argOf g2 5 [97]]) :
    Calls Tryz.prog 19 #[.slice A 2 c] w fun e w' => Below w.heap.size w w' ∧ ∃ A3 c3 vs, e = .returned (.tuple #[.agg #[.slice A3 3 c3, .int .i64 0], .int .i64 0]) ∧ GAt w' w'.heap.size A3 vs nsL := by
  have k1 : GArg.chk sclU (argOf g1 2 [49]) = 0 := chkI_one
  have k2 : GArg.chk sclU (argOf g2 5 [97]) = 0 := chkI_a
  have hn1 : NH [nOne] := nh_small _ (by decide)
  have hn2 : NH [nA] := nh_small _ (by decide)
  have i1 := (one_gat h1).toI
  have i2 := (one_gat h2).toI
  have hlist : Gr.listN ([argOf g1 2 [49], argOf g2 5 [97]].map GArg.p) = nsL := list_is
  have hnl : NH nsL := nh_small _ (by decide)
  have hany : [argOf g1 2 [49], argOf g2 5 [97]].any (fun x => x.chk sclU != 0) = false := by simp [k1, k2]
  have h := list_any UT UT.stays sclU A c [argOf g1 2 [49], argOf g2 5 [97]] (by simp)
    (by
        intro x hx; simp at hx
        rcases hx with rfl | rfl
        · exact hn1
        · exact hn2)
    (by
        intro x hx; simp at hx
        rcases hx with rfl | rfl
        · exact scalsU [nOne] (ku_small _ (by decide)) hn1
        · exact scalsU [nA] (ku_small _ (by decide)) hn2)
    w hUT ⟨hrow, by intro x hx; simp at hx; exact hx.elim (fun e => e ▸ i1) (fun e => e ▸ i2)⟩
    (by
      intro x hx; simp at hx
      rcases hx with rfl | rfl
      · rw [k1]; exact chk_small _ _ _ [nOne] w hUT hn1 (ku_small _ (by decide)) (refs_small _ (by decide)) (by decide) (by decide) (one_gat h1)
      · rw [k2]; exact chk_small _ _ _ [nA] w hUT hn2 (ku_small _ (by decide)) (refs_small _ (by decide)) (by decide) (by decide) (one_gat h2))
    (by
      intro _ W A c vs hW hg
      rw [hlist] at hg ⊢
      exact chk_small _ _ _ nsL W hW hnl (ku_small _ (by decide)) (refs_small _ (by decide)) (by decide) (by decide) hg)
  refine h.mono ?_
  rintro e w' ⟨hb, _, hp⟩
  refine ⟨hb, ?_⟩
  have hp2 := (hp hany).2
  rw [hlist] at hp2
  exact hp2 list_ok
end Go.Proofs.YtoigpackhninoaaGreatDoor
