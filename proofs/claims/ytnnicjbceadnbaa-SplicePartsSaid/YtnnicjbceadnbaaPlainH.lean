/- The edits that undo edits: plain. -/
import Derived.Test.YtnnicjbceadnbaaPlainF
import Derived.Test.YtnnicjbceadnbaaInv
namespace Go.Proofs.Ytnnicjbceadnbaa
namespace Sp
def slice (S : List UInt8) (a f : Int) : List UInt8 := (S.drop a.toNat).take (f.toNat - a.toNat)
theorem slice_self (S : List UInt8) (a : Int) : slice S a a = [] := by simp [slice]
theorem slice_len (S : List UInt8) (a f : Int) (h0 : 0 ≤ a) (h : a ≤ f) (hf : f ≤ S.length) : (slice S a f).length = f.toNat - a.toNat := by
  unfold slice; rw [List.length_take, List.length_drop]; omega
theorem slice_split (S : List UInt8) (a f g : Int) (h0 : 0 ≤ a) (h1 : a ≤ f) (h2 : f ≤ g) : slice S a g = slice S a f ++ slice S f g := by
  unfold slice
  rw [show g.toNat - a.toNat = (f.toNat - a.toNat) + (g.toNat - f.toNat) from by omega, List.take_add, List.drop_drop]
  congr 3; omega
theorem slice_end (S : List UInt8) (a : Int) : slice S a S.length = S.drop a.toNat := by
  unfold slice
  rw [List.take_of_length_le (by rw [List.length_drop]; omega)]
theorem slice_drop (S : List UInt8) (a f : Int) (h0 : 0 ≤ a) (h : a ≤ f) (hf : f ≤ S.length) : S.drop a.toNat = slice S a f ++ S.drop f.toNat := by
  rw [← slice_end, ← slice_end, slice_split S a f S.length h0 h hf]
/-- the bytes of the source as cells of the edited source. -/
def bk (S : List UInt8) : Nat → Int → List Ed → List Ce
  | m, a, [] => cellsFrom m (S.drop a.toNat)
  | m, a, x :: r => cellsFrom m (slice S a x.f) ++ news (slice S x.f x.t) ++ bk S (m + (x.f.toNat - a.toNat) + x.s.length) x.t r
theorem text_bk (S : List UInt8) (m : Nat) (a : Int) (es : List Ed) (h0 : 0 ≤ a) (h : Val S.length a es) : textOf (bk S m a es) = S.drop a.toNat := by
  induction es generalizing m a with
  | nil => rw [bk, textOf_cellsFrom]
  | cons x r ih =>
    have h1 := h.1
    have h2 := h.2.1
    have h3 := h.2.2.le
    rw [bk, textOf_append, textOf_append, textOf_cellsFrom, textOf_news, ih _ x.t (by omega) h.2.2, List.append_assoc, ← slice_drop S x.f x.t (by omega) h2 h3, ← slice_drop S a x.f h0 h1 (by omega)]
theorem asm_kept' (S : List UInt8) (a f : Int) (h0 : 0 ≤ a) (h1 : a ≤ f) : asm S (kept a f) = slice S a f := asm_kept S a f h0 h1
theorem drop_step {T u v : List UInt8} {m : Nat} (h : T.drop m = u ++ v) : T.drop (m + u.length) = v := by
  rw [← List.drop_drop, h, List.drop_left]
/-- one kept run, read by Invert. -/
theorem iv_kept (S T : List UInt8) (m : Nat) (a f old : Int) (R : List Ed) (v : List UInt8) (Z : List Ce) (h0 : 0 ≤ old) (h1 : old ≤ a) (h2 : a ≤ f) (h3 : f ≤ S.length) (hT : T.drop m = slice S a f ++ v)
    (hR : ∀ old' : Int, 0 ≤ old' → old' ≤ f → cellsOf T (ivGo S ((m + (f.toNat - a.toNat) : Nat) : Int) old' R) = news (slice S old' f) ++ Z) :
    cellsOf T (ivGo S (m : Int) old (kept a f ++ R)) = news (slice S old a) ++ cellsFrom m (slice S a f) ++ Z := by
  unfold kept
  by_cases haf : a = f
  · subst haf
    rw [if_pos rfl, List.nil_append, slice_self]
    have := hR old h0 h1
    rw [show m + (a.toNat - a.toNat) = m from by omega] at this
    rw [this]; simp [cellsFrom]
  · rw [if_neg haf, List.singleton_append, ivGo, if_pos (by show 0 ≤ a; omega)]
    have hm : (m : Int) + (f - a) = ((m + (f.toNat - a.toNat) : Nat) : Int) := by omega
    change cellsOf T (added (slice S old a) ++ kept (m : Int) ((m : Int) + (f - a)) ++ ivGo S ((m : Int) + (f - a)) (a + (f - a)) R) = _
    rw [show a + (f - a) = f from by omega, cellsOf_append, cellsOf_append, expand_added, expand_kept T _ _ (by omega) (by omega), hm, hR f (by omega) (by omega), slice_self, cut_cells]
    have hc : (List.drop (m : Int).toNat T).take (((m + (f.toNat - a.toNat) : Nat) : Int).toNat - (m : Int).toNat) = slice S a f := by
      rw [show (m : Int).toNat = m from by omega, hT, List.take_left' (by rw [slice_len S a f (by omega) h2 h3]; omega)]
    rw [hc, news_nil, List.nil_append, show (m : Int).toNat = m from by omega]
theorem iv_added (S : List UInt8) (m old : Int) (s : List UInt8) (R : List Ed) : ivGo S m old (added s ++ R) = ivGo S (m + s.length) old R := by
  unfold added
  split
  · rename_i h; subst h; simp
  · rw [List.singleton_append, ivGo, if_neg (by show ¬ (0 : Int) ≤ -1; omega)]
theorem iv_bk (S T : List UInt8) (m : Nat) (a old : Int) (es : List Ed) (h0 : 0 ≤ old) (h1 : old ≤ a) (h : Val S.length a es) (hT : T.drop m = asm S (flat S.length a es)) :
    cellsOf T (ivGo S (m : Int) old (flat S.length a es)) = news (slice S old a) ++ bk S m a es := by
  induction es generalizing m a old with
  | nil =>
    have ha : a ≤ S.length := h
    rw [flat, asm_kept' S a S.length (by omega) ha] at hT
    rw [flat, bk, ← slice_end S a]
    have := iv_kept S T m a S.length old [] [] [] h0 h1 ha (by omega) (by rw [hT, List.append_nil]) (by
      intro old' h0' _
      rw [ivGo, expand_added, slice_end, List.append_nil])
    rw [List.append_nil, List.append_nil] at this
    exact this
  | cons x r ih =>
    have g1 := h.1
    have g2 := h.2.1
    have g3 := h.2.2.le
    rw [flat, asm_append, asm_append, asm_kept' S a x.f (by omega) g1, asm_added, List.append_assoc] at hT
    rw [flat, bk, List.append_assoc, List.append_assoc (cellsFrom _ _)]
    rw [iv_kept S T m a x.f old (added x.s ++ flat S.length x.t r) _ (news (slice S x.f x.t) ++ bk S (m + (x.f.toNat - a.toNat) + x.s.length) x.t r) h0 h1 g1 (by omega) hT ?_]
    · simp only [List.append_assoc]
    · intro old' h0' h1'
      have hT2 := drop_step (drop_step hT)
      rw [slice_len S a x.f (by omega) g1 (by omega)] at hT2
      rw [iv_added, show ((m + (x.f.toNat - a.toNat) : Nat) : Int) + (x.s.length : Int) = ((m + (x.f.toNat - a.toNat) + x.s.length : Nat) : Int) from by omega, ih _ x.t old' h0' (by omega) h.2.2 hT2, slice_split S old' x.f x.t h0' h1' g2, news_append, List.append_assoc]
theorem Cok.mono {S : List UInt8} {a b : Int} {cs : List Ce} (h : Cok S b cs) (hab : a ≤ b) : Cok S a cs := by
  induction cs with
  | nil => exact True.intro
  | cons c r ih =>
    unfold Cok at h ⊢
    split
    · rename_i ho; rw [if_pos ho] at h; exact ih h
    · rename_i ho; rw [if_neg ho] at h; exact ⟨by omega, h.2⟩
theorem Cok.news {S : List UInt8} {a : Int} {cs : List Ce} (u : List UInt8) (h : Cok S a cs) : Cok S a (news u ++ cs) := by
  induction u with
  | nil => exact h
  | cons b u ih =>
    show Cok S a ((⟨-1, b⟩ : Ce) :: (Sp.news u ++ cs))
    unfold Cok
    rw [if_pos (by show (-1 : Int) < 0; omega)]
    exact ih
theorem Cok.run {S : List UInt8} {cs : List Ce} (m : Nat) (u v : List UInt8) (hu : S.drop m = u ++ v) (h : Cok S ((m + u.length : Nat) : Int) cs) : Cok S (m : Int) (cellsFrom m u ++ cs) := by
  induction u generalizing m with
  | nil => exact h
  | cons b u ih =>
    show Cok S (m : Int) ((⟨(m : Int), b⟩ : Ce) :: (cellsFrom (m + 1) u ++ cs))
    unfold Cok
    rw [if_neg (by show ¬ (m : Int) < 0; omega)]
    have hb : S[m]? = some b := by
      have : (S.drop m)[0]? = some b := by rw [hu]; rfl
      rwa [List.getElem?_drop, Nat.add_zero] at this
    refine ⟨Int.le_refl _, by show S[((m : Nat) : Int).toNat]? = some b; rw [show ((m : Nat) : Int).toNat = m from by omega, hb], ?_⟩
    have hu' : S.drop (m + 1) = u ++ v := by rw [← List.drop_drop, hu]; rfl
    have := ih (m + 1) hu' (by rw [show m + 1 + u.length = m + (b :: u).length from by simp; omega]; exact h)
    exact this
theorem Neg.append {c d : List Ce} (h : Neg c) (k : Neg d) : Neg (c ++ d) := by
  intro x hx
  rcases List.mem_append.1 hx with hx | hx
  · exact h x hx
  · exact k x hx
theorem Neg.news (s : List UInt8) : Neg (news s) := by
  intro x hx _
  obtain ⟨b, _, rfl⟩ := List.mem_map.1 hx
  rfl
theorem Neg.run (m : Nat) (u : List UInt8) : Neg (cellsFrom m u) := by
  induction u generalizing m with
  | nil => intro x hx; cases hx
  | cons b u ih =>
    intro x hx h0
    rcases List.mem_cons.1 hx with rfl | hx
    · exact absurd h0 (by show ¬ (m : Int) < 0; omega)
    · exact ih (m + 1) x hx h0
theorem neg_bk (S : List UInt8) (m : Nat) (a : Int) (es : List Ed) : Neg (bk S m a es) := by
  induction es generalizing m a with
  | nil => exact Neg.run _ _
  | cons x r ih => exact ((Neg.run _ _).append (Neg.news _)).append (ih _ _)
theorem cok_bk (S T : List UInt8) (m : Nat) (a : Int) (es : List Ed) (h0 : 0 ≤ a) (h : Val S.length a es) (hT : T.drop m = asm S (flat S.length a es)) : Cok T (m : Int) (bk S m a es) := by
  induction es generalizing m a with
  | nil =>
    rw [flat, asm_kept' S a S.length h0 h, slice_end] at hT
    have := Cok.run (S := T) (cs := []) m (S.drop a.toNat) [] (by rw [hT, List.append_nil]) True.intro
    rw [List.append_nil] at this
    exact this
  | cons x r ih =>
    have g1 := h.1
    have g2 := h.2.1
    have g3 := h.2.2.le
    rw [flat, asm_append, asm_append, asm_kept' S a x.f (by omega) g1, asm_added, List.append_assoc] at hT
    have hT2 := drop_step (drop_step hT)
    rw [bk, List.append_assoc]
    refine Cok.run m _ _ hT (Cok.news _ ?_)
    rw [slice_len S a x.f (by omega) g1 (by omega)] at hT2 ⊢
    exact (ih _ x.t (by omega) h.2.2 hT2).mono (by omega)
theorem npc_iv (S : List UInt8) (m old N : Int) (P : List Ed) (h : ∀ p ∈ P, 0 ≤ p.t) (hN : m + size P ≤ N) : ∀ q ∈ ivGo S m old P, Npc N q := by
  have hadd : ∀ s : List UInt8, ∀ q ∈ added s, Npc N q := by
    intro s q hq
    unfold added at hq
    split at hq
    · cases hq
    · rw [List.mem_singleton] at hq; subst hq; exact .inl (by show (-1 : Int) < 0; omega)
  induction P generalizing m old with
  | nil => exact hadd _
  | cons p r ih =>
    have hp := h p (by simp)
    have hr := size_nonneg r (fun q hq => h q (by simp [hq]))
    simp only [size] at hN
    have ih' := fun old => ih (m + p.t) old (fun q hq => h q (by simp [hq])) (by omega)
    rw [ivGo]
    split
    · intro q hq
      rcases List.mem_append.1 hq with hq | hq
      · rcases List.mem_append.1 hq with hq | hq
        · exact hadd _ q hq
        · unfold kept at hq
          split at hq
          · cases hq
          · rw [List.mem_singleton] at hq; subst hq
            exact .inr ⟨by show 0 < m + p.t - m; omega, by show m + (m + p.t - m) ≤ N; omega⟩
      · exact ih' _ q hq
    · exact ih' _
theorem kept_t (a f : Int) (h : a ≤ f) : ∀ p ∈ kept a f, 0 ≤ p.t := by
  intro p hp
  unfold kept at hp
  split at hp
  · cases hp
  · rw [List.mem_singleton] at hp; subst hp; show 0 ≤ f - a; omega
theorem added_t (s : List UInt8) : ∀ p ∈ added s, 0 ≤ p.t := by
  intro p hp
  unfold added at hp
  split at hp
  · cases hp
  · rw [List.mem_singleton] at hp; subst hp; show (0 : Int) ≤ s.length; omega
theorem flat_t (n a : Int) (es : List Ed) (h : Val n a es) : ∀ p ∈ flat n a es, 0 ≤ p.t := by
  induction es generalizing a with
  | nil => exact kept_t a n h
  | cons x r ih =>
    intro p hp
    rw [flat] at hp
    rcases List.mem_append.1 hp with hp | hp
    · rcases List.mem_append.1 hp with hp | hp
      · exact kept_t a x.f h.1 p hp
      · exact added_t _ p hp
    · exact ih x.t h.2.2 p hp
theorem asc_kept {n a f old : Int} {R : List Ed} (h0 : 0 ≤ a) (h1 : old ≤ a) (h2 : a ≤ f) (h3 : f ≤ n) (h : ∀ o, o ≤ f → Asc n o R) : Asc n old (kept a f ++ R) := by
  unfold kept
  split
  · exact h old (by omega)
  · rw [List.singleton_append]
    refine ⟨by show 0 ≤ f - a; omega, ?_⟩
    rw [if_pos (by show 0 ≤ a; exact h0)]
    exact ⟨h1, by show a + (f - a) ≤ n; omega, h _ (by show a + (f - a) ≤ f; omega)⟩
theorem asc_added {n old : Int} {s : List UInt8} {R : List Ed} (h : Asc n old R) : Asc n old (added s ++ R) := by
  unfold added
  split
  · exact h
  · rw [List.singleton_append]
    refine ⟨by show (0 : Int) ≤ s.length; omega, ?_⟩
    rw [if_neg (by show ¬ (0 : Int) ≤ -1; omega)]
    exact h
theorem flat_asc (n a old : Int) (es : List Ed) (h0 : 0 ≤ a) (ho : old ≤ a) (h : Val n a es) : Asc n old (flat n a es) := by
  induction es generalizing a old with
  | nil =>
    rw [flat]
    have := asc_kept (n := n) (R := []) h0 ho h (Int.le_refl n) (fun o ho => (by show o ≤ n; exact ho))
    rwa [List.append_nil] at this
  | cons x r ih =>
    have g1 := h.1
    have g2 := h.2.1
    have g3 := h.2.2.le
    rw [flat, List.append_assoc]
    exact asc_kept h0 ho g1 (by omega) (fun o ho => asc_added (ih x.t o (by omega) (by omega) h.2.2))
/-- where the bytes of the source stand in the edited source. -/
def ixGo : Nat → List Ce → List Int → List Int
  | _, [], at_ => at_
  | k, c :: r, at_ => ixGo (k + 1) r (if c.o < 0 then at_ else at_.set c.o.toNat k)
theorem ix_snoc (k : Nat) (l : List Ce) (c : Ce) (at_ : List Int) : ixGo k (l ++ [c]) at_ = (if c.o < 0 then ixGo k l at_ else (ixGo k l at_).set c.o.toNat ((k + l.length : Nat) : Int)) := by
  induction l generalizing k at_ with
  | nil => simp [ixGo]
  | cons d r ih => simp only [List.cons_append, ixGo, ih, List.length_cons]; congr 3; omega
theorem ix_len (k : Nat) (l : List Ce) (at_ : List Int) : (ixGo k l at_).length = at_.length := by
  induction l generalizing k at_ with
  | nil => rfl
  | cons d r ih => rw [ixGo, ih]; split <;> simp
theorem ix_news (k : Nat) (u : List UInt8) (r : List Ce) (at_ : List Int) : ixGo k (news u ++ r) at_ = ixGo (k + u.length) r at_ := by
  induction u generalizing k with
  | nil => rfl
  | cons b u ih =>
    show ixGo k ((⟨-1, b⟩ : Ce) :: (news u ++ r)) at_ = _
    rw [ixGo, if_pos (by show (-1 : Int) < 0; omega), ih]
    congr 1; simp; omega
theorem ix_run (k a : Nat) (u : List UInt8) (r : List Ce) (pre post : List Int) (hp : pre.length = a) :
    ixGo k (cellsFrom a u ++ r) (pre ++ List.replicate u.length (-1) ++ post) = ixGo (k + u.length) r (pre ++ (cellsFrom k u).map (·.o) ++ post) := by
  induction u generalizing k a pre with
  | nil => rfl
  | cons b u ih =>
    show ixGo k ((⟨(a : Int), b⟩ : Ce) :: (cellsFrom (a + 1) u ++ r)) _ = _
    rw [ixGo, if_neg (by show ¬ (a : Int) < 0; omega)]
    have hset : (pre ++ List.replicate (b :: u).length (-1) ++ post).set (a : Int).toNat (k : Int) = (pre ++ [(k : Int)]) ++ List.replicate u.length (-1) ++ post := by
      rw [show (a : Int).toNat = pre.length + 0 from by omega, List.append_assoc, List.set_append_right _ _ (by omega), Nat.add_sub_cancel_left, List.length_cons, List.replicate_succ]
      simp
    show ixGo (k + 1) (cellsFrom (a + 1) u ++ r) ((pre ++ List.replicate (b :: u).length (-1) ++ post).set (a : Int).toNat (k : Int)) = _
    rw [hset, ih (k + 1) (a + 1) (pre ++ [(k : Int)]) (by simp [hp])]
    rw [show k + (b :: u).length = k + 1 + u.length from by simp; omega]
    congr 1
    simp [cellsFrom]
theorem ix_bk (S : List UInt8) (m : Nat) (a : Int) (es : List Ed) (h0 : 0 ≤ a) (h : Val S.length a es) (pre : List Int) (hp : pre.length = a.toNat) :
    ixGo m (splV (cells S) a es) (pre ++ List.replicate (S.length - a.toNat) (-1)) = pre ++ (bk S m a es).map (·.o) := by
  induction es generalizing m a pre with
  | nil =>
    have ha : a ≤ S.length := h
    rw [splV, cells, cellsFrom_drop, Nat.zero_add, bk]
    have := ix_run m a.toNat (S.drop a.toNat) [] pre [] hp
    rw [List.append_nil, List.append_nil, List.append_nil, List.length_drop] at this
    rw [this, ixGo]
  | cons x r ih =>
    have g1 := h.1
    have g2 := h.2.1
    have g3 := h.2.2.le
    rw [splV, cut_cells, List.append_assoc]
    change ixGo m (cellsFrom a.toNat (slice S a x.f) ++ (news x.s ++ splV (cells S) x.t r)) _ = _
    have hl := slice_len S a x.f h0 g1 (by omega)
    have hl2 := slice_len S x.f x.t (by omega) g2 g3
    rw [show S.length - a.toNat = (slice S a x.f).length + ((slice S x.f x.t).length + (S.length - x.t.toNat)) from by rw [hl, hl2]; omega, ← List.replicate_append_replicate, ← List.append_assoc pre, ix_run _ _ _ _ _ _ hp, ix_news, ← List.replicate_append_replicate, ← List.append_assoc (pre ++ _)]
    have hpl : (pre ++ (cellsFrom m (slice S a x.f)).map (fun c : Ce => c.o) ++ List.replicate (slice S x.f x.t).length (-1)).length = x.t.toNat := by
      rw [List.length_append, List.length_append, List.length_map, cellsFrom_len, List.length_replicate, hl, hl2, hp]; omega
    rw [ih (m + (slice S a x.f).length + x.s.length) x.t (by omega) h.2.2 _ hpl, hl, bk]
    have hn : ∀ u : List UInt8, (news u).map (·.o) = List.replicate u.length (-1) := by
      intro u
      induction u with
      | nil => rfl
      | cons b u ih => show (-1 : Int) :: (news u).map (·.o) = _; rw [ih]; rfl
    rw [List.map_append, List.map_append, hn]
    simp only [List.append_assoc]
end Sp
end Go.Proofs.Ytnnicjbceadnbaa
