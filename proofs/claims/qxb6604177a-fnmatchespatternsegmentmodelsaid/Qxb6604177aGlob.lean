/-
  Seat b6604177a: THE PLAIN LAW OF A SEGMENT: a pattern in which * stands for any run of bytes; the greedy way and the table agree with it. No Go in sight.
-/
import Derived.Lib.IndexMore
namespace Go.Proofs.Qxb6604177a
open Go

/-- Does f hold of some end of the list? -/
def anyTail {α : Type} (f : List α → Bool) : List α → Bool
  | [] => f []
  | c :: t => f (c :: t) || anyTail f t

theorem anyTail_iff {α : Type} (f : List α → Bool) (s : List α) : anyTail f s = true ↔ ∃ i, i ≤ s.length ∧ f (s.drop i) = true := by
  induction s with
  | nil =>
    show f [] = true ↔ _
    constructor
    · intro h; exact ⟨0, Nat.le_refl _, h⟩
    · rintro ⟨i, _, h⟩; simpa using h
  | cons c t ih =>
    show (f (c :: t) || anyTail f t) = true ↔ _
    rw [Bool.or_eq_true, ih]
    constructor
    · rintro (h | ⟨i, hi, h⟩)
      · exact ⟨0, Nat.zero_le _, h⟩
      · exact ⟨i + 1, by simpa using hi, h⟩
    · rintro ⟨i, hi, h⟩
      cases i with
      | zero => exact Or.inl h
      | succ i => exact Or.inr ⟨i, by simpa using hi, h⟩

/-- THE PATTERN: * (42) stands for any run of bytes, every other byte for itself. -/
def glob : List UInt8 → List UInt8 → Bool
  | [] => fun s => s.isEmpty
  | p :: ps => fun s => if p == 42 then anyTail (glob ps) s else match s with
    | [] => false
    | c :: t => c == p && glob ps t

theorem glob_nil (s : List UInt8) : glob [] s = s.isEmpty := rfl
theorem glob_star (ps s : List UInt8) : glob (42 :: ps) s = anyTail (glob ps) s := rfl
theorem glob_lit_nil {p : UInt8} (h : p ≠ 42) (ps : List UInt8) : glob (p :: ps) [] = false := by
  have e : (p == 42) = false := by simpa using h
  show (if p == 42 then _ else _) = false
  rw [e]; rfl
theorem glob_lit_cons {p : UInt8} (h : p ≠ 42) (ps : List UInt8) (c : UInt8) (t : List UInt8) : glob (p :: ps) (c :: t) = (c == p && glob ps t) := by
  have e : (p == 42) = false := by simpa using h
  show (if p == 42 then _ else _) = _
  rw [e]; rfl

/-- What stands before is matched, then what stands behind. -/
theorem glob_append (p q s : List UInt8) : glob (p ++ q) s = true ↔ ∃ i, i ≤ s.length ∧ glob p (s.take i) = true ∧ glob q (s.drop i) = true := by
  induction p generalizing s with
  | nil =>
    rw [List.nil_append]
    constructor
    · intro h; exact ⟨0, Nat.zero_le _, rfl, h⟩
    · rintro ⟨i, hi, h1, h2⟩
      rw [glob_nil] at h1
      have : i = 0 ∨ s = [] := by simpa using h1
      rcases this with rfl | rfl
      · simpa using h2
      · simpa using h2
  | cons a p ih =>
    rw [List.cons_append]
    by_cases ha : a = 42
    · subst ha
      rw [glob_star, anyTail_iff]
      constructor
      · rintro ⟨i, hi, h⟩
        obtain ⟨j, hj, h1, h2⟩ := (ih _).1 h
        rw [List.length_drop] at hj
        refine ⟨i + j, by omega, ?_, ?_⟩
        · rw [glob_star, anyTail_iff]
          refine ⟨i, by rw [List.length_take]; omega, ?_⟩
          rw [List.drop_take, show i + j - i = j by omega]
          exact h1
        · rw [← List.drop_drop]; exact h2
      · rintro ⟨k, hk, h1, h2⟩
        rw [glob_star, anyTail_iff] at h1
        obtain ⟨i, hi, h1⟩ := h1
        rw [List.length_take] at hi
        refine ⟨i, by omega, (ih _).2 ⟨k - i, by rw [List.length_drop]; omega, ?_, ?_⟩⟩
        · rw [List.drop_take] at h1; exact h1
        · rw [List.drop_drop, show i + (k - i) = k by omega]; exact h2
    · cases s with
      | nil =>
        rw [glob_lit_nil ha]
        constructor
        · intro h; cases h
        · rintro ⟨i, _, h1, _⟩
          rw [List.take_nil, glob_lit_nil ha] at h1
          cases h1
      | cons c t =>
        rw [glob_lit_cons ha, Bool.and_eq_true, ih]
        constructor
        · rintro ⟨hc, i, hi, h1, h2⟩
          refine ⟨i + 1, by simpa using hi, ?_, h2⟩
          rw [List.take_succ_cons, glob_lit_cons ha, hc, h1]; rfl
        · rintro ⟨i, hi, h1, h2⟩
          cases i with
          | zero => rw [List.take_zero, glob_lit_nil ha] at h1; cases h1
          | succ i =>
            rw [List.take_succ_cons, glob_lit_cons ha, Bool.and_eq_true] at h1
            exact ⟨h1.1, i, by simpa using hi, h1.2, h2⟩

/-- No * in it. -/
def plain (p : List UInt8) : Prop := ∀ c ∈ p, c ≠ 42

theorem glob_plain {p : List UInt8} (h : plain p) (s : List UInt8) : glob p s = (s == p) := by
  induction p generalizing s with
  | nil => cases s <;> rfl
  | cons a p ih =>
    have ha : a ≠ 42 := h a (List.mem_cons_self ..)
    have hp : plain p := fun c hc => h c (List.mem_cons_of_mem _ hc)
    cases s with
    | nil => rw [glob_lit_nil ha]; rfl
    | cons c t => rw [glob_lit_cons ha, ih hp]; rfl

/-- A front without *: it must begin the text. -/
theorem glob_head {h : List UInt8} (hp : plain h) (r s : List UInt8) : glob (h ++ r) s = (Lib.hasPrefix s h && glob r (s.drop h.length)) := by
  rw [Bool.eq_iff_iff, glob_append, Bool.and_eq_true]
  unfold Lib.hasPrefix
  rw [List.isPrefixOf_iff_prefix]
  constructor
  · rintro ⟨i, hi, h1, h2⟩
    rw [glob_plain hp, beq_iff_eq] at h1
    have e : h.length = i := by rw [← h1, List.length_take]; omega
    exact ⟨h1 ▸ List.take_prefix _ _, by rw [e]; exact h2⟩
  · rintro ⟨h1, h2⟩
    refine ⟨h.length, h1.length_le, ?_, h2⟩
    rw [glob_plain hp, beq_iff_eq]
    exact (List.prefix_iff_eq_take.1 h1).symm

/-- The piece behind the last *: it must end the text. -/
theorem glob_last {p : List UInt8} (hp : plain p) (s : List UInt8) : glob (42 :: p) s = Lib.hasSuffix s p := by
  rw [glob_star, Bool.eq_iff_iff, anyTail_iff]
  unfold Lib.hasSuffix
  rw [List.isSuffixOf_iff_suffix]
  constructor
  · rintro ⟨i, _, h⟩
    rw [glob_plain hp, beq_iff_eq] at h
    exact h ▸ List.drop_suffix _ _
  · intro h
    refine ⟨s.length - p.length, by omega, ?_⟩
    rw [glob_plain hp, beq_iff_eq]
    exact (List.suffix_iff_eq_drop.1 h).symm

/-- What a * may take in, it may take in with more before it. -/
theorem glob_star_more (r s : List UInt8) (k : Nat) (h : glob (42 :: r) (s.drop k) = true) : glob (42 :: r) s = true := by
  rw [glob_star, anyTail_iff] at h ⊢
  obtain ⟨i, hi, h⟩ := h
  rw [List.length_drop] at hi
  rw [List.drop_drop] at h
  by_cases hk : k ≤ s.length
  · exact ⟨k + i, by omega, h⟩
  · exact ⟨s.length, Nat.le_refl _, by rw [List.drop_of_length_le (by omega)] at h; rw [List.drop_of_length_le (Nat.le_refl _)]; exact h⟩

/-- THE GREEDY STEP, no place: nothing matches. -/
theorem glob_step_none {p : List UInt8} (hp : plain p) (r s : List UInt8) (h : Lib.index s p = -1) : glob (42 :: (p ++ 42 :: r)) s = false := by
  rcases Lib.index_spec s p with ⟨_, hn⟩ | ⟨i, e, _⟩
  · rw [Bool.eq_false_iff]
    intro hg
    rw [glob_star, anyTail_iff] at hg
    obtain ⟨i, hi, hg⟩ := hg
    rw [glob_head hp, Bool.and_eq_true] at hg
    have := hn i hi
    unfold Lib.occAt at this
    unfold Lib.hasPrefix at hg
    rw [this] at hg
    cases hg.1
  · omega

/-- THE GREEDY STEP: the piece is taken at its earliest place. -/
theorem glob_step {p : List UInt8} (hp : plain p) (r s : List UInt8) (i : Nat) (h : Lib.index s p = i) : glob (42 :: (p ++ 42 :: r)) s = glob (42 :: r) (s.drop (i + p.length)) := by
  rcases Lib.index_spec s p with ⟨e, _⟩ | ⟨i', e, hi, ho, hn⟩
  · omega
  · have ei : i' = i := by omega
    subst ei
    rw [Bool.eq_iff_iff]
    constructor
    · intro hg
      rw [glob_star, anyTail_iff] at hg
      obtain ⟨j, hj, hg⟩ := hg
      rw [glob_head hp, Bool.and_eq_true, List.drop_drop] at hg
      have hij : i' ≤ j := by
        rcases Nat.lt_or_ge j i' with hlt | hge
        · have := hn j hlt
          unfold Lib.occAt at this
          unfold Lib.hasPrefix at hg
          rw [this] at hg
          cases hg.1
        · exact hge
      apply glob_star_more r _ (j - i')
      rw [List.drop_drop, show i' + p.length + (j - i') = j + p.length by omega]
      exact hg.2
    · intro hg
      rw [glob_star, anyTail_iff]
      refine ⟨i', hi, ?_⟩
      rw [glob_head hp, Bool.and_eq_true, List.drop_drop]
      exact ⟨ho, hg⟩

/-- What Cut makes of a pattern at its first *. -/
theorem cut_plain {p : List UInt8} (h : (Lib.cut p [42]).2.2 = false) : plain p ∧ Lib.cut p [42] = (p, [], false) := by
  unfold Lib.cut at h ⊢
  by_cases hi : 0 ≤ Lib.index p [42]
  · rw [if_pos hi] at h; cases h
  · rw [if_neg hi]
    refine ⟨fun c hc e => ?_, rfl⟩
    subst e
    rcases Lib.index_spec p [42] with ⟨_, hn⟩ | ⟨i, e, _⟩
    · obtain ⟨j, hj, e⟩ := List.getElem_of_mem hc
      have := hn j (by omega)
      rw [Lib.occAt_iff_take _ _ _ (by simp; omega)] at this
      rw [beq_eq_false_iff_ne] at this
      apply this
      rw [List.drop_eq_getElem_cons hj, e]
      rfl
    · omega

theorem cut_star {p : List UInt8} (h : (Lib.cut p [42]).2.2 = true) : plain (Lib.cut p [42]).1 ∧ p = (Lib.cut p [42]).1 ++ 42 :: (Lib.cut p [42]).2.1 := by
  unfold Lib.cut at h ⊢
  by_cases hi : 0 ≤ Lib.index p [42]
  · rw [if_pos hi]
    rcases Lib.index_spec p [42] with ⟨e, _⟩ | ⟨i, e, hip, ho, hn⟩
    · omega
    · rw [e, Int.toNat_natCast]
      have hlt : i < p.length := by
        rcases Lib.occAt_room ho with q | q
        · have q' : i + 1 ≤ p.length := by simpa using q
          omega
        · cases q
      have hat : p[i] = 42 := by
        have := Lib.occAt_head (c := 42) (t := []) rfl ho
        exact (List.getElem?_eq_some_iff.1 this).2
      refine ⟨fun c hc q => ?_, ?_⟩
      · subst q
        obtain ⟨j, hj, e⟩ := List.getElem_of_mem hc
        rw [List.length_take] at hj
        have := hn j (by omega)
        rw [Lib.occAt_iff_take _ _ _ (by simp; omega), beq_eq_false_iff_ne] at this
        apply this
        rw [List.getElem_take] at e
        rw [List.drop_eq_getElem_cons (by omega), e]
        rfl
      · show p = p.take i ++ 42 :: p.drop (i + 1)
        have e2 := List.take_append_drop i p
        rw [List.drop_eq_getElem_cons hlt, hat] at e2
        exact e2.symm
  · rw [if_neg hi] at h; cases h

/-! ### The table -/

theorem glob_snoc_star (p s : List UInt8) : glob (p ++ [42]) s = true ↔ ∃ i, i ≤ s.length ∧ glob p (s.take i) = true := by
  rw [glob_append]
  constructor
  · rintro ⟨i, hi, h, _⟩; exact ⟨i, hi, h⟩
  · rintro ⟨i, hi, h⟩
    refine ⟨i, hi, h, ?_⟩
    rw [glob_star, anyTail_iff]
    exact ⟨(s.drop i).length, Nat.le_refl _, by rw [List.drop_of_length_le (Nat.le_refl _)]; rfl⟩

/-- Row of the table: does the text's first i bytes match the pattern? -/
def D (p s : List UInt8) (i : Nat) : Bool := glob p (s.take i)

theorem D_nil_zero (s : List UInt8) : D [] s 0 = true := rfl
theorem D_nil_succ (s : List UInt8) (i : Nat) (h : i < s.length) : D [] s (i + 1) = false := by
  unfold D
  rw [glob_nil]
  cases s with
  | nil => simp at h
  | cons c t => rfl

theorem D_star_zero (p s : List UInt8) : D (p ++ [42]) s 0 = D p s 0 := by
  unfold D
  rw [Bool.eq_iff_iff, glob_snoc_star]
  constructor
  · rintro ⟨i, hi, h⟩; simpa using h
  · intro h; exact ⟨0, Nat.zero_le _, by simpa using h⟩

theorem D_star_succ (p s : List UInt8) (i : Nat) (h : i < s.length) : D (p ++ [42]) s (i + 1) = (D (p ++ [42]) s i || D p s (i + 1)) := by
  unfold D
  rw [Bool.eq_iff_iff, Bool.or_eq_true, glob_snoc_star, glob_snoc_star]
  constructor
  · rintro ⟨j, hj, hg⟩
    rw [List.length_take] at hj
    rw [List.take_take] at hg
    by_cases e : j = i + 1
    · right; rw [Nat.min_eq_left (by omega), e] at hg; exact hg
    · left; exact ⟨j, by rw [List.length_take]; omega, by rw [List.take_take, Nat.min_eq_left (by omega)]; rwa [Nat.min_eq_left (by omega)] at hg⟩
  · rintro (⟨j, hj, hg⟩ | hg)
    · rw [List.length_take] at hj
      rw [List.take_take, Nat.min_eq_left (by omega)] at hg
      exact ⟨j, by rw [List.length_take]; omega, by rw [List.take_take, Nat.min_eq_left (by omega)]; exact hg⟩
    · exact ⟨i + 1, by rw [List.length_take]; omega, by rw [List.take_take, Nat.min_self]; exact hg⟩

theorem glob_snoc_lit {c : UInt8} (hc : c ≠ 42) (p s : List UInt8) : glob (p ++ [c]) s = true ↔ ∃ t, s = t ++ [c] ∧ glob p t = true := by
  have hp : plain [c] := fun x hx => by simp at hx; subst hx; exact hc
  rw [glob_append]
  constructor
  · rintro ⟨i, hi, h1, h2⟩
    rw [glob_plain hp, beq_iff_eq] at h2
    exact ⟨s.take i, by rw [← h2]; exact (List.take_append_drop i s).symm, h1⟩
  · rintro ⟨t, rfl, h⟩
    refine ⟨t.length, by simp, by simpa using h, ?_⟩
    rw [glob_plain hp]
    simp

theorem D_lit_zero {c : UInt8} (hc : c ≠ 42) (p s : List UInt8) : D (p ++ [c]) s 0 = false := by
  unfold D
  rw [Bool.eq_false_iff]
  intro h
  obtain ⟨t, ht, _⟩ := (glob_snoc_lit hc p _).1 h
  have := congrArg List.length ht
  simp at this

theorem D_lit_succ {c : UInt8} (hc : c ≠ 42) (p s : List UInt8) (i : Nat) (h : i < s.length) : D (p ++ [c]) s (i + 1) = (D p s i && s[i] == c) := by
  unfold D
  rw [Bool.eq_iff_iff, glob_snoc_lit hc, Bool.and_eq_true, beq_iff_eq, List.take_succ_eq_append_getElem h]
  constructor
  · rintro ⟨t, ht, hg⟩
    obtain ⟨e1, e2⟩ := List.append_inj' ht rfl
    exact ⟨e1 ▸ hg, by simpa using e2⟩
  · rintro ⟨hg, e⟩
    exact ⟨_, by rw [e], hg⟩

/-! ### Two laws -/

theorem glob_self (p : List UInt8) : glob p p = true := by
  induction p with
  | nil => rfl
  | cons a p ih =>
    by_cases ha : a = 42
    · subst ha
      rw [glob_star, anyTail_iff]
      exact ⟨1, by simp, ih⟩
    · rw [glob_lit_cons ha, ih]; simp

theorem glob_run (a x b : List UInt8) : glob (a ++ 42 :: b) (a ++ (x ++ b)) = true := by
  rw [glob_append]
  refine ⟨a.length, by simp, by simpa using glob_self a, ?_⟩
  rw [List.drop_left, glob_star, anyTail_iff]
  exact ⟨x.length, by simp, by simpa using glob_self b⟩

end Go.Proofs.Qxb6604177a
