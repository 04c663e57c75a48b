/-
  THE PLAIN LAW of seat b6608554a: when a text holds a group. No Go in sight.
-/
import Derived.Lib.Bytealg
namespace Go.Proofs.Qxb6608554a
open Go

/-- Does the text hold a '(' and, behind it, a ')'? -/
def grp : List UInt8 → Bool
  | [] => false
  | b :: t => if b == 40 then t.contains 41 else grp t

/-- Does the text hold the byte? -/
def hasB (l : List UInt8) (c : UInt8) : Bool := l.contains c

theorem has_cons (c b : UInt8) (l : List UInt8) : (b :: l).contains c = (c == b || l.contains c) := List.contains_cons

theorem index_cons (b : UInt8) (l : List UInt8) (c : UInt8) : Lib.indexByte (b :: l) c = if b == c then 0 else if Lib.indexByte l c == -1 then -1 else Lib.indexByte l c + 1 := rfl
theorem grp_cons (b : UInt8) (t : List UInt8) : grp (b :: t) = if b == 40 then t.contains 41 else grp t := rfl

theorem index_has (l : List UInt8) (c : UInt8) : decide (0 ≤ Lib.indexByte l c) = l.contains c := by
  induction l with
  | nil => rfl
  | cons b l ih =>
    rw [has_cons, ← ih, index_cons]
    by_cases h : b = c
    · subst h; simp
    · have h1 : (b == c) = false := by simpa using h
      have h2 : (c == b) = false := by simpa using fun e : c = b => h e.symm
      rw [h1, h2]
      have hg := Lib.indexByte_ge l c
      simp only [Bool.false_eq_true, if_false, Bool.false_or]
      split
      · rename_i e
        have e : Lib.indexByte l c = -1 := by simpa using e
        rw [e]
      · rename_i e
        have e : ¬ Lib.indexByte l c = -1 := by simpa using e
        rw [decide_eq_decide]
        omega

/-- What IndexByte hands back, and what it says of the group. -/
theorem index_grp (l : List UInt8) : (Lib.indexByte l 40 = -1 ∧ grp l = false) ∨ ∃ i : Nat, Lib.indexByte l 40 = i ∧ i < l.length ∧ grp l = decide (0 ≤ Lib.indexByte (l.drop i) 41) := by
  induction l with
  | nil => exact Or.inl ⟨rfl, rfl⟩
  | cons b l ih =>
    rw [index_cons, grp_cons]
    by_cases h : b = 40
    · subst h
      refine Or.inr ⟨0, by simp, by simp, ?_⟩
      rw [List.drop_zero, index_has, has_cons]
      simp
    · have h1 : (b == 40) = false := by simpa using h
      rw [h1]
      simp only [Bool.false_eq_true, if_false]
      rcases ih with ⟨e, g⟩ | ⟨i, e, hi, g⟩
      · rw [e, g]; exact Or.inl ⟨rfl, rfl⟩
      · refine Or.inr ⟨i + 1, ?_, ?_, ?_⟩
        · rw [e]
          have : ((i : Int) == -1) = false := by rw [beq_eq_false_iff_ne]; omega
          rw [this]
          simp
        · simpa using hi
        · rw [g]; rfl

theorem grp_has (l : List UInt8) (h : grp l = true) : l.contains 40 = true ∧ l.contains 41 = true := by
  induction l with
  | nil => cases h
  | cons b l ih =>
    rw [grp_cons] at h
    rw [has_cons, has_cons]
    by_cases e : b = 40
    · subst e
      have h' : l.contains 41 = true := by simpa using h
      rw [h']
      exact ⟨by simp, by simp⟩
    · have h1 : (b == 40) = false := by simpa using e
      rw [h1] at h
      obtain ⟨a, c⟩ := ih (by simpa using h)
      rw [a, c]
      simp

theorem has_append (c : UInt8) (x y : List UInt8) : (x ++ y).contains c = (x.contains c || y.contains c) := by
  rw [Bool.eq_iff_iff]; simp

theorem grp_append (x y : List UInt8) : grp (x ++ y) = (grp x || grp y || (x.contains 40 && y.contains 41)) := by
  induction x with
  | nil => simp [grp]
  | cons b x ih =>
    rw [List.cons_append, grp_cons, grp_cons, has_cons, has_append]
    by_cases e : b = 40
    · subst e
      simp only [beq_self_eq_true, if_true, Bool.true_or, Bool.true_and]
      by_cases hy : grp y = true
      · obtain ⟨_, h2⟩ := grp_has y hy
        rw [h2]; simp
      · have hy : grp y = false := by simpa using hy
        rw [hy, Bool.or_false]
    · have h1 : (b == 40) = false := by simpa using e
      have h2 : ((40 : UInt8) == b) = false := by simpa using fun q : 40 = b => e q.symm
      rw [h1, h2]
      simp only [Bool.false_eq_true, if_false, Bool.false_or]
      rw [ih]

theorem grp_close (x : List UInt8) : grp (x ++ [41]) = x.contains 40 := by
  rw [grp_append]
  by_cases h : grp x = true
  · obtain ⟨h1, _⟩ := grp_has x h
    rw [h, h1]; rfl
  · have h : grp x = false := by simpa using h
    rw [h]
    have : grp [41] = false := by decide
    rw [this]
    have h4 : ([41] : List UInt8).contains 41 = true := by decide
    rw [h4]
    simp

theorem grp_open (y : List UInt8) : grp (40 :: y) = y.contains 41 := by
  rw [grp_cons]
  simp

/-- 'contains' of a text, read from the front to place k. -/
theorem has_take (l : List UInt8) (c : UInt8) (k : Nat) (h : k < l.length) (h0 : (l.take k).contains c = false) (h1 : l[k] ≠ c) : (l.take (k + 1)).contains c = false := by
  rw [List.take_succ_eq_append_getElem h, has_append, h0, has_cons]
  have : (c == l[k]) = false := by simpa using fun q : c = l[k] => h1 q.symm
  rw [this]
  rfl

theorem has_at (l : List UInt8) (c : UInt8) (k : Nat) (h : k < l.length) (h1 : l[k] = c) : l.contains c = true := by
  simp only [List.contains_iff_mem]
  exact h1 ▸ List.getElem_mem h

end Go.Proofs.Qxb6608554a
