/-
  Seat b6604025a: THE PLAIN LAW: where param= first stands in what was written, and what Cut makes of the rest. No Go in sight.
-/
import Derived.Lib.IndexMore
namespace Go.Proofs.Qxb6604025a
open Go

theorem index_before {s sub : List UInt8} {i : Nat} (h : Lib.index s sub = i) : Lib.occAt s sub i = true ∧ ∀ j, j < i → Lib.occAt s sub j = false := by
  rcases Lib.index_spec s sub with ⟨h1, _⟩ | ⟨i', h1, _, h3, h4⟩
  · omega
  · have e : i' = i := by omega
    subst e
    exact ⟨h3, h4⟩

/-- A place that has room in the front part is one of the front part. -/
theorem occ_front (X Y P : List UInt8) (j : Nat) (h : j + P.length ≤ X.length) : Lib.occAt (X ++ Y) P j = Lib.occAt X P j := by
  rw [Lib.occAt_iff_take _ _ _ (by rw [List.length_append]; omega), Lib.occAt_iff_take _ _ _ h]
  rw [List.drop_append_of_le_length (by omega), List.take_append_of_le_length (by rw [List.length_drop]; omega)]

theorem index_front {A P : List UInt8} (Y : List UInt8) (h : Lib.index (A ++ P) P = A.length) : Lib.index (A ++ P ++ Y) P = A.length := by
  obtain ⟨h1, h2⟩ := index_before h
  refine Lib.index_first (by simp only [List.length_append]; omega) ?_ fun j hj => ?_
  · rw [occ_front _ _ _ _ (by rw [List.length_append]; omega)]; exact h1
  · rw [occ_front _ _ _ _ (by rw [List.length_append]; omega)]; exact h2 j hj

theorem index_one (s : List UInt8) (c : UInt8) : Lib.index s [c] = Lib.indexByte s c := by
  induction s with
  | nil => rfl
  | cons b l ih =>
    show (if [c].isPrefixOf (b :: l) then 0 else if Lib.index l [c] == -1 then -1 else Lib.index l [c] + 1) = (if b == c then 0 else if Lib.indexByte l c == -1 then -1 else Lib.indexByte l c + 1)
    rw [ih]
    have e : [c].isPrefixOf (b :: l) = (b == c) := by
      show (c == b && true) = (b == c)
      rw [Bool.and_true, Bool.eq_iff_iff, beq_iff_eq, beq_iff_eq]
      exact ⟨fun h => h.symm, fun h => h.symm⟩
    rw [e]

theorem byte_behind (V : List UInt8) (q : UInt8) (h : Lib.indexByte V q = -1) : Lib.indexByte (V ++ [q]) q = V.length := by
  induction V with
  | nil => show (if q == q then (0 : Int) else _) = 0; rw [beq_self_eq_true]; rfl
  | cons b l ih =>
    have h' : (if b == q then (0 : Int) else if Lib.indexByte l q == -1 then -1 else Lib.indexByte l q + 1) = -1 := h
    have hg := Lib.indexByte_ge l q
    by_cases hb : (b == q) = true
    · rw [hb] at h'; simp at h'
    · have hb : (b == q) = false := by simpa using hb
      rw [hb] at h'
      simp only [Bool.false_eq_true, if_false] at h'
      have e : Lib.indexByte l q = -1 := by
        by_cases e : (Lib.indexByte l q == -1) = true
        · simpa using e
        · have e2 : (Lib.indexByte l q == -1) = false := by simpa using e
          rw [e2] at h'
          simp only [Bool.false_eq_true, if_false] at h'
          omega
      show (if b == q then (0 : Int) else if Lib.indexByte (l ++ [q]) q == -1 then -1 else Lib.indexByte (l ++ [q]) q + 1) = _
      rw [hb, ih e]
      have : ((l.length : Int) == -1) = false := by rw [beq_eq_false_iff_ne]; omega
      rw [this]
      simp

/-- What Cut makes of a value that holds no quote, and the quote behind it. -/
theorem cut_value (V : List UInt8) (q : UInt8) (h : Lib.indexByte V q = -1) : Lib.cut (V ++ [q]) [q] = (V, [], true) := by
  unfold Lib.cut
  rw [index_one, byte_behind V q h, if_pos (by omega)]
  simp

end Go.Proofs.Qxb6604025a
