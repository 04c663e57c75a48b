/-
  Seat b6604177a: THE PLAIN LAW OF A PATH: segments joined by single slashes; ** takes in whole segments; the greedy way with one resume point agrees with it. No Go in sight.
-/
import Derived.Test.Qxb6604177aGlob
namespace Go.Proofs.Qxb6604177a
open Go

/-! ### Segments joined by slashes -/

/-- Every segment is non-empty and holds no slash. -/
def Good (S : List (List UInt8)) : Prop := ∀ x ∈ S, x ≠ [] ∧ ∀ c ∈ x, c ≠ 47

theorem Good.nil : Good [] := fun x hx => by cases hx
theorem Good.head {x : List UInt8} {S : List (List UInt8)} (h : Good (x :: S)) : x ≠ [] ∧ ∀ c ∈ x, c ≠ 47 := h x (List.mem_cons_self ..)
theorem Good.tail {x : List UInt8} {S : List (List UInt8)} (h : Good (x :: S)) : Good S := fun y hy => h y (List.mem_cons_of_mem _ hy)
theorem Good.cons {x : List UInt8} {S : List (List UInt8)} (hx : x ≠ [] ∧ ∀ c ∈ x, c ≠ 47) (h : Good S) : Good (x :: S) := fun y hy => by
  rcases List.mem_cons.1 hy with rfl | hy
  · exact hx
  · exact h y hy

/-- The text of a list of segments. -/
def join : List (List UInt8) → List UInt8
  | [] => []
  | x :: S => match S with
    | [] => x
    | _ :: _ => x ++ 47 :: join S

theorem join_nil : join [] = [] := rfl
theorem join_one (x : List UInt8) : join [x] = x := rfl
theorem join_more (x y : List UInt8) (S : List (List UInt8)) : join (x :: y :: S) = x ++ 47 :: join (y :: S) := rfl

theorem join_eq_nil {S : List (List UInt8)} (h : Good S) : join S = [] ↔ S = [] := by
  cases S with
  | nil => exact ⟨fun _ => rfl, fun _ => rfl⟩
  | cons x S =>
    constructor
    · intro e
      cases S with
      | nil => rw [join_one] at e; exact absurd e h.head.1
      | cons y S => rw [join_more] at e; simp at e
    · intro e; cases e

/-- No c in x: the first c of x ++ c :: r is behind x. -/
theorem cut_at {x : List UInt8} {c : UInt8} (h : ∀ b ∈ x, b ≠ c) (r : List UInt8) : Lib.cut (x ++ c :: r) [c] = (x, r, true) := by
  have e : Lib.index (x ++ c :: r) [c] = x.length := by
    refine Lib.index_first (by simp) ?_ fun j hj => ?_
    · rw [Lib.occAt_iff_take _ _ _ (by simp)]
      simp
    · rw [Lib.occAt_iff_take _ _ _ (by simp; omega), beq_eq_false_iff_ne]
      intro e
      have e2 : (x ++ c :: r)[j]? = some c := by
        have := congrArg (fun l : List UInt8 => l[0]?) e
        simpa using this
      rw [List.getElem?_append_left hj, List.getElem?_eq_getElem hj] at e2
      exact h x[j] (List.getElem_mem hj) (by simpa using e2)
  unfold Lib.cut
  rw [e, if_pos (by omega), Int.toNat_natCast]
  simp

theorem cut_none {x : List UInt8} {c : UInt8} (h : ∀ b ∈ x, b ≠ c) : Lib.cut x [c] = (x, [], false) := by
  have e : Lib.index x [c] = -1 := by
    refine Lib.index_none fun j hj => ?_
    by_cases hlt : j < x.length
    · rw [Lib.occAt_iff_take _ _ _ (by simp; omega), beq_eq_false_iff_ne]
      intro e
      have e2 : x[j]? = some c := by
        have := congrArg (fun l : List UInt8 => l[0]?) e
        simpa using this
      rw [List.getElem?_eq_getElem hlt] at e2
      exact h x[j] (List.getElem_mem hlt) (by simpa using e2)
    · have : x.drop j = [] := List.drop_of_length_le (by omega)
      unfold Lib.occAt
      rw [this]
      rfl
  unfold Lib.cut
  rw [e, if_neg (by omega)]

/-- What Cut makes of the text of a list of segments. -/
theorem cut_join {S : List (List UInt8)} (h : Good S) : Lib.cut (join S) [47] = (S.headD [], join S.tail, decide (1 < S.length)) := by
  cases S with
  | nil => exact cut_none (fun b hb => by cases hb)
  | cons x S =>
    cases S with
    | nil => rw [join_one, cut_none h.head.2]; rfl
    | cons y S =>
      rw [join_more, cut_at h.head.2]
      have : (1 < (x :: y :: S).length) := by simp
      rw [decide_eq_true this]
      rfl

theorem join_inj {P S : List (List UInt8)} (hP : Good P) (hS : Good S) (h : join P = join S) : P = S := by
  induction P generalizing S with
  | nil => exact ((join_eq_nil hS).1 h.symm).symm
  | cons p P ih =>
    cases S with
    | nil => exact absurd ((join_eq_nil hP).1 h) (by simp)
    | cons s S =>
      have e1 := cut_join hP
      have e2 := cut_join hS
      rw [h, e2] at e1
      simp only [Prod.mk.injEq, List.headD_cons, List.tail_cons] at e1
      rw [e1.1, ih hP.tail hS.tail e1.2.1.symm]

/-! ### Canonical texts -/

/-- Empty; or no slash at either end and no two together. -/
def canP (s : List UInt8) : Prop := s = [] ∨ (s[0]? ≠ some 47 ∧ s[s.length - 1]? ≠ some 47 ∧ ∀ j, j + 1 < s.length → ¬ (s[j + 1]? = some 47 ∧ s[j]? = some 47))

theorem can_segs : ∀ (n : Nat) (s : List UInt8), s.length ≤ n → canP s → ∃ S, Good S ∧ join S = s
  | 0, s, hn, _ => ⟨[], Good.nil, by have : s = [] := List.length_eq_zero_iff.1 (by omega); rw [this]; rfl⟩
  | n + 1, s, hn, hc => by
    rcases hc with rfl | ⟨h0, hl, h2⟩
    · exact ⟨[], Good.nil, rfl⟩
    · by_cases hm : ∃ i, i < s.length ∧ s[i]? = some 47
      · obtain ⟨S1, e1⟩ : ∃ x, x = Lib.index s [47] := ⟨_, rfl⟩
        rcases Lib.index_spec s [47] with ⟨e, hn1⟩ | ⟨i, e, hi, ho, hno⟩
        · obtain ⟨i, hi, he⟩ := hm
          have := hn1 i (by omega)
          rw [Lib.occAt_iff_take _ _ _ (by simp; omega), beq_eq_false_iff_ne] at this
          rw [List.getElem?_eq_getElem hi] at he
          have he' : s[i] = 47 := by simpa using he
          exact absurd (by rw [List.drop_eq_getElem_cons hi, he']; rfl) this
        · have hlt : i < s.length := by
            rcases Lib.occAt_room ho with q | q
            · have q' : i + 1 ≤ s.length := by simpa using q
              omega
            · cases q
          have hat : s[i]? = some 47 := Lib.occAt_head (c := 47) (t := []) rfl ho
          have hat' : s[i] = 47 := (List.getElem?_eq_some_iff.1 hat).2
          have es : s = s.take i ++ 47 :: s.drop (i + 1) := by
            have := List.take_append_drop i s
            rw [List.drop_eq_getElem_cons hlt, hat'] at this
            exact this.symm
          have hi0 : i ≠ 0 := fun q => by subst q; exact h0 hat
          have hil : i ≠ s.length - 1 := fun q => by rw [← q] at hl; exact hl hat
          have hfree : ∀ c ∈ s.take i, c ≠ 47 := fun c hc q => by
            subst q
            obtain ⟨j, hj, ej⟩ := List.getElem_of_mem hc
            rw [List.length_take] at hj
            have := hno j (by omega)
            rw [Lib.occAt_iff_take _ _ _ (by simp; omega), beq_eq_false_iff_ne] at this
            apply this
            rw [List.getElem_take] at ej
            rw [List.drop_eq_getElem_cons (by omega), ej]
            rfl
          have hne : s.take i ≠ [] := fun q => by
            have := congrArg List.length q
            rw [List.length_take] at this
            simp only [List.length_nil] at this
            omega
          have hrl : (s.drop (i + 1)).length = s.length - (i + 1) := List.length_drop
          obtain ⟨S, hS, hj⟩ := can_segs n (s.drop (i + 1)) (by omega) (Or.inr ⟨by
              rw [List.getElem?_drop]
              intro q
              exact h2 i (by omega) ⟨q, hat⟩, by
              rw [List.getElem?_drop, hrl, show i + 1 + (s.length - (i + 1) - 1) = s.length - 1 by omega]
              exact hl, fun j hj => by
              rw [List.getElem?_drop, List.getElem?_drop]
              rw [hrl] at hj
              have := h2 (i + 1 + j) (by omega)
              rw [show i + 1 + (j + 1) = i + 1 + j + 1 by omega]
              exact this⟩)
          refine ⟨s.take i :: S, hS.cons ⟨hne, hfree⟩, ?_⟩
          cases S with
          | nil =>
            have := congrArg List.length hj
            rw [join_nil, hrl] at this
            simp only [List.length_nil] at this
            omega
          | cons y S => rw [join_more, hj]; exact es.symm
      · have hfree : ∀ c ∈ s, c ≠ 47 := fun c hc q => by
          subst q
          obtain ⟨j, hj, ej⟩ := List.getElem_of_mem hc
          exact hm ⟨j, hj, by rw [List.getElem?_eq_getElem hj, ej]⟩
        by_cases hs : s = []
        · subst hs; exact ⟨[], Good.nil, rfl⟩
        · exact ⟨[s], Good.nil.cons ⟨hs, hfree⟩, rfl⟩

/-! ### The match over segments -/

/-- ** takes in zero or more whole segments, one or more at the pattern's end; any other segment of the pattern matches one segment as 'glob' says. -/
def mpS : List (List UInt8) → List (List UInt8) → Bool
  | [] => fun S => S.isEmpty
  | p :: P => fun S => if p == [42, 42] then (if P.isEmpty then !S.isEmpty else anyTail (mpS P) S) else match S with
    | [] => false
    | s :: T => glob p s && mpS P T

theorem mpS_nil (S : List (List UInt8)) : mpS [] S = S.isEmpty := rfl
theorem mpS_last (S : List (List UInt8)) : mpS [[42, 42]] S = !S.isEmpty := rfl
theorem mpS_star (p : List UInt8) (P S : List (List UInt8)) : mpS ([42, 42] :: p :: P) S = anyTail (mpS (p :: P)) S := rfl
theorem mpS_lit_nil {p : List UInt8} (h : p ≠ [42, 42]) (P : List (List UInt8)) : mpS (p :: P) [] = false := by
  have e : (p == [42, 42]) = false := by simpa using h
  show (if p == [42, 42] then _ else _) = false
  rw [e]; rfl
theorem mpS_lit_cons {p : List UInt8} (h : p ≠ [42, 42]) (P : List (List UInt8)) (s : List UInt8) (T : List (List UInt8)) : mpS (p :: P) (s :: T) = (glob p s && mpS P T) := by
  have e : (p == [42, 42]) = false := by simpa using h
  show (if p == [42, 42] then _ else _) = _
  rw [e]; rfl

/-- Segments without **: each takes one. -/
theorem mpS_mid {M : List (List UInt8)} (hM : ∀ x ∈ M, x ≠ [42, 42]) (P T : List (List UInt8)) (h : mpS (M ++ P) T = true) : M.length ≤ T.length ∧ mpS P (T.drop M.length) = true := by
  induction M generalizing T with
  | nil => exact ⟨Nat.zero_le _, h⟩
  | cons x M ih =>
    have hx := hM x (List.mem_cons_self ..)
    cases T with
    | nil => rw [List.cons_append, mpS_lit_nil hx] at h; cases h
    | cons t T =>
      rw [List.cons_append, mpS_lit_cons hx, Bool.and_eq_true] at h
      obtain ⟨h1, h2⟩ := ih (fun y hy => hM y (List.mem_cons_of_mem _ hy)) T h.2
      exact ⟨by simpa using h1, h2⟩

/-- The latest ** takes in one segment more, and so on. -/
def res (RP RS : List (List UInt8)) : Bool := match RS with
  | [] => false
  | _ :: T => anyTail (mpS RP) T

/-- What the greedy way has still to answer. -/
def ans (P S RP RS : List (List UInt8)) : Bool := mpS P S || res RP RS

/-- What ties the place to the resume point. -/
def tie (P S RP RS : List (List UInt8)) : Prop := RS = [] ∨ ∃ M, RP = M ++ P ∧ (∀ x ∈ M, x ≠ [42, 42]) ∧ M.length ≤ RS.length ∧ S = RS.drop M.length

theorem tie_here (P S : List (List UInt8)) : tie P S P S := Or.inr ⟨[], rfl, (fun x hx => by cases hx), Nat.zero_le _, rfl⟩

theorem ans_here (P S : List (List UInt8)) : ans P S P S = anyTail (mpS P) S := by
  cases S with
  | nil => show (mpS P [] || false) = mpS P []; rw [Bool.or_false]
  | cons s T => rfl

/-- A resumed match shows what is left matched too. -/
theorem res_left {P S RP RS : List (List UInt8)} (ht : tie P S RP RS) (h : res RP RS = true) : ∃ i, i < S.length ∧ mpS P (S.drop (i + 1)) = true := by
  cases RS with
  | nil => cases h
  | cons r T =>
    rcases ht with e | ⟨M, rfl, hM, hl, hS⟩
    · cases e
    · have h' : anyTail (mpS (M ++ P)) T = true := h
      rw [anyTail_iff] at h'
      obtain ⟨i, hi, h'⟩ := h'
      obtain ⟨h1, h2⟩ := mpS_mid hM P _ h'
      rw [List.length_drop] at h1
      have hSl : S.length = T.length + 1 - M.length := by rw [hS, List.length_drop]; rfl
      refine ⟨i, by omega, ?_⟩
      rw [hS, List.drop_drop, show M.length + (i + 1) = (M.length + i) + 1 by omega, List.drop_succ_cons]
      rw [List.drop_drop] at h2
      rw [Nat.add_comm M.length i]
      exact h2

theorem go_last {S RP RS : List (List UInt8)} (ht : tie [[42, 42]] S RP RS) : ans [[42, 42]] S RP RS = !S.isEmpty := by
  unfold ans
  rw [mpS_last]
  cases S with
  | nil =>
    have : res RP RS = false := by
      rw [Bool.eq_false_iff]
      intro h
      obtain ⟨i, hi, _⟩ := res_left ht h
      simp at hi
    rw [this]; rfl
  | cons s T => rfl

theorem go_star {p : List UInt8} {P S RP RS : List (List UInt8)} (ht : tie ([42, 42] :: p :: P) S RP RS) : ans ([42, 42] :: p :: P) S RP RS = ans (p :: P) S (p :: P) S := by
  rw [ans_here]
  unfold ans
  rw [mpS_star]
  by_cases h : res RP RS = true
  · obtain ⟨i, hi, h1⟩ := res_left ht h
    rw [mpS_star, anyTail_iff] at h1
    obtain ⟨j, hj, h1⟩ := h1
    rw [List.length_drop] at hj
    have : anyTail (mpS (p :: P)) S = true := by
      rw [anyTail_iff]
      exact ⟨i + 1 + j, by omega, by rw [List.drop_drop] at h1; exact h1⟩
    rw [this]; rfl
  · have h : res RP RS = false := by simpa using h
    rw [h, Bool.or_false]

theorem go_end (RP RS : List (List UInt8)) : ans [] [] RP RS = true := rfl

theorem go_one {p s : List UInt8} {P S RP RS : List (List UInt8)} (hp : p ≠ [42, 42]) (hg : glob p s = true) : ans (p :: P) (s :: S) RP RS = ans P S RP RS := by
  unfold ans
  rw [mpS_lit_cons hp, hg, Bool.true_and]

theorem tie_one {p s : List UInt8} {P S RP RS : List (List UInt8)} (hp : p ≠ [42, 42]) (ht : tie (p :: P) (s :: S) RP RS) : tie P S RP RS := by
  rcases ht with e | ⟨M, rfl, hM, hl, hS⟩
  · exact Or.inl e
  · refine Or.inr ⟨M ++ [p], by simp, fun x hx => ?_, ?_, ?_⟩
    · rcases List.mem_append.1 hx with h | h
      · exact hM x h
      · have : x = p := by simpa using h
        rw [this]; exact hp
    · have := congrArg List.length hS
      rw [List.length_drop] at this
      simp only [List.length_cons] at this
      simp only [List.length_append, List.length_cons, List.length_nil]
      omega
    · rw [List.length_append, ← List.drop_drop, ← hS]
      rfl

theorem go_stop {P S RP : List (List UInt8)} (h : mpS P S = false) : ans P S RP [] = false := by
  unfold ans
  rw [h]
  rfl

theorem go_again {P S RP T : List (List UInt8)} {r : List UInt8} (h : mpS P S = false) : ans P S RP (r :: T) = ans RP T RP T := by
  rw [ans_here]
  unfold ans
  rw [h]
  rfl

/-! ### How many rounds -/

/-- How many ** are left. -/
def stars : List (List UInt8) → Nat
  | [] => 0
  | p :: P => (if p == [42, 42] then 1 else 0) + stars P

theorem stars_star (P : List (List UInt8)) : stars ([42, 42] :: P) = stars P + 1 := by
  show (if ([42, 42] : List UInt8) == [42, 42] then 1 else 0) + stars P = _
  rw [beq_self_eq_true]
  simp only [if_true]
  omega
theorem stars_lit {p : List UInt8} (h : p ≠ [42, 42]) (P : List (List UInt8)) : stars (p :: P) = stars P := by
  have e : (p == [42, 42]) = false := by simpa using h
  show (if p == [42, 42] then 1 else 0) + stars P = _
  rw [e]
  simp
theorem stars_mid {M : List (List UInt8)} (hM : ∀ x ∈ M, x ≠ [42, 42]) (P : List (List UInt8)) : stars (M ++ P) = stars P := by
  induction M with
  | nil => rfl
  | cons x M ih => rw [List.cons_append, stars_lit (hM x (List.mem_cons_self ..)), ih (fun y hy => hM y (List.mem_cons_of_mem _ hy))]

def meas (N : Nat) (P RS : List (List UInt8)) : Nat := stars P * ((N + 1) * (N + 1)) + (RS.length * (N + 1) + P.length)

theorem small {N a b : Nat} (ha : a ≤ N) (hb : b ≤ N) : a * (N + 1) + b < (N + 1) * (N + 1) := by
  have h1 : a * (N + 1) ≤ N * (N + 1) := Nat.mul_le_mul_right _ ha
  have h2 : (N + 1) * (N + 1) = N * (N + 1) + (N + 1) := Nat.succ_mul N (N + 1)
  omega

theorem meas_star {N : Nat} {P S RS : List (List UInt8)} (h1 : S.length ≤ N) (h2 : P.length ≤ N) : meas N P S < meas N ([42, 42] :: P) RS := by
  unfold meas
  have := small h1 h2
  have e : stars ([42, 42] :: P) * ((N + 1) * (N + 1)) = stars P * ((N + 1) * (N + 1)) + (N + 1) * (N + 1) := by rw [stars_star, Nat.succ_mul]
  omega

theorem meas_one {N : Nat} {p : List UInt8} {P RS : List (List UInt8)} (hp : p ≠ [42, 42]) : meas N P RS < meas N (p :: P) RS := by
  unfold meas
  rw [stars_lit hp, List.length_cons]
  omega

theorem meas_again {N : Nat} {P S RP T : List (List UInt8)} {r : List UInt8} (ht : tie P S RP (r :: T)) (h2 : RP.length ≤ N) : meas N RP T < meas N P (r :: T) := by
  rcases ht with e | ⟨M, rfl, hM, _, _⟩
  · cases e
  · unfold meas
    rw [stars_mid hM]
    have e : (r :: T).length * (N + 1) = T.length * (N + 1) + (N + 1) := by rw [List.length_cons, Nat.succ_mul]
    omega

/-! ### Two laws -/

theorem mpS_self (P : List (List UInt8)) : mpS P P = true := by
  induction P with
  | nil => rfl
  | cons p P ih =>
    by_cases hp : p = [42, 42]
    · subst hp
      cases P with
      | nil => rfl
      | cons q P =>
        rw [mpS_star, anyTail_iff]
        exact ⟨1, by simp, ih⟩
    · rw [mpS_lit_cons hp, glob_self, ih]; rfl

theorem mpS_plain {P : List (List UInt8)} (h : ∀ p ∈ P, plain p) (S : List (List UInt8)) : mpS P S = (S == P) := by
  induction P generalizing S with
  | nil => cases S <;> rfl
  | cons p P ih =>
    have hp := h p (List.mem_cons_self ..)
    have hne : p ≠ [42, 42] := fun e => hp 42 (by rw [e]; simp) rfl
    cases S with
    | nil => rw [mpS_lit_nil hne]; rfl
    | cons s S => rw [mpS_lit_cons hne, glob_plain hp, ih (fun q hq => h q (List.mem_cons_of_mem _ hq))]; rfl

theorem plain_of_join {P : List (List UInt8)} (h : plain (join P)) : ∀ p ∈ P, plain p := by
  induction P with
  | nil => intro p hp; cases hp
  | cons x P ih =>
    cases P with
    | nil =>
      intro p hp
      rw [join_one] at h
      have e : p = x := by simpa using hp
      rw [e]
      exact h
    | cons y P =>
      rw [join_more] at h
      intro p hp
      rcases List.mem_cons.1 hp with rfl | hp
      · exact fun c hc => h c (List.mem_append_left _ hc)
      · exact ih (fun c hc => h c (List.mem_append_right _ (List.mem_cons_of_mem _ hc))) p hp

theorem mpS_join {P S : List (List UInt8)} (hP : Good P) (hS : Good S) (h : plain (join P)) : mpS P S = (join S == join P) := by
  rw [mpS_plain (plain_of_join h), Bool.eq_iff_iff, beq_iff_eq, beq_iff_eq]
  exact ⟨fun e => by rw [e], fun e => join_inj hS hP e⟩

end Go.Proofs.Qxb6604177a
