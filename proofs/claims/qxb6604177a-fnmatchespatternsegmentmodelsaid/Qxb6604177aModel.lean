/-
  Seat b6604177a: b1PatternModel (the table over segments) computes 'mpS'.
-/
import Derived.Test.Qxb6604177aTable
import Derived.Test.Qxb6604177aPath
import Derived.Test.Qxb6604177aSplit
namespace Go.Proofs.Qxb6604177a
open Go.RowKit
set_option linter.unusedVariables false

/-! ### The rows, plainly -/

/-- The row of the table for what is left of the pattern. -/
def R (P S : List (List UInt8)) (k i : Nat) : Bool := mpS (P.drop k) (S.drop i)

theorem R_end (P S : List (List UInt8)) (i : Nat) (h : i ≤ S.length) : decide (i = S.length) = R P S P.length i := by
  unfold R
  rw [List.drop_of_length_le (Nat.le_refl P.length), mpS_nil, Bool.eq_iff_iff, decide_eq_true_iff, List.isEmpty_iff, List.drop_eq_nil_iff]
  omega

theorem drop_at (P : List (List UInt8)) (k : Nat) (h : k < P.length) : P.drop k = P.getD k [] :: P.drop (k + 1) := by
  rw [List.drop_eq_getElem_cons h, List.getD_eq_getElem?_getD, List.getElem?_eq_getElem h]; rfl

theorem R_last (P S : List (List UInt8)) (k i : Nat) (hk : k + 1 = P.length) (hp : P.getD k [] = [42, 42]) (h : i ≤ S.length) : R P S k i = decide (i < S.length) := by
  unfold R
  rw [drop_at P k (by omega), hp, List.drop_of_length_le (by omega), mpS_last, Bool.eq_iff_iff, decide_eq_true_iff, Bool.not_eq_true', Bool.eq_false_iff, Ne, List.isEmpty_iff, List.drop_eq_nil_iff]
  omega

theorem R_star_end (P S : List (List UInt8)) (k : Nat) (hk : k + 1 < P.length) (hp : P.getD k [] = [42, 42]) : R P S k S.length = R P S (k + 1) S.length := by
  unfold R
  rw [drop_at P k (by omega), hp, drop_at P (k + 1) hk, mpS_star, List.drop_of_length_le (Nat.le_refl _)]
  rfl

theorem R_star (P S : List (List UInt8)) (k i : Nat) (hk : k + 1 < P.length) (hp : P.getD k [] = [42, 42]) (h : i < S.length) : R P S k i = (R P S (k + 1) i || R P S k (i + 1)) := by
  unfold R
  rw [drop_at P k (by omega), hp, drop_at P (k + 1) hk, mpS_star, mpS_star, List.drop_eq_getElem_cons h]
  rfl

theorem R_lit_end (P S : List (List UInt8)) (k : Nat) (hk : k < P.length) (hp : P.getD k [] ≠ [42, 42]) : R P S k S.length = false := by
  unfold R
  rw [drop_at P k hk, List.drop_of_length_le (Nat.le_refl _), mpS_lit_nil hp]

theorem R_lit (P S : List (List UInt8)) (k i : Nat) (hk : k < P.length) (hp : P.getD k [] ≠ [42, 42]) (h : i < S.length) : R P S k i = (R P S (k + 1) (i + 1) && glob (P.getD k []) (S.getD i [])) := by
  unfold R
  rw [drop_at P k hk, drop_at S i h, mpS_lit_cons hp, Bool.and_comm]

theorem seg_le {S : List (List UInt8)} (i : Nat) : (S.getD i []).length ≤ (join S).length := by
  induction S generalizing i with
  | nil => exact Nat.zero_le _
  | cons x S ih =>
    have h1 : x.length ≤ (join (x :: S)).length := by
      cases S with
      | nil => exact Nat.le_refl _
      | cons y S => rw [join_more, List.length_append]; omega
    cases i with
    | zero => exact h1
    | succ i =>
      have := ih i
      have h2 := join_tail_le (x :: S)
      exact Nat.le_trans this h2

theorem segs_le {S : List (List UInt8)} (h : Good S) : S.length ≤ (join S).length := by
  induction S with
  | nil => exact Nat.le_refl _
  | cons x S ih =>
    have hx : 0 < x.length := List.length_pos_iff.2 h.head.1
    cases S with
    | nil => rw [join_one]; exact hx
    | cons y S =>
      have := ih h.tail
      rw [join_more]
      simp only [List.length_append, List.length_cons] at this ⊢
      omega

/-! ### The rows in memory -/

section
variable {w wr : World} {n gc gn : Nat} {F F' f g : Nat → Bool}

theorem Rows2.congrN (h : Rows2 w wr n gc gn F f) (e : ∀ i, i ≤ n → f i = g i) : Rows2 w wr n gc gn F g :=
  ⟨h.ne, h.lc, h.ln, h.cur, h.next.congr fun i hi => by rw [e i (by omega)], h.below⟩

theorem Rows2.put (h : Rows2 w wr n gc gn F f) (i : Nat) (b : Bool) : Rows2 w (wr.setCell ⟨gn, i, none⟩ (.bool b)) n gc gn F (fun j => if j = i then b else f j) :=
  ⟨h.ne, h.lc, h.ln, h.cur.setOther h.ne _, (h.next.set i _).congr fun j _ => by by_cases e : j = i <;> simp [e], h.below.setCell h.ln _⟩

theorem Rows2.drewN (h : Rows2 w wr n gc gn F f) (q : Nat) : Rows2 w (wr.drewN q) n gc gn F f := ⟨h.ne, h.lc, h.ln, h.cur, h.next, h.below.trans (below_draws _ _ _)⟩

/-- The cells from c on as F, the others as f. -/
def mixD (F f : Nat → Bool) (c : Nat) : Nat → Bool := fun j => if c ≤ j then F j else f j

theorem Rows2.startD (h : Rows2 w wr n gc gn F f) : Rows2 w wr n gc gn F (mixD F' f (n + 1)) := h.congrN fun i hi => by simp only [mixD]; rw [if_neg (by omega)]
theorem Rows2.stepD {c : Nat} (h : Rows2 w wr n gc gn F (mixD F' f (c + 1))) : Rows2 w (wr.setCell ⟨gn, c, none⟩ (.bool (F' c))) n gc gn F (mixD F' f c) :=
  (h.put c (F' c)).congrN fun i hi => by
    simp only [mixD]
    by_cases e : i = c
    · subst e; simp
    · rw [if_neg e]
      by_cases hlt : c ≤ i
      · rw [if_pos (by omega), if_pos hlt]
      · rw [if_neg (by omega), if_neg hlt]
theorem Rows2.doneD (h : Rows2 w wr n gc gn F (mixD F' f 0)) : Rows2 w wr n gc gn F F' := h.congrN fun i _ => by simp [mixD]
end

theorem made_at (n i : Nat) (hi : i < n + 1) : ((madeCells #[Value.bool false] (n + 1)).setIfInBounds n (.bool true))[i]? = some (.bool (decide (i = n))) := by
  rw [Array.getElem?_setIfInBounds]
  by_cases e : i = n
  · subst e; simp [size_madeCells]
  · rw [if_neg (fun h => e h.symm)]
    simp [madeCells, hi, Nat.mod_one, e]

theorem rows2_startN (w : World) (n : Nat) : Rows2 w ((w.alloc (.cells ((madeCells #[Value.bool false] (n + 1)).setIfInBounds n (.bool true)) 4)).alloc (.cells (madeCells #[Value.bool false] (n + 1)) 4)) n w.heap.size (w.heap.size + 1) (fun i => decide (i = n)) (fun _ => false) := by
  have hsz : ((madeCells #[Value.bool false] (n + 1)).setIfInBounds n (.bool true)).size = n + 1 := by rw [Array.size_setIfInBounds, size_madeCells]
  have h1 := World.rowIs_alloc w ((madeCells #[Value.bool false] (n + 1)).setIfInBounds n (.bool true)) 4 (fun i => .bool (decide (i = n))) (fun i hi => made_at n i (by rw [hsz] at hi; exact hi))
  rw [hsz] at h1
  have h2 := World.rowIs_made (w.alloc (.cells ((madeCells #[Value.bool false] (n + 1)).setIfInBounds n (.bool true)) 4)) (.bool false) (n + 1) 4
  refine ⟨by omega, Nat.le_refl _, by omega, h1.alloc _, ?_, ((Below.refl _ _).alloc (Nat.le_refl _) _).alloc (by simp) _⟩
  have e : (w.alloc (.cells ((madeCells #[Value.bool false] (n + 1)).setIfInBounds n (.bool true)) 4)).heap.size = w.heap.size + 1 := by simp
  rw [e] at h2
  exact h2

/-- What has been met so far from the right. -/
def accD (n : Nat) (F : Nat → Bool) (c : Nat) : Bool := if c = n + 1 then false else F c

set_option maxRecDepth 100000 in
set_option maxHeartbeats 4000000 in
/-- THE TABLE's LOOPS, behind the two splits: the world W in which they begin. -/
theorem pattern_any (path pattern : ByteArray) (P S : List (List UInt8)) (hP : Good P) (hS : Good S) (eP : pattern.data.toList = join P) (eS : path.data.toList = join S) (m : Int) (w : World) (h0 : path.size ≤ 4096) (h1 : pattern.size ≤ 4096)
    (hm : w.cell? ⟨0, 0, none⟩ = some (.int .i64 m)) :
    Calls Try.prog 24 #[.string path, .string pattern] w fun e w' => e = .returned (.bool (mpS P S)) ∧ Below w.heap.size w w' := by
  have HZ1 : Hid (∀ w, Calls Try.prog 31 #[.string path] w fun e w' => SplitEnds S w e w') := fun w => split_any path S hS eS h0 w
  have HZ2 : Hid (∀ w, Calls Try.prog 31 #[.string pattern] w fun e w' => SplitEnds P w e w') := fun w => split_any pattern P hP eP h1 w
  have HLS : Hid (∀ i, (S.getD i []).length ≤ 4096) := fun i => by have := seg_le (S := S) i; rw [← eS, ← Lib.size_eq] at this; omega
  have HLP : Hid (∀ i, (P.getD i []).length ≤ 4096) := fun i => by have := seg_le (S := P) i; rw [← eP, ← Lib.size_eq] at this; omega
  have hnS : S.length ≤ 4096 := by have := segs_le hS; rw [← eS, ← Lib.size_eq] at this; omega
  have hnP : P.length ≤ 4096 := by have := segs_le hP; rw [← eP, ← Lib.size_eq] at this; omega
  have HM : Hid (w.cell? ⟨0, 0, none⟩ = some (.int .i64 m)) := hm
  have hw0 : 0 < w.heap.size := World.block_lt_of_cell? _ _ hm
  obtain ⟨G, hG⟩ : ∃ G, G = mpS P S := ⟨_, rfl⟩
  have HG : Hid (R P S 0 0 = G) := hG.symm
  rw [← hG]
  obtain ⟨np, hnp⟩ : ∃ n, n = S.length := ⟨_, rfl⟩
  obtain ⟨nq, hnq⟩ : ∃ n, n = P.length := ⟨_, rfl⟩
  rw [← hnp] at hnS
  rw [← hnq] at hnP
  have hmk : ∀ w : World, (Instr.makeSlice 34 (.int .i64 ((np : Int) + 1)) (.int .i64 ((np : Int) + 1))).run Try.prog w = .ok (.slice (some ⟨w.heap.size, 0, none⟩) (np + 1) (np + 1)) (w.alloc (.cells (madeCells #[.bool false] (np + 1)) 4)) := fun w => by
    have h := run_make_row' (P := Try.prog) 34 4 (.bool false) 1 Try.underlying34 info4 rfl .i64 .i64 (np + 1) (by omega) (by omega) w
    rwa [show ((np + 1 : Nat) : Int) = (np : Int) + 1 by omega] at h
  have HNP : Hid (np = S.length) := hnp
  have HNQ : Hid (nq = P.length) := hnq
  clear hG hm hP hS eP eS h0 h1 hnp hnq
  go_enter Try.func24, Try.ntmps24
  go_wp2_with fail
  refine (HZ1.out _).mono ?_
  rintro e w1 ⟨aS, cS, rfl, hI1, hb1⟩
  rw [← HNP.out] at hI1 ⊢
  go_wp2_with fail
  refine (HZ2.out _).mono ?_
  rintro e W ⟨aP, cP, rfl, hIP, hb2⟩
  rw [← HNQ.out] at hIP ⊢
  have hIS := hI1.below hb2
  have hBW : Below w.heap.size w W := hb1.trans (hb2.mono hb1.size)
  have HMW : Hid (W.cell? ⟨0, 0, none⟩ = some (.int .i64 m)) := (hBW.cell (p := ⟨0, 0, none⟩) hw0).trans HM.out
  have hW0 : 0 < W.heap.size := Nat.lt_of_lt_of_le hw0 hBW.size
  clear hI1 hb1 hb2 HM HZ1 HZ2
  have hm1 := ((World.rowIs_made W (.bool false) (np + 1) 4).alloc (.cells (madeCells #[.bool false] (np + 1)) 4)).cell (i := np) (by omega)
  have hm2 := ((World.rowIs_made W (.bool false) (np + 1) 4).alloc (.cells (madeCells #[.bool false] (np + 1)) 4)).frozen np
  have hz : (np : Int) < (np : Int) + 1 := by omega
  go_wp2_with fail
  clear hmk hm1 hm2 hz
  go_loopw [9, 10, 11] (fun vc vn vj wr => ∃ (k gc gn : Nat) (z : Int) (F f : Nat → Bool), k ≤ nq ∧ vj = .int .i64 z ∧ Hid (z + 1 = (k : Int)) ∧ vc = .slice (some ⟨gc, 0, none⟩) (np + 1) (np + 1) ∧ vn = .slice (some ⟨gn, 0, none⟩) (np + 1) (np + 1) ∧ Rows2 W wr np gc gn F f ∧ Hid (∀ i, i ≤ np → F i = R P S k i)) (fun _ _ vj _ => (intOf vj + 1).toNat)
  case atStart => exact ⟨nq, _, _, _, _, _, Nat.le_refl _, rfl, by show _ = _; omega, rfl, rfl, rows2_startN W np, fun i hi => by rw [HNP.out] at hi ⊢; rw [HNQ.out]; exact R_end P S i hi⟩
  case round =>
    obtain ⟨k, gc, gn, z, F, f, hk, rfl, HK, rfl, rfl, hR, HF⟩ := hrel
    cases k with
    | zero =>
      obtain rfl : z = -1 := by have := HK.out; omega
      have g0 : wr.cell? ⟨gc, 0, none⟩ = some (.bool (F 0)) := hR.cur.cell (by omega)
      have HR : Hid (F 0 = G) := (HF.out 0 (Nat.zero_le _)).trans HG.out
      have hz0 : (0 : Int) < (np : Int) + 1 := by omega
      have HB : Hid (Below w.heap.size w wr) := hBW.trans (hR.below.mono hBW.size)
      clear hR HF HK
      go_wp2_with fail
      go_ret
      rw [← HR.out]
      exact ⟨rfl, HB.out⟩
    | succ k =>
      obtain rfl : z = (k : Int) := by have := HK.out; omega
      obtain ⟨gp, rfl, hgp, hcp⟩ := hIP.cells (by omega)
      obtain ⟨pb, hpb⟩ : ∃ pb, pb = strB (P.getD k []) := ⟨_, rfl⟩
      have gP : wr.cell? ⟨gp, k, none⟩ = some (.string pb) := by rw [hpb]; exact (hR.below.cell (p := ⟨gp, k, none⟩) hgp).trans (hcp k (by omega))
      have HPB : Hid (pb.data.toList = P.getD k []) := by show _ = _; rw [hpb]; rfl
      have hzk : (k : Int) < (nq : Int) := by omega
      have hkP : Hid (k < P.length) := by show _ < _; rw [← HNQ.out]; omega
      obtain ⟨F', hF'⟩ : ∃ F' : Nat → Bool, F' = R P S k := ⟨_, rfl⟩
      have HF' : Hid (∀ i, i ≤ np → F' i = R P S k i) := fun i _ => by rw [hF']
      clear hpb HK hF'
      by_cases hp : P.getD k [] = [42, 42]
      · have e1 : (pb.toList == [42, 42]) = true := by rw [Lib.toList_data, HPB.out, hp]; rfl
        by_cases hlast : k + 1 = nq
        · have e2 : ((k : Int) == (nq : Int) - 1) = true := by simp only [beq_iff_eq]; omega
          have HA : Hid (∀ i, i ≤ np → F' i = decide (i < np)) := fun i hi => by
            rw [HF'.out i hi, HNP.out]
            exact R_last P S k i (by rw [hlast, HNQ.out]) hp (by rw [← HNP.out]; exact hi)
          clear hp HF HPB
          go_wp2_with fail
          clear e1 e2
          go_loopw [13] (fun vi wr => ∃ i : Nat, i ≤ np + 1 ∧ vi = .int .i64 i ∧ Rows2 W wr np gc gn F (mix F' f i)) (fun vi _ => np + 1 - (intOf vi).toNat)
          case atStart => exact ⟨0, Nat.zero_le _, rfl, hR.start0⟩
          case round =>
            clear hR gP
            obtain ⟨i, hi, rfl, hR⟩ := hrel
            by_cases hin : i ≤ np
            · have hz : (i : Int) < (np : Int) + 1 := by omega
              have g1 : wr.cell? ⟨gn, i, none⟩ = some (.bool (mix F' f i i)) := hR.next.cell (by omega)
              have g2 : wr.frozen? ⟨gn, i, none⟩ = false := hR.next.frozen i
              have RR : Hid (Rows2 W (wr.setCell ⟨gn, i, none⟩ (.bool (F' i))) np gc gn F (mix F' f (i + 1))) := hR.step
              obtain ⟨old, hold⟩ : ∃ old, old = mix F' f i i := ⟨_, rfl⟩
              rw [← hold] at g1
              have hA := HA.out i hin
              by_cases hc : i < np
              · rw [hA, decide_eq_true hc] at RR
                clear hR hold hA HA
                go_wp2_with fail
                go_roundw
                case rel => exact ⟨i + 1, by omega, by go_num, RR.out⟩
                case measure => simp [intOf]; omega
              · rw [hA, decide_eq_false hc] at RR
                clear hR hold hA HA
                go_wp2_with fail
                go_roundw
                case rel => exact ⟨i + 1, by omega, by go_num, RR.out⟩
                case measure => simp [intOf]; omega
            · have hi2 : i = np + 1 := by omega
              subst hi2
              have RR : Hid (Rows2 W wr np gn gc F' F) := hR.done.swap
              clear hR HA
              go_wp2_with fail
              go_roundw
              case rel => exact ⟨k, gn, gc, (k : Int) - 1, F', F, by omega, rfl, by show _ = _; omega, rfl, rfl, RR.out, HF'⟩
              case measure => simp [intOf]
        · have e2 : ((k : Int) == (nq : Int) - 1) = false := by rw [beq_eq_false_iff_ne]; omega
          have HA : Hid (∀ c, c ≤ np → F' c = (accD np F' (c + 1) || F c)) := fun c hc => by
            rw [HF'.out c hc, HF.out c hc]
            unfold accD
            by_cases hcn : c = np
            · rw [if_pos (by omega), Bool.false_or, hcn, HNP.out]
              exact R_star_end P S k (by rw [← HNQ.out]; omega) hp
            · rw [if_neg (by omega), HF'.out (c + 1) (by omega), R_star P S k c (by rw [← HNQ.out]; omega) hp (by rw [← HNP.out]; omega), Bool.or_comm]
          clear hp HF HPB
          go_wp2_with fail
          clear e1 e2
          go_loopw [14, 15] (fun va vi wr => ∃ (c : Nat) (z : Int), c ≤ np + 1 ∧ vi = .int .i64 z ∧ Hid (z + 1 = (c : Int)) ∧ va = .bool (accD np F' c) ∧ Rows2 W wr np gc gn F (mixD F' f c)) (fun _ vi _ => (intOf vi + 1).toNat)
          case atStart => exact ⟨np + 1, _, Nat.le_refl _, rfl, by show _ = _; omega, by unfold accD; rw [if_pos rfl], hR.startD⟩
          case round =>
            clear hR gP
            obtain ⟨c, z, hc, rfl, HZ, rfl, hR⟩ := hrel
            cases c with
            | zero =>
              obtain rfl : z = -1 := by have := HZ.out; omega
              obtain ⟨b, hb⟩ : ∃ b, b = accD np F' 0 := ⟨_, rfl⟩
              rw [← hb]
              have RR : Hid (Rows2 W wr np gn gc F' F) := hR.doneD.swap
              clear hR HA hb HZ
              go_wp2_with fail
              go_roundw
              case rel => exact ⟨k, gn, gc, (k : Int) - 1, F', F, by omega, rfl, by show _ = _; omega, rfl, rfl, RR.out, HF'⟩
              case measure => simp [intOf]
            | succ c =>
              obtain rfl : z = (c : Int) := by have := HZ.out; omega
              obtain ⟨b, hb⟩ : ∃ b, b = accD np F' (c + 1) := ⟨_, rfl⟩
              rw [← hb]
              have hz : (c : Int) < (np : Int) + 1 := by omega
              have hA := HA.out c (by omega)
              have g0 : wr.cell? ⟨gc, c, none⟩ = some (.bool (F c)) := hR.cur.cell (by omega)
              have g1 : wr.cell? ⟨gn, c, none⟩ = some (.bool (mixD F' f (c + 1) c)) := hR.next.cell (by omega)
              have g2 : wr.frozen? ⟨gn, c, none⟩ = false := hR.next.frozen c
              have RR : Hid (Rows2 W (wr.setCell ⟨gn, c, none⟩ (.bool (F' c))) np gc gn F (mixD F' f c)) := hR.stepD
              have hac : accD np F' c = F' c := by unfold accD; rw [if_neg (by omega)]
              obtain ⟨old, hold⟩ : ∃ old, old = mixD F' f (c + 1) c := ⟨_, rfl⟩
              rw [← hold] at g1
              by_cases hFc : F c = true
              · have e1 : F' c = true := by rw [hA, hFc, Bool.or_true]
                have HN : Hid (true = accD np F' c) := by show _ = _; rw [hac, e1]
                rw [e1] at RR
                rw [hFc] at g0
                clear hR hA e1 hFc hb hold HA HZ hac
                go_wp2_with fail
                go_roundw
                case rel => exact ⟨c, (c : Int) - 1, by omega, rfl, by show _ = _; omega, by rw [← HN.out], RR.out⟩
                case measure => simp [intOf]
              · have hFc : F c = false := by simpa using hFc
                have e1 : F' c = b := by rw [hA, hFc, Bool.or_false, hb]
                have HN : Hid (b = accD np F' c) := by show _ = _; rw [hac, e1]
                rw [e1] at RR
                rw [hFc] at g0
                clear hR hA e1 hFc hb hold HA HZ hac
                go_wp2_with fail
                go_roundw
                case rel => exact ⟨c, (c : Int) - 1, by omega, rfl, by show _ = _; omega, by rw [← HN.out], RR.out⟩
                case measure => simp [intOf]
      · have e1 : (pb.toList == [42, 42]) = false := by rw [Lib.toList_data, HPB.out]; simpa using hp
        have hzp : (pb.size : Nat) ≤ 4194304 := by have := HLP.out k; rw [← HPB.out, ← Lib.size_eq] at this; omega
        have HA : Hid (∀ i, i < np → F' i = (F (i + 1) && glob (P.getD k []) (S.getD i []))) := fun i hi => by
          rw [HF'.out i (by omega), HF.out (i + 1) (by omega)]
          exact R_lit P S k i hkP.out hp (by rw [← HNP.out]; exact hi)
        have HA0 : Hid (F' np = false) := by
          show _ = _
          rw [HF'.out np (Nat.le_refl _), HNP.out]
          exact R_lit_end P S k hkP.out hp
        have g1 : wr.cell? ⟨gn, np, none⟩ = some (.bool (f np)) := hR.next.cell (by omega)
        have g2 : wr.frozen? ⟨gn, np, none⟩ = false := hR.next.frozen np
        obtain ⟨f1, hf1⟩ : ∃ f1 : Nat → Bool, f1 = fun j => if j = np then false else f j := ⟨_, rfl⟩
        have R1 : Hid (Rows2 W (wr.setCell ⟨gn, np, none⟩ (.bool false)) np gc gn F f1) := by show Rows2 _ _ _ _ _ _ _; rw [hf1]; exact hR.put np false
        have HF1 : Hid (f1 np = F' np) := by show _ = _; rw [HA0.out, hf1]; simp
        have hzn : (np : Int) < (np : Int) + 1 := by omega
        clear hp HF hf1 HA0 hR
        go_wp2_with fail
        clear e1 g1 g2 hzn gP
        go_loopw [16] (fun vi wr => ∃ i : Nat, i ≤ np ∧ vi = .int .i64 i ∧ Rows2 W wr np gc gn F (mix F' f1 i)) (fun vi _ => np - (intOf vi).toNat)
        case atStart => exact ⟨0, Nat.zero_le _, rfl, R1.out.start0⟩
        case round =>
          clear R1
          obtain ⟨i, hi, rfl, hR⟩ := hrel
          by_cases hin : i < np
          · have hz1 : (i : Int) < (np : Int) + 1 := by omega
            have hz2 : (i : Int) + 1 < (np : Int) + 1 := by omega
            have hz3 : (i : Int) < (np : Int) := by omega
            have hA := HA.out i hin
            have g0 : wr.cell? ⟨gc, i + 1, none⟩ = some (.bool (F (i + 1))) := hR.cur.cell (by omega)
            have g1 : wr.cell? ⟨gn, i, none⟩ = some (.bool (mix F' f1 i i)) := hR.next.cell (by omega)
            have g2 : wr.frozen? ⟨gn, i, none⟩ = false := hR.next.frozen i
            have RR : Hid (∀ q, Rows2 W ((wr.drewN q).setCell ⟨gn, i, none⟩ (.bool (F' i))) np gc gn F (mix F' f1 (i + 1))) := fun q => (hR.drewN q).step
            obtain ⟨old, hold⟩ : ∃ old, old = mix F' f1 i i := ⟨_, rfl⟩
            rw [← hold] at g1
            by_cases hFi : F (i + 1) = true
            · obtain ⟨gs, rfl, hgs, hcs⟩ := hIS.cells (by omega)
              obtain ⟨sb, hsb⟩ : ∃ sb, sb = strB (S.getD i []) := ⟨_, rfl⟩
              have gS : wr.cell? ⟨gs, i, none⟩ = some (.string sb) := by rw [hsb]; exact (hR.below.cell (p := ⟨gs, i, none⟩) hgs).trans (hcs i hin)
              have hzs : sb.size ≤ 4194304 := by
                have := HLS.out i
                have e : sb.size = (S.getD i []).length := by rw [Lib.size_eq, hsb]; rfl
                omega
              have HS : Hid (∀ _ : Unit, Calls Try.prog 18 #[.string sb, .string pb] wr fun e w' => e = .returned (.bool (F' i)) ∧ ∃ q, w' = wr.drewN q) := fun _ => by
                have e : F' i = glob pb.data.toList sb.data.toList := by rw [hA, hFi, Bool.true_and, HPB.out, hsb]; rfl
                rw [e]
                exact zzSegment_any sb pb m wr hzs hzp ((hR.below.cell (p := ⟨0, 0, none⟩) hW0).trans HMW.out)
              obtain ⟨b, hb⟩ : ∃ b, b = F' i := ⟨_, rfl⟩
              rw [← hb] at RR HS
              rw [hFi] at g0
              clear hR hA hFi hold HA hsb hcs hb
              go_wp2_with (go_at_call 18; refine (HS.out ()).mono ?_; rintro e w' ⟨rfl, q, rfl⟩)
              go_roundw
              case rel => exact ⟨i + 1, by omega, by go_num, RR.out q⟩
              case measure => simp [intOf]; omega
            · have hFi : F (i + 1) = false := by simpa using hFi
              have e1 : F' i = false := by rw [hA, hFi]; rfl
              have RR0 : Hid (Rows2 W (wr.setCell ⟨gn, i, none⟩ (.bool false)) np gc gn F (mix F' f1 (i + 1))) := by have := RR.out 0; rw [e1] at this; exact this
              rw [hFi] at g0
              clear hR hA e1 hFi hold HA RR
              go_wp2_with fail
              go_roundw
              case rel => exact ⟨i + 1, by omega, by go_num, RR0.out⟩
              case measure => simp [intOf]; omega
          · have hi2 : i = np := by omega
            subst hi2
            have RR : Hid (Rows2 W wr i gn gc F' F) := (hR.congrN (g := F') fun j hj => by
              simp only [mix]
              by_cases e : j < i
              · rw [if_pos e]
              · have e2 : j = i := by omega
                rw [if_neg e, e2]
                exact HF1.out).swap
            clear hR HA
            go_wp2_with fail
            go_roundw
            case rel => exact ⟨k, gn, gc, (k : Int) - 1, F', F, by omega, rfl, by show _ = _; omega, rfl, rfl, RR.out, HF'⟩
            case measure => simp [intOf]

end Go.Proofs.Qxb6604177a
