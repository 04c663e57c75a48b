/-
  Seat b6604177a: b1Glob (the table) computes 'glob'.
-/
import Derived.Test.Qxb6604177aRun
import Derived.Deep.OwnRows
namespace Go.Proofs.Qxb6604177a
open Go.RowKit
set_option linter.unusedVariables false

theorem info4 : (Try.prog.info? 4).map (fun i => (i.zero, i.size, i.bytes)) = some (some (.bool false), 1, 1) := by kernel_rfl

/-- The first i cells as F, the others as f. -/
def mix (F f : Nat → Bool) (i : Nat) : Nat → Bool := fun j => if j < i then F j else f j

theorem mix_step {w : World} {g n : Nat} {F f : Nat → Bool} {i : Nat} (h : w.rowIs g 4 n (fun j => .bool (mix F f i j))) : (w.setCell ⟨g, i, none⟩ (.bool (F i))).rowIs g 4 n (fun j => .bool (mix F f (i + 1) j)) := by
  refine (h.set i _).congr fun j _ => ?_
  simp only [mix]
  by_cases e : j = i
  · subst e; simp
  · rw [if_neg e]
    by_cases hlt : j < i
    · rw [if_pos hlt, if_pos (by omega)]
    · rw [if_neg hlt, if_neg (by omega)]

theorem mix_zero {w : World} {g n : Nat} {F f : Nat → Bool} (h : w.rowIs g 4 n (fun j => .bool (f j))) : w.rowIs g 4 n (fun j => .bool (mix F f 0 j)) :=
  h.congr fun j _ => by simp [mix]

theorem mix_full {w : World} {g n : Nat} {F f : Nat → Bool} (h : w.rowIs g 4 n (fun j => .bool (mix F f n j))) : w.rowIs g 4 n (fun j => .bool (F j)) :=
  h.congr fun j hj => by simp only [mix]; rw [if_pos hj]

/-- The two rows of the table in memory: the current one F, the other whatever. -/
structure Rows2 (w wr : World) (n gc gn : Nat) (F f : Nat → Bool) : Prop where
  ne : gc ≠ gn
  lc : w.heap.size ≤ gc
  ln : w.heap.size ≤ gn
  cur : wr.rowIs gc 4 (n + 1) (fun i => .bool (F i))
  next : wr.rowIs gn 4 (n + 1) (fun i => .bool (f i))
  below : Below w.heap.size w wr

theorem Rows2.swap {w wr : World} {n gc gn : Nat} {F f : Nat → Bool} (h : Rows2 w wr n gc gn F f) : Rows2 w wr n gn gc f F := ⟨h.ne.symm, h.ln, h.lc, h.next, h.cur, h.below⟩

theorem Rows2.step {w wr : World} {n gc gn : Nat} {F F' f : Nat → Bool} {i : Nat} (h : Rows2 w wr n gc gn F (mix F' f i)) : Rows2 w (wr.setCell ⟨gn, i, none⟩ (.bool (F' i))) n gc gn F (mix F' f (i + 1)) :=
  ⟨h.ne, h.lc, h.ln, h.cur.setOther h.ne _, mix_step h.next, h.below.setCell h.ln _⟩

theorem Rows2.start0 {w wr : World} {n gc gn : Nat} {F F' f : Nat → Bool} (h : Rows2 w wr n gc gn F f) : Rows2 w wr n gc gn F (mix F' f 0) :=
  ⟨h.ne, h.lc, h.ln, h.cur, mix_zero h.next, h.below⟩

theorem Rows2.done {w wr : World} {n gc gn : Nat} {F F' f : Nat → Bool} (h : Rows2 w wr n gc gn F (mix F' f (n + 1))) : Rows2 w wr n gc gn F F' :=
  ⟨h.ne, h.lc, h.ln, h.cur, mix_full h.next, h.below⟩

theorem made_one (n i : Nat) (hi : i < n + 1) : ((madeCells #[Value.bool false] (n + 1)).setIfInBounds 0 (.bool true))[i]? = some (.bool (decide (i = 0))) := by
  rw [Array.getElem?_setIfInBounds]
  by_cases e : i = 0
  · subst e; simp [size_madeCells]
  · rw [if_neg (fun h => e h.symm)]
    simp [madeCells, hi, Nat.mod_one, e]

theorem rows2_start (w : World) (n : Nat) : Rows2 w ((w.alloc (.cells ((madeCells #[Value.bool false] (n + 1)).setIfInBounds 0 (.bool true)) 4)).alloc (.cells (madeCells #[Value.bool false] (n + 1)) 4)) n w.heap.size (w.heap.size + 1) (fun i => decide (i = 0)) (fun _ => false) := by
  have hsz : ((madeCells #[Value.bool false] (n + 1)).setIfInBounds 0 (.bool true)).size = n + 1 := by rw [Array.size_setIfInBounds, size_madeCells]
  have h1 := World.rowIs_alloc w ((madeCells #[Value.bool false] (n + 1)).setIfInBounds 0 (.bool true)) 4 (fun i => .bool (decide (i = 0))) (fun i hi => made_one n i (by rw [hsz] at hi; exact hi))
  rw [hsz] at h1
  have h2 := World.rowIs_made (w.alloc (.cells ((madeCells #[Value.bool false] (n + 1)).setIfInBounds 0 (.bool true)) 4)) (.bool false) (n + 1) 4
  refine ⟨by omega, Nat.le_refl _, by omega, h1.alloc _, ?_, ((Below.refl _ _).alloc (Nat.le_refl _) _).alloc (by simp) _⟩
  have e : (w.alloc (.cells ((madeCells #[Value.bool false] (n + 1)).setIfInBounds 0 (.bool true)) 4)).heap.size = w.heap.size + 1 := by simp
  rw [e] at h2
  exact h2

/-- What has been met so far of the row above. -/
def accF (F : Nat → Bool) : Nat → Bool
  | 0 => false
  | i + 1 => F i

theorem star_row (p s : List UInt8) (i : Nat) (h : i ≤ s.length) : D (p ++ [42]) s i = (accF (D (p ++ [42]) s) i || D p s i) := by
  cases i with
  | zero => rw [D_star_zero]; rfl
  | succ i => rw [D_star_succ p s i (by omega)]; rfl

theorem start_row (s : List UInt8) (i : Nat) (h : i ≤ s.length) : decide (i = 0) = D [] s i := by
  cases i with
  | zero => rfl
  | succ i => rw [D_nil_succ s i (by omega)]; simp

theorem take_snoc (s : ByteArray) (k : Nat) (h : k < s.size) : s.data.toList.take (k + 1) = s.data.toList.take k ++ [s[k]] := by
  rw [List.take_succ_eq_append_getElem (by rw [← Lib.size_eq]; exact h)]; rfl

set_option maxRecDepth 100000 in
set_option maxHeartbeats 2000000 in
theorem b1Glob_any (seg pat : ByteArray) (w : World) (h0 : seg.size ≤ 4096) (h1 : pat.size ≤ 4096) :
    Calls Try.prog 19 #[.string seg, .string pat] w fun e w' => e = .returned (.bool (glob pat.data.toList seg.data.toList)) ∧ Below w.heap.size w w' := by
  have hmk : ∀ w : World, (Instr.makeSlice 34 (.int .i64 ((seg.size : Int) + 1)) (.int .i64 ((seg.size : Int) + 1))).run Try.prog w = .ok (.slice (some ⟨w.heap.size, 0, none⟩) (seg.size + 1) (seg.size + 1)) (w.alloc (.cells (madeCells #[.bool false] (seg.size + 1)) 4)) := fun w => by
    have h := run_make_row' (P := Try.prog) 34 4 (.bool false) 1 Try.underlying34 info4 rfl .i64 .i64 (seg.size + 1) (by omega) (by omega) w
    rwa [show ((seg.size + 1 : Nat) : Int) = (seg.size : Int) + 1 by omega] at h
  have hm1 := ((World.rowIs_made w (.bool false) (seg.size + 1) 4).alloc (.cells (madeCells #[.bool false] (seg.size + 1)) 4)).cell (i := 0) (by omega)
  have hm2 := ((World.rowIs_made w (.bool false) (seg.size + 1) 4).alloc (.cells (madeCells #[.bool false] (seg.size + 1)) 4)).frozen 0
  go_enter Try.func19, Try.ntmps19
  go_wp2_with fail
  clear hmk hm1 hm2
  go_loopw [6, 7, 8] (fun vc vn vk wr => ∃ (k gc gn : Nat) (F f : Nat → Bool), k ≤ pat.size ∧ vk = .int .i64 k ∧ vc = .slice (some ⟨gc, 0, none⟩) (seg.size + 1) (seg.size + 1) ∧ vn = .slice (some ⟨gn, 0, none⟩) (seg.size + 1) (seg.size + 1) ∧ Rows2 w wr seg.size gc gn F f ∧ Hid (∀ i, i ≤ seg.size → F i = D (pat.data.toList.take k) seg.data.toList i)) (fun _ _ vk _ => pat.size - (intOf vk).toNat)
  case atStart => exact ⟨0, _, _, _, _, Nat.zero_le _, rfl, rfl, rfl, rows2_start w seg.size, fun i hi => start_row _ i (by rw [← Lib.size_eq]; exact hi)⟩
  case round =>
    obtain ⟨k, gc, gn, F, f, hk, rfl, rfl, rfl, hR, HF⟩ := hrel
    by_cases hlt : k < pat.size
    · have hts := take_snoc pat k hlt
      by_cases hc : pat[k] = 42
      · obtain ⟨F', hF'⟩ : ∃ F' : Nat → Bool, F' = D (pat.data.toList.take (k + 1)) seg.data.toList := ⟨_, rfl⟩
        have HF' : Hid (∀ i, i ≤ seg.size → F' i = D (pat.data.toList.take (k + 1)) seg.data.toList i) := fun i _ => by rw [hF']
        have HA : Hid (∀ i, i ≤ seg.size → F' i = (accF F' i || F i)) := fun i hi => by
          rw [HF.out i hi, hF', hts, hc]
          exact star_row _ _ i (by rw [← Lib.size_eq]; exact hi)
        have ht : ((pat[k].toNat : Int) == 42) = true := by rw [hc]; rfl
        clear hts hc hF' HF
        go_wp2_with fail
        go_loopw [10, 11] (fun va vi wr => ∃ i : Nat, i ≤ seg.size + 1 ∧ vi = .int .i64 i ∧ va = .bool (accF F' i) ∧ Rows2 w wr seg.size gc gn F (mix F' f i)) (fun _ vi _ => seg.size + 1 - (intOf vi).toNat)
        case atStart => exact ⟨0, Nat.zero_le _, rfl, rfl, hR.start0⟩
        case round =>
          clear hR
          obtain ⟨i, hi, rfl, rfl, hR⟩ := hrel
          obtain ⟨b, hb⟩ : ∃ b, b = accF F' i := ⟨_, rfl⟩
          rw [← hb]
          by_cases hin : i ≤ seg.size
          · have hz : (i : Int) < (seg.size : Int) + 1 := by omega
            have hA := HA.out i hin
            have g0 : wr.cell? ⟨gc, i, none⟩ = some (.bool (F i)) := hR.cur.cell (by omega)
            have g1 : wr.cell? ⟨gn, i, none⟩ = some (.bool (mix F' f i i)) := hR.next.cell (by omega)
            have g2 : wr.frozen? ⟨gn, i, none⟩ = false := hR.next.frozen i
            have R : Hid (Rows2 w (wr.setCell ⟨gn, i, none⟩ (.bool (F' i))) seg.size gc gn F (mix F' f (i + 1))) := hR.step
            obtain ⟨old, hold⟩ : ∃ old, old = mix F' f i i := ⟨_, rfl⟩
            rw [← hold] at g1
            by_cases hFi : F i = true
            · have e1 : F' i = true := by rw [hA, hFi, Bool.or_true]
              have HN : Hid (true = accF F' (i + 1)) := e1.symm
              rw [e1] at R
              rw [hFi] at g0
              clear hR hA e1 hFi hb hold HA
              go_wp2_with fail
              go_roundw
              case rel => exact ⟨i + 1, by omega, by go_num, by rw [← HN.out], R.out⟩
              case measure => simp [intOf]; omega
            · have hFi : F i = false := by simpa using hFi
              have e1 : F' i = b := by rw [hA, hFi, Bool.or_false, hb]
              have HN : Hid (b = accF F' (i + 1)) := e1.symm
              rw [e1] at R
              rw [hFi] at g0
              clear hR hA e1 hFi hb hold HA
              go_wp2_with fail
              go_roundw
              case rel => exact ⟨i + 1, by omega, by go_num, by rw [← HN.out], R.out⟩
              case measure => simp [intOf]; omega
          · have hi2 : i = seg.size + 1 := by omega
            subst hi2
            have R : Hid (Rows2 w wr seg.size gn gc F' F) := hR.done.swap
            clear hR HA hb
            go_wp2_with fail
            go_roundw
            case rel => exact ⟨k + 1, gn, gc, F', F, by omega, by go_num, rfl, rfl, R.out, HF'⟩
            case measure => simp [intOf]; omega
      · obtain ⟨F', hF'⟩ : ∃ F' : Nat → Bool, F' = D (pat.data.toList.take (k + 1)) seg.data.toList := ⟨_, rfl⟩
        have HF' : Hid (∀ i, i ≤ seg.size → F' i = D (pat.data.toList.take (k + 1)) seg.data.toList i) := fun i _ => by rw [hF']
        have HA : Hid (∀ j, (hj : j < seg.size) → F' (j + 1) = (F j && seg[j] == pat[k])) := fun j hj => by
          rw [HF.out j (by omega), hF', hts]
          exact D_lit_succ hc _ _ j (by rw [← Lib.size_eq]; exact hj)
        have e0 : F' 0 = false := by rw [hF', hts]; exact D_lit_zero hc _ _
        have ht : ((pat[k].toNat : Int) == 42) = false := by
          rw [beq_eq_false_iff_ne]
          intro q
          exact hc (UInt8.toNat_inj.1 (by show pat[k].toNat = 42; omega))
        have g1 : wr.cell? ⟨gn, 0, none⟩ = some (.bool (f 0)) := hR.next.cell (by omega)
        have g2 : wr.frozen? ⟨gn, 0, none⟩ = false := hR.next.frozen 0
        have R0 : Hid (Rows2 w (wr.setCell ⟨gn, 0, none⟩ (.bool (F' 0))) seg.size gc gn F (mix F' f (0 + 1))) := hR.start0.step
        rw [e0] at R0
        have hz0 : (0 : Int) < (seg.size : Int) + 1 := by omega
        clear hts hc hF' HF e0 hR
        go_wp2_with fail
        clear g1 g2 hz0
        go_loopw [12] (fun vi wr => ∃ j : Nat, j ≤ seg.size ∧ vi = .int .i64 ((j : Int) + 1) ∧ Rows2 w wr seg.size gc gn F (mix F' f (j + 1))) (fun vi _ => seg.size + 1 - (intOf vi).toNat)
        case atStart => exact ⟨0, Nat.zero_le _, rfl, R0.out⟩
        case round =>
          clear R0
          obtain ⟨j, hj, rfl, hR⟩ := hrel
          by_cases hin : j < seg.size
          · have hz : (j : Int) + 1 ≤ (seg.size : Int) := by omega
            have hz1 : (j : Int) < (seg.size : Int) + 1 := by omega
            have hz2 : (j : Int) + 1 < (seg.size : Int) + 1 := by omega
            have hz3 : (j : Int) < (seg.size : Int) := by omega
            have hA := HA.out j hin
            have g0 : wr.cell? ⟨gc, j, none⟩ = some (.bool (F j)) := hR.cur.cell (by omega)
            have g1 : wr.cell? ⟨gn, j + 1, none⟩ = some (.bool (mix F' f (j + 1) (j + 1))) := hR.next.cell (by omega)
            have g2 : wr.frozen? ⟨gn, j + 1, none⟩ = false := hR.next.frozen _
            have R : Hid (Rows2 w (wr.setCell ⟨gn, j + 1, none⟩ (.bool (F' (j + 1)))) seg.size gc gn F (mix F' f (j + 1 + 1))) := hR.step
            obtain ⟨old, hold⟩ : ∃ old, old = mix F' f (j + 1) (j + 1) := ⟨_, rfl⟩
            rw [← hold] at g1
            by_cases hFj : F j = true
            · rw [hFj] at g0
              by_cases hq : seg[j] = pat[k]
              · have e1 : F' (j + 1) = true := by rw [hA, hFj, hq]; simp
                have ht2 : ((seg[j].toNat : Int) == (pat[k].toNat : Int)) = true := by rw [hq]; simp
                rw [e1] at R
                clear hR hA e1 hFj hold HA hq
                go_wp2_with fail
                go_roundw
                case rel => exact ⟨j + 1, by omega, by go_num, R.out⟩
                case measure => simp [intOf]; omega
              · have e1 : F' (j + 1) = false := by rw [hA, hFj]; simpa using hq
                have ht2 : ((seg[j].toNat : Int) == (pat[k].toNat : Int)) = false := by
                  rw [beq_eq_false_iff_ne]
                  intro q
                  exact hq (UInt8.toNat_inj.1 (by omega))
                rw [e1] at R
                clear hR hA e1 hFj hold HA hq
                go_wp2_with fail
                go_roundw
                case rel => exact ⟨j + 1, by omega, by go_num, R.out⟩
                case measure => simp [intOf]; omega
            · have hFj : F j = false := by simpa using hFj
              have e1 : F' (j + 1) = false := by rw [hA, hFj]; rfl
              rw [e1] at R
              rw [hFj] at g0
              clear hR hA e1 hFj hold HA
              go_wp2_with fail
              go_roundw
              case rel => exact ⟨j + 1, by omega, by go_num, R.out⟩
              case measure => simp [intOf]; omega
          · have hj2 : j = seg.size := by omega
            subst hj2
            have R : Hid (Rows2 w wr seg.size gn gc F' F) := hR.done.swap
            clear hR HA
            go_wp2_with fail
            go_roundw
            case rel => exact ⟨k + 1, gn, gc, F', F, by omega, by go_num, rfl, rfl, R.out, HF'⟩
            case measure => simp [intOf]; omega
    · have hk2 : k = pat.size := by omega
      subst hk2
      have g0 : wr.cell? ⟨gc, seg.size, none⟩ = some (.bool (F seg.size)) := hR.cur.cell (by omega)
      have HR : Hid (F seg.size = glob pat.data.toList seg.data.toList) := by
        show _ = _
        rw [HF.out _ (Nat.le_refl _), D, List.take_of_length_le (by rw [← Lib.size_eq]; exact Nat.le_refl _), List.take_of_length_le (by rw [← Lib.size_eq]; exact Nat.le_refl _)]
      have hz : (seg.size : Int) < (seg.size : Int) + 1 := by omega
      have hB := hR.below
      clear hR HF
      go_wp2_with fail
      go_ret
      rw [← HR.out]
      exact ⟨rfl, hB⟩

set_option maxRecDepth 100000 in
set_option maxHeartbeats 1000000 in
theorem room17_yes (x y : ByteArray) (w : World) (h : x.size + y.size ≤ 1048576) :
    Calls Try.prog 17 #[.string x, .string y] w fun e w' => e = .returned (.bool true) ∧ w = w' := by
  go_enter Try.func17, Try.ntmps17
  go_wp2_with fail
  go_ret
  exact ⟨rfl, rfl⟩

set_option maxRecDepth 100000 in
set_option maxHeartbeats 1000000 in
theorem room17_no (x y : ByteArray) (w : World) (h0 : x.size ≤ maxLen) (h1 : y.size ≤ maxLen) (h : ¬ x.size + y.size ≤ 1048576) :
    Calls Try.prog 17 #[.string x, .string y] w fun e w' => e = .returned (.bool false) ∧ w = w' := by
  unfold maxLen at h0 h1
  by_cases k0 : x.size ≤ 1048576
  · by_cases k1 : y.size ≤ 1048576
    · go_enter Try.func17, Try.ntmps17
      go_wp2_with fail
      go_ret
      exact ⟨rfl, rfl⟩
    · go_enter Try.func17, Try.ntmps17
      go_wp2_with fail
      go_ret
      exact ⟨rfl, rfl⟩
  · go_enter Try.func17, Try.ntmps17
    go_wp2_with fail
    go_ret
    exact ⟨rfl, rfl⟩

set_option maxRecDepth 100000 in
set_option maxHeartbeats 1000000 in
theorem model_any (a b : ByteArray) (m : Int) (w : World) (h0 : a.size ≤ maxLen) (h1 : b.size ≤ maxLen) (hm : w.cell? ⟨0, 0, none⟩ = some (.int .i64 m)) :
    Calls Try.prog 5 #[.string a, .string b] w fun e w' => e = .returned (.bool true) ∧ Below w.heap.size w w' := by
  by_cases hr : a.size + b.size ≤ 1048576
  · have HR : Hid (∀ w, Calls Try.prog 17 #[.string a, .string b] w fun e w' => e = .returned (.bool true) ∧ w = w') := fun w => room17_yes a b w hr
    clear h0 h1
    by_cases k0 : a.size ≤ 4096
    · by_cases k1 : b.size ≤ 4096
      · obtain ⟨G, hG⟩ : ∃ G, G = glob b.data.toList a.data.toList := ⟨_, rfl⟩
        have HS : Hid (∀ _ : Unit, Calls Try.prog 18 #[.string a, .string b] w fun e w' => e = .returned (.bool G) ∧ ∃ q, w' = w.drewN q) := fun _ => by rw [hG]; exact zzSegment_any a b m w (by omega) (by omega) hm
        have HT : Hid (∀ w, Calls Try.prog 19 #[.string a, .string b] w fun e w' => e = .returned (.bool G) ∧ Below w.heap.size w w') := fun w => by rw [hG]; exact b1Glob_any a b w k0 k1
        clear hm hG
        go_enter Try.func5, Try.ntmps5
        go_wp2_with (first
          | (go_at_call 17; refine (HR.out _).mono ?_; rintro e w' ⟨rfl, rfl⟩)
          | (go_at_call 18; refine (HS.out ()).mono ?_; rintro e w' ⟨rfl, q, rfl⟩)
          | (go_at_call 19; refine (HT.out _).mono ?_; rintro e w' ⟨rfl, hb⟩))
        go_ret
        exact ⟨by simp, (below_draws _ w q).trans hb⟩
      · clear hm
        go_enter Try.func5, Try.ntmps5
        go_wp2_with (go_at_call 17; refine (HR.out _).mono ?_; rintro e w' ⟨rfl, rfl⟩)
        go_ret
        exact ⟨rfl, Below.refl _ _⟩
    · clear hm
      go_enter Try.func5, Try.ntmps5
      go_wp2_with (go_at_call 17; refine (HR.out _).mono ?_; rintro e w' ⟨rfl, rfl⟩)
      go_ret
      exact ⟨rfl, Below.refl _ _⟩
  · have HR : Hid (∀ w, Calls Try.prog 17 #[.string a, .string b] w fun e w' => e = .returned (.bool false) ∧ w = w') := fun w => room17_no a b w h0 h1 hr
    clear hm
    go_enter Try.func5, Try.ntmps5
    go_wp2_with (go_at_call 17; refine (HR.out _).mono ?_; rintro e w' ⟨rfl, rfl⟩)
    go_ret
    exact ⟨rfl, Below.refl _ _⟩

end Go.Proofs.Qxb6604177a
