/-
  Seat b6604025a: the searches of the law's own: zzMatchAt, zzFirstMatch, zzFirstByteFrom.
-/
import Derived.Test.Qxb6604025aMem
import Derived.Lib.IndexMore
import Derived.Deep.QuietTactic
import Derived.BigQuiet
namespace Go.Proofs.Qxb6604025a
open Go.RowKit
theorem below_draws (B : Nat) (w : World) (n : Nat) : Below B w (w.drewN n) := ⟨rfl, rfl, rfl, Nat.le_refl _, fun _ _ => rfl⟩
set_option linter.unusedVariables false

theorem at8_get (l : List UInt8) (k : Nat) (h : k < l.length) : at8 l k = (l[k].toNat : Int) := by
  unfold at8; rw [List.getD_eq_getElem?_getD, List.getElem?_eq_getElem h]; rfl

theorem occ_yes {S P : List UInt8} {i : Nat} (hi : i + P.length ≤ S.length) (h : ∀ j, j < P.length → at8 S (i + j) = at8 P j) : Lib.occAt S P i = true := by
  rw [Lib.occAt_iff_take S P i hi, beq_iff_eq]
  apply List.ext_getElem
  · rw [List.length_take, List.length_drop]; omega
  · intro j h1 h2
    have e := h j h2
    rw [at8_get S (i + j) (by omega), at8_get P j h2] at e
    rw [List.getElem_take, List.getElem_drop]
    exact UInt8.toNat_inj.1 (by omega)

theorem occ_no {S P : List UInt8} {i j : Nat} (hi : i + P.length ≤ S.length) (hj : j < P.length) (h : at8 S (i + j) ≠ at8 P j) : Lib.occAt S P i = false := by
  rw [Lib.occAt_iff_take S P i hi]
  rw [beq_eq_false_iff_ne]
  intro e
  apply h
  have e2 : ((S.drop i).take P.length)[j]? = P[j]? := by rw [e]
  rw [List.getElem?_take_of_lt hj, List.getElem?_drop, List.getElem?_eq_getElem hj, List.getElem?_eq_getElem (by omega : i + j < S.length)] at e2
  rw [at8_get S (i + j) (by omega), at8_get P j hj]
  have e3 : S[i + j] = P[j] := by simpa using e2
  rw [e3]

set_option maxRecDepth 100000 in
set_option maxHeartbeats 1000000 in
/-- zzMatchAt, where there is room. -/
theorem matchAt_any (aS aP : Option Addr) (ns np cs cp : Nat) (S P : List UInt8) (i : Nat) (w : World) (hS : IsB w aS ns S) (hP : IsB w aP np P) (hi : i + np ≤ ns) (hn : ns ≤ 2097152) :
    Calls Try.prog 36 #[.slice aS ns cs, .slice aP np cp, .int .i64 i] w fun e w' => e = .returned (.bool (Lib.occAt S P i)) ∧ ∃ q, w' = w.drewN q := by
  go_enter Try.func36, Try.ntmps36
  go_wp2_with fail
  go_loopw [7] (fun v wr => ∃ k : Nat, k ≤ np ∧ v = .int .i64 k ∧ Hid (∀ j, j < k → at8 S (i + j) = at8 P j) ∧ ∃ q, wr = w.drewN q) (fun v _ => np - (intOf v).toNat)
  case atStart => exact ⟨0, Nat.zero_le _, rfl, fun j hj => absurd hj (Nat.not_lt_zero _), 0, rfl⟩
  case round =>
    obtain ⟨k, hk, rfl, H, q, rfl⟩ := hrel
    by_cases hlt : k < np
    · obtain ⟨bs, os, rfl, hbs, hcs⟩ := hS.cells (by omega)
      obtain ⟨bp, op, rfl, hbp, hcp⟩ := hP.cells (by omega)
      have hz : (k : Int) < (np : Int) := by omega
      have hz2 : (i : Int) + (k : Int) < (ns : Int) := by omega
      have hz3 : (0 : Int) ≤ (i : Int) + (k : Int) := by omega
      have g0 : w.cell? ⟨bs, os + (i + k), none⟩ = some (.int .u8 (at8 S (i + k))) := hcs _ (by omega)
      have g1 : w.cell? ⟨bp, op + k, none⟩ = some (.int .u8 (at8 P k)) := hcp _ (by omega)
      have hlS : Hid (S.length = ns) := hS.len
      have hlP : Hid (P.length = np) := hP.len
      clear hcs hcp hS hP
      by_cases e : at8 S (i + k) = at8 P k
      · have H' : Hid (∀ j, j < k + 1 → at8 S (i + j) = at8 P j) := fun j hj => by
          by_cases q : j = k
          · subst q; exact e
          · exact H.out j (by omega)
        have ht : (at8 S (i + k) != at8 P k) = false := by rw [e]; simp
        obtain ⟨x, hx⟩ : ∃ x, x = at8 S (i + k) := ⟨_, rfl⟩
        obtain ⟨y, hy⟩ : ∃ y, y = at8 P k := ⟨_, rfl⟩
        rw [← hx] at ht g0
        rw [← hy] at ht g1
        clear e H hx hy
        go_wp2_with fail
        go_quiet (fail)
        go_wp2_with fail
        go_roundw
        case rel => exact ⟨k + 1, by omega, by go_num, H', _, rfl⟩
        case measure => simp [intOf]; omega
      · have HR : Hid (Lib.occAt S P i = false) := occ_no (by rw [hlS.out, hlP.out]; exact hi) (by rw [hlP.out]; exact hlt) e
        have ht : (at8 S (i + k) != at8 P k) = true := by simpa using e
        obtain ⟨x, hx⟩ : ∃ x, x = at8 S (i + k) := ⟨_, rfl⟩
        obtain ⟨y, hy⟩ : ∃ y, y = at8 P k := ⟨_, rfl⟩
        rw [← hx] at ht g0
        rw [← hy] at ht g1
        clear e H hx hy
        go_wp2_with fail
        go_quiet (fail)
        go_wp2_with fail
        go_ret
        rw [HR.out]
        exact ⟨rfl, _, World.drewN_drewN _ _ _⟩
    · have HR : Hid (Lib.occAt S P i = true) := occ_yes (by rw [hS.len, hP.len]; exact hi) (fun j hj => H.out j (by rw [hP.len] at hj; omega))
      clear H hS hP
      go_wp2_with fail
      go_ret
      rw [HR.out]
      exact ⟨rfl, _, rfl⟩

theorem index_stop {S P : List UInt8} {k : Nat} (hk : S.length < k + P.length) (h : ∀ j, j < k → Lib.occAt S P j = false) : Lib.index S P = -1 := by
  refine Lib.index_none fun j hj => ?_
  by_cases q : j < k
  · exact h j q
  · by_cases e : Lib.occAt S P j = true
    · rcases Lib.occAt_room e with r | r
      · omega
      · rw [r] at hk; simp at hk; omega
    · simpa using e

set_option maxRecDepth 100000 in
set_option maxHeartbeats 1000000 in
/-- zzFirstMatch: the first place of the pattern, or -1. -/
theorem firstMatch_any (aS aP : Option Addr) (ns np cs cp : Nat) (S P : List UInt8) (w : World) (hS : IsB w aS ns S) (hP : IsB w aP np P) (hn : ns ≤ 2097152) (hm : np ≤ 2097152) :
    Calls Try.prog 27 #[.slice aS ns cs, .slice aP np cp] w fun e w' => e = .returned (.int .i64 (Lib.index S P)) ∧ ∃ q, w' = w.drewN q := by
  have hlS : Hid (S.length = ns) := hS.len
  have hlP : Hid (P.length = np) := hP.len
  have HM : Hid (∀ (i : Nat) (q : Nat), i + np ≤ ns → Calls Try.prog 36 #[.slice aS ns cs, .slice aP np cp, .int .i64 i] (w.drewN q) fun e w' => e = .returned (.bool (Lib.occAt S P i)) ∧ ∃ q, w' = w.drewN q) := fun i q hi => by
    refine (matchAt_any aS aP ns np cs cp S P i (w.drewN q) (hS.below (below_draws _ _ _)) (hP.below (below_draws _ _ _)) hi hn).mono ?_
    rintro e w' ⟨rfl, q', rfl⟩
    exact ⟨rfl, _, World.drewN_drewN _ _ _⟩
  clear hS hP
  go_enter Try.func27, Try.ntmps27
  go_wp2_with fail
  go_loopw [5] (fun v wr => ∃ k : Nat, k ≤ ns + 1 ∧ v = .int .i64 k ∧ Hid (∀ j, j < k → Lib.occAt S P j = false) ∧ ∃ q, wr = w.drewN q) (fun v _ => ns + 1 - (intOf v).toNat)
  case atStart => exact ⟨0, Nat.zero_le _, rfl, fun j hj => absurd hj (Nat.not_lt_zero _), 0, rfl⟩
  case round =>
    obtain ⟨k, hk, rfl, H, q, rfl⟩ := hrel
    by_cases hlt : k + np ≤ ns
    · by_cases ho : Lib.occAt S P k = true
      · have HR : Hid (Lib.index S P = (k : Int)) := Lib.index_first (by rw [hlS.out]; omega) ho H.out
        have HC : Hid (∀ _ : Unit, Calls Try.prog 36 #[.slice aS ns cs, .slice aP np cp, .int .i64 k] (w.drewN q) fun e w' => e = .returned (.bool true) ∧ ∃ q, w' = w.drewN q) := fun _ => by rw [← ho]; exact HM.out k q hlt
        clear ho H
        go_wp2_with (go_at_call 36; refine (HC.out ()).mono ?_; rintro e w' ⟨rfl, q', rfl⟩)
        go_ret
        rw [HR.out]
        exact ⟨rfl, _, rfl⟩
      · have ho : Lib.occAt S P k = false := by simpa using ho
        have H' : Hid (∀ j, j < k + 1 → Lib.occAt S P j = false) := fun j hj => by
          by_cases q : j = k
          · subst q; exact ho
          · exact H.out j (by omega)
        have HC : Hid (∀ _ : Unit, Calls Try.prog 36 #[.slice aS ns cs, .slice aP np cp, .int .i64 k] (w.drewN q) fun e w' => e = .returned (.bool false) ∧ ∃ q, w' = w.drewN q) := fun _ => by rw [← ho]; exact HM.out k q hlt
        clear ho H
        go_wp2_with (go_at_call 36; refine (HC.out ()).mono ?_; rintro e w' ⟨rfl, q', rfl⟩)
        go_roundw
        case rel => exact ⟨k + 1, by omega, by go_num, H', _, rfl⟩
        case measure => simp [intOf]; omega
    · have HR : Hid (Lib.index S P = -1) := index_stop (k := k) (by rw [hlS.out, hlP.out]; omega) H.out
      clear H
      go_wp2_with fail
      go_ret
      rw [HR.out]
      exact ⟨rfl, _, rfl⟩

theorem index_byte_first {l : List UInt8} {c : UInt8} {k : Nat} (hk : k < l.length) (h : l[k] = c) (h0 : ∀ j, (hj : j < k) → l[j]'(by omega) ≠ c) : Lib.indexByte l c = k := by
  induction l generalizing k with
  | nil => simp at hk
  | cons b l ih =>
    show (if b == c then 0 else if Lib.indexByte l c == -1 then -1 else Lib.indexByte l c + 1) = (k : Int)
    cases k with
    | zero =>
      have : (b == c) = true := by simpa using h
      rw [this]; rfl
    | succ k =>
      have hb : (b == c) = false := by rw [beq_eq_false_iff_ne]; exact h0 0 (Nat.succ_pos _)
      have e := ih (k := k) (by simpa using hk) (by simpa using h) (fun j hj => h0 (j + 1) (by omega))
      rw [hb, e]
      have : ((k : Int) == -1) = false := by rw [beq_eq_false_iff_ne]; omega
      rw [this]
      simp

theorem index_byte_none {l : List UInt8} {c : UInt8} (h0 : ∀ j, (hj : j < l.length) → l[j] ≠ c) : Lib.indexByte l c = -1 := by
  induction l with
  | nil => rfl
  | cons b l ih =>
    show (if b == c then 0 else if Lib.indexByte l c == -1 then -1 else Lib.indexByte l c + 1) = (-1 : Int)
    have hb : (b == c) = false := by rw [beq_eq_false_iff_ne]; exact h0 0 (by simp)
    have e := ih (fun j hj => h0 (j + 1) (by simpa using hj))
    rw [hb, e]
    rfl

set_option maxRecDepth 100000 in
set_option maxHeartbeats 1000000 in
/-- zzFirstByteFrom at 0: the first place of the byte, or -1. -/
theorem firstByte_any (a : Option Addr) (n c : Nat) (l : List UInt8) (b : UInt8) (w : World) (hl : IsB w a n l) (hn : n ≤ 2097152) :
    Calls Try.prog 29 #[.slice a n c, .int .u8 b.toNat, .int .i64 0] w fun e w' => e = .returned (.int .i64 (Lib.indexByte l b)) ∧ w' = w := by
  have hlen : Hid (l.length = n) := hl.len
  have HB := hl.cells
  clear hl
  go_enter Try.func29, Try.ntmps29
  go_wp2_with fail
  go_loop [7] (fun v => ∃ k : Nat, k ≤ n ∧ v = .int .i64 k ∧ Hid (∀ j, j < k → at8 l j ≠ (b.toNat : Int))) (fun v => n - (intOf v).toNat)
  case atStart => exact ⟨0, Nat.zero_le _, rfl, fun j hj => absurd hj (Nat.not_lt_zero _)⟩
  case round =>
    obtain ⟨k, hk, rfl, H⟩ := hrel
    have HN : Hid (∀ j, (hj : j < k) → (hl : j < l.length) → l[j] ≠ b) := fun j hj hl e => by
      have := H.out j hj
      rw [at8_get l j hl, e] at this
      exact this rfl
    by_cases hlt : k < n
    · obtain ⟨g, o, rfl, hb, hc⟩ := HB (by omega)
      have g0 := hc k hlt
      have hkl : k < l.length := by rw [hlen.out]; exact hlt
      by_cases e : at8 l k = (b.toNat : Int)
      · have HR : Hid (Lib.indexByte l b = (k : Int)) := index_byte_first hkl (by rw [at8_get l k hkl] at e; exact UInt8.toNat_inj.1 (by omega)) (fun j hj => HN.out j hj (by omega))
        have ht : (at8 l k == (b.toNat : Int)) = true := by rw [e]; simp
        obtain ⟨x, hx⟩ : ∃ x, x = at8 l k := ⟨_, rfl⟩
        rw [← hx] at ht g0
        clear HB hc H HN e hx hkl
        go_wp2_with fail
        go_ret
        rw [HR.out]
        exact ⟨rfl, rfl⟩
      · have H' : Hid (∀ j, j < k + 1 → at8 l j ≠ (b.toNat : Int)) := fun j hj => by
          by_cases q : j = k
          · subst q; exact e
          · exact H.out j (by omega)
        have ht : (at8 l k == (b.toNat : Int)) = false := by simpa using e
        obtain ⟨x, hx⟩ : ∃ x, x = at8 l k := ⟨_, rfl⟩
        rw [← hx] at ht g0
        clear HB hc H HN e hx hkl
        go_wp2_with fail
        go_round
        case rel => exact ⟨k + 1, by omega, by go_num, H'⟩
        case measure => simp [intOf]; omega
    · have HR : Hid (Lib.indexByte l b = -1) := index_byte_none (fun j hj => HN.out j (by rw [hlen.out] at hj; omega) hj)
      clear HB H HN
      go_wp2_with fail
      go_ret
      rw [HR.out]
      exact ⟨rfl, rfl⟩

end Go.Proofs.Qxb6604025a
