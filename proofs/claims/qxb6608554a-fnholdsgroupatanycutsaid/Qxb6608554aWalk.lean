/-
  THE WALKS of seat b6608554a: holdsGroup computes 'grp', zzHasByte 'contains'.
-/
import Derived.Test.Qxb6608554aRows
import Derived.Test.Qxb6608554aPlain
import Derived.WalkKit
import Derived.ProofKit
import Derived.Lib.Bytealg
import Derived.Lib.Walk
namespace Go.Proofs.Qxb6608554a
open Go.RowKit
set_option linter.unusedVariables false

set_option maxRecDepth 100000 in
set_option maxHeartbeats 1000000 in
theorem index_any (s : ByteArray) (c : Int) (w : World) :
    Calls Try.prog 11 #[.string s, .int .u8 c] w fun e w' => e = .returned (.int .i64 (Lib.indexByte s.data.toList c.toNat.toUInt8)) ∧ w' = w := by
  go_enter Try.func11, Try.ntmps11
  go_wp2_with fail
  rw [run_callFunc_extern Try.func12 (by kernel_rfl) (by kernel_rfl) (by kernel_rfl) (e := Extern.BytealgIndexByte.indexByte) (by kernel_rfl), Lib.run_indexByteString]
  simp only [Result.andThen]
  rw [Oper.upon_value]
  go_wp2
  go_ret
  exact ⟨rfl, rfl⟩

set_option maxRecDepth 100000 in
set_option maxHeartbeats 1000000 in
theorem indexByte_any (s : ByteArray) (c : Int) (w : World) :
    Calls Try.prog 10 #[.string s, .int .u8 c] w fun e w' => e = .returned (.int .i64 (Lib.indexByte s.data.toList c.toNat.toUInt8)) ∧ w' = w := by
  go_enter Try.func10, Try.ntmps10
  go_wp2_with (go_at_call 11; refine (index_any _ _ _).mono ?_; rintro e w' ⟨rfl, rfl⟩)
  go_ret
  exact ⟨rfl, rfl⟩

theorem index_at (s : ByteArray) (c : Int) (i : Int) (h : Lib.indexByte s.data.toList c.toNat.toUInt8 = i) (w : World) :
    Calls Try.prog 10 #[.string s, .int .u8 c] w fun e w' => e = .returned (.int .i64 i) ∧ w' = w := by
  rw [← h]; exact indexByte_any s c w

set_option maxRecDepth 100000 in
set_option maxHeartbeats 1000000 in
theorem holds_any (s : ByteArray) (hs : s.size ≤ 2097152) (w : World) :
    Calls Try.prog 9 #[.string s] w fun e w' => e = .returned (.bool (grp s.data.toList)) ∧ w' = w := by
  rcases index_grp s.data.toList with ⟨e, g⟩ | ⟨i, e, hi, g⟩
  · have HI : Hid _ := index_at s 40 (-1) e
    rw [g]
    clear e g
    go_enter Try.func9, Try.ntmps9
    go_wp2_with (go_at_call 10; refine (HI.out _).mono ?_; rintro e w' ⟨rfl, rfl⟩)
    go_ret
    exact ⟨rfl, rfl⟩
  · have HI : Hid _ := index_at s 40 i e
    have hi : i < s.size := by rw [Lib.size_eq]; exact hi
    have HJ : Hid (∀ w, Calls Try.prog 10 #[.string (s.extract i s.size), .int .u8 41] w fun e w' => e = .returned (.int .i64 (Lib.indexByte (s.data.toList.drop i) 41)) ∧ w' = w) := fun w => by
      refine index_at _ _ _ ?_ w
      rw [Lib.extract_data, List.take_of_length_le (by rw [List.length_drop, ← Lib.size_eq]; exact Nat.le_refl _)]
      rfl
    obtain ⟨j, hj⟩ : ∃ j, j = Lib.indexByte (s.data.toList.drop i) 41 := ⟨_, rfl⟩
    rw [g]
    rw [← hj] at HJ ⊢
    clear e g hj
    go_enter Try.func9, Try.ntmps9
    go_wp2_with (go_at_call 10; refine (HI.out _).mono ?_; rintro e w' ⟨rfl, rfl⟩)
    go_wp2_with (go_at_call 10; refine (HJ.out _).mono ?_; rintro e w' ⟨rfl, rfl⟩)
    go_ret
    exact ⟨rfl, rfl⟩

set_option maxRecDepth 100000 in
set_option maxHeartbeats 1000000 in
theorem zzHolds_any (s : ByteArray) (hs : s.size ≤ 2097152) (w : World) :
    Calls Try.prog 6 #[.string s] w fun e w' => e = .returned (.bool (grp s.data.toList)) ∧ w' = w := by
  go_enter Try.func6, Try.ntmps6
  go_wp2_with (go_at_call 9; refine (holds_any _ hs _).mono ?_; rintro e w' ⟨rfl, rfl⟩)
  go_ret
  exact ⟨rfl, rfl⟩

set_option maxRecDepth 100000 in
set_option maxHeartbeats 1000000 in
theorem hasByte_any (s : ByteArray) (hs : s.size ≤ 2097152) (c : UInt8) (w : World) :
    Calls Try.prog 7 #[.string s, .int .u8 c.toNat] w fun e w' => e = .returned (.bool (hasB s.data.toList c)) ∧ w' = w := by
  go_enter Try.func7, Try.ntmps7
  go_wp2_with fail
  go_loop [5] (fun i => ∃ k : Nat, k ≤ s.size ∧ i = .int .i64 k ∧ Hid (hasB (s.data.toList.take k) c = false)) (fun i => s.size - (intOf i).toNat)
  case atStart => exact ⟨0, Nat.zero_le _, rfl, rfl⟩
  case round =>
    obtain ⟨k, hk, rfl, H⟩ := hrel
    by_cases hlt : k < s.size
    · have hl : k < s.data.toList.length := by rw [← Lib.size_eq]; exact hlt
      have eg : Hid (s[k] = s.data.toList[k]) := rfl
      by_cases hb : s[k] = c
      · have hr : hasB s.data.toList c = true := has_at _ c k hl hb
        have ht : ((s[k].toNat : Int) == (c.toNat : Int)) = true := by rw [hb]; simp
        have HR : Hid (hasB s.data.toList c = true) := hr
        clear H hr eg hb
        go_wp2_with fail
        go_ret
        rw [HR.out]
        exact ⟨rfl, rfl⟩
      · have H' : Hid (hasB (s.data.toList.take (k + 1)) c = false) := has_take _ c k hl H.out hb
        have ht : ((s[k].toNat : Int) == (c.toNat : Int)) = false := by
          rw [beq_eq_false_iff_ne]
          intro q
          exact hb (UInt8.toNat_inj.1 (by omega))
        clear H eg hb
        go_wp2_with fail
        go_round
        case rel => exact ⟨k + 1, by omega, by go_num, H'⟩
        case measure => simp [intOf]; omega
    · have hr : hasB s.data.toList c = false := by
        have := H.out
        rwa [List.take_of_length_le (by rw [← Lib.size_eq]; omega)] at this
      have HR : Hid (hasB s.data.toList c = false) := hr
      clear hr H
      go_wp2_with fail
      go_ret
      rw [HR.out]
      exact ⟨rfl, rfl⟩

/-- The bound on the lengths, laid by program. -/
def roomB (x y : ByteArray) : Bool := decide (x.size + y.size ≤ 1048576)

set_option maxRecDepth 100000 in
set_option maxHeartbeats 1000000 in
theorem room_any (x y : ByteArray) (hx : x.size ≤ maxLen) (hy : y.size ≤ maxLen) (w : World) :
    Calls Try.prog 5 #[.string x, .string y] w fun e w' => e = .returned (.bool (roomB x y)) ∧ w' = w := by
  unfold maxLen at hx hy
  by_cases h : x.size + y.size ≤ 1048576
  · have e : roomB x y = true := decide_eq_true h
    rw [e]
    go_enter Try.func5, Try.ntmps5
    go_wp2_with fail
    go_ret
    exact ⟨rfl, rfl⟩
  · have e : roomB x y = false := decide_eq_false h
    rw [e]
    by_cases h1 : x.size ≤ 1048576
    · by_cases h2 : y.size ≤ 1048576
      · go_enter Try.func5, Try.ntmps5
        go_wp2_with fail
        go_ret
        exact ⟨rfl, rfl⟩
      · go_enter Try.func5, Try.ntmps5
        go_wp2_with fail
        go_ret
        exact ⟨rfl, rfl⟩
    · go_enter Try.func5, Try.ntmps5
      go_wp2_with fail
      go_ret
      exact ⟨rfl, rfl⟩

end Go.Proofs.Qxb6608554a
