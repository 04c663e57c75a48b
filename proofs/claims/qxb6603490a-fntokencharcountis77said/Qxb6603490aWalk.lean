/-
  THE WALKS of seat b6603490a: isTokenChar computes 'tokB'; the loop counts.
-/
import Derived.Test.Qxb6603490aRows
import Derived.Test.Qxb6603490aPlain
import Derived.WalkKit
import Derived.ProofKit
import Derived.Lib.Bytealg
import Derived.Lib.Walk
namespace Go.Proofs.Qxb6603490a
open Go.RowKit

set_option maxHeartbeats 1000000 in
theorem index_any (s : ByteArray) (c : Int) (w : World) :
    Calls Try.prog 13 #[.string s, .int .u8 c] w fun e w' => e = .returned (.int .i64 (Lib.indexByte s.data.toList c.toNat.toUInt8)) ∧ w' = w := by
  go_enter Try.func13, Try.ntmps13
  go_wp2_with fail
  rw [run_callFunc_extern Try.func14 (by kernel_rfl) (by kernel_rfl) (by kernel_rfl) (e := Extern.BytealgIndexByte.indexByte) (by kernel_rfl), Lib.run_indexByteString]
  simp only [Result.andThen]
  rw [Oper.upon_value]
  go_wp2
  go_ret
  exact ⟨rfl, rfl⟩

set_option maxHeartbeats 1000000 in
theorem indexByte_any (s : ByteArray) (c : Int) (w : World) :
    Calls Try.prog 12 #[.string s, .int .u8 c] w fun e w' => e = .returned (.int .i64 (Lib.indexByte s.data.toList c.toNat.toUInt8)) ∧ w' = w := by
  go_enter Try.func12, Try.ntmps12
  go_wp2_with (go_at_call 13; refine (index_any _ _ _).mono ?_; rintro e w' ⟨rfl, rfl⟩)
  go_ret
  exact ⟨rfl, rfl⟩

set_option maxHeartbeats 1000000 in
theorem isTokenChar_any (c : Int) (w : World) :
    Calls Try.prog 10 #[.int .u8 c] w fun e w' => e = .returned (.bool (tokB c)) ∧ w' = w := by
  by_cases h1 : 97 ≤ c ∧ c ≤ 122
  · have e : tokB c = true := by rw [tokB, if_pos h1]
    rw [e]
    obtain ⟨h1, h2⟩ := h1
    go_enter Try.func10, Try.ntmps10
    go_wp2_with fail
    go_ret
    exact ⟨rfl, rfl⟩
  · by_cases h2 : 65 ≤ c ∧ c ≤ 90
    · have e : tokB c = true := by rw [tokB, if_neg h1, if_pos h2]
      rw [e]
      obtain ⟨h2, h3⟩ := h2
      go_enter Try.func10, Try.ntmps10
      go_wp2_with fail
      all_goals (go_ret; exact ⟨rfl, rfl⟩)
    · by_cases h3 : 48 ≤ c ∧ c ≤ 57
      · have e : tokB c = true := by rw [tokB, if_neg h1, if_neg h2, if_pos h3]
        rw [e]
        obtain ⟨h3, h4⟩ := h3
        go_enter Try.func10, Try.ntmps10
        go_wp2_with fail
        all_goals (go_ret; exact ⟨rfl, rfl⟩)
      · have e : tokB c = decide (0 ≤ Lib.indexByte marks c.toNat.toUInt8) := by rw [tokB, if_neg h1, if_neg h2, if_neg h3]
        have H : Hid (tokB c = decide (0 ≤ Lib.indexByte marks c.toNat.toUInt8)) := e
        clear e
        go_enter Try.func10, Try.ntmps10
        go_wp2_with (go_at_call 12; refine (indexByte_any _ _ _).mono ?_; rintro e w' ⟨rfl, rfl⟩)
        all_goals (go_ret; rw [H.out]; exact ⟨rfl, rfl⟩)

end Go.Proofs.Qxb6603490a
