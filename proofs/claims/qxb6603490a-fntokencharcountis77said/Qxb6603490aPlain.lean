/-
  THE PLAIN LAW of seat b6603490a: which bytes are token characters, and how many. No Go in sight.
-/
import Derived.Lib.Bytealg
namespace Go.Proofs.Qxb6603490a
open Go

/-- The fifteen marks that a token may hold beside letters and digits. -/
def marks : List UInt8 := [33, 35, 36, 37, 38, 39, 42, 43, 45, 46, 94, 95, 96, 124, 126]

/-- Is the byte i a token character? -/
def tokB (i : Int) : Bool :=
  if 97 ≤ i ∧ i ≤ 122 then true else if 65 ≤ i ∧ i ≤ 90 then true else if 48 ≤ i ∧ i ≤ 57 then true else decide (0 ≤ Lib.indexByte marks i.toNat.toUInt8)

/-- How many of the first k bytes are. -/
def cnt : Nat → Nat
  | 0 => 0
  | k + 1 => if tokB k then cnt k + 1 else cnt k

theorem cnt_le (k : Nat) : cnt k ≤ k := by
  induction k with
  | zero => exact Nat.le_refl _
  | succ k ih => unfold cnt; split <;> omega

theorem cnt_hit {k : Nat} (h : tokB k = true) : cnt (k + 1) = cnt k + 1 := by rw [cnt, if_pos h]
theorem cnt_miss {k : Nat} (h : tokB k = false) : cnt (k + 1) = cnt k := by rw [cnt, if_neg (by rw [h]; exact Bool.false_ne_true)]

theorem cnt_all : cnt 256 = 77 := by decide +kernel

theorem tok_visible : ∀ k : Nat, k < 256 → tokB k = true → 33 ≤ k ∧ k ≤ 126 := by decide +kernel

end Go.Proofs.Qxb6603490a
