/-
  Seat b6604025a: byte slices in memory: what they read as; the copies (zzCloneBytes, zzParamPattern, zzJoin).
-/
import Derived.Test.Qxb6604025aRows
import Derived.WalkKit
import Derived.ProofKit
import Derived.WalkSpells
import Derived.Deep.OwnRows
import Derived.Deep.Draws
import Derived.Lib.SliceRun
import Derived.Lib.Strings
namespace Go.Proofs.Qxb6604025a
open Go.RowKit
set_option linter.unusedVariables false

/-- Byte i of the list, as a number. -/
def at8 (l : List UInt8) (i : Nat) : Int := ((l.getD i 0).toNat : Int)

/-- WHAT A SLICE OF BYTES READS AS: the list l. -/
structure IsB (w : World) (a : Option Addr) (n : Nat) (l : List UInt8) : Prop where
  len : l.length = n
  cells : 0 < n → ∃ b o, a = some ⟨b, o, none⟩ ∧ b < w.heap.size ∧ ∀ i, i < n → w.cell? ⟨b, o + i, none⟩ = some (.int .u8 (at8 l i))

theorem IsB.below {w w' : World} {a : Option Addr} {n : Nat} {l : List UInt8} (h : IsB w a n l) (hb : Below w.heap.size w w') : IsB w' a n l :=
  ⟨h.len, fun hn => by
    obtain ⟨b, o, ha, hlt, hc⟩ := h.cells hn
    exact ⟨b, o, ha, Nat.lt_of_lt_of_le hlt hb.size, fun i hi => (hb.cell (p := ⟨b, o + i, none⟩) hlt).trans (hc i hi)⟩⟩

/-- A row of the call's own, read as a slice. -/
theorem IsB.row {w : World} {g n : Nat} {l : List UInt8} (hl : l.length = n) (h : w.rowIs g 5 n (fun i => .int .u8 (at8 l i))) : IsB w (some ⟨g, 0, none⟩) n l :=
  ⟨hl, fun _ => ⟨g, 0, rfl, h.lt, fun i hi => by rw [Nat.zero_add]; exact h.cell hi⟩⟩

theorem info5 : (Try.prog.info? 5).map (fun i => (i.zero, i.size, i.bytes)) = some (some (.int .u8 0), 1, 1) := by kernel_rfl

/-- The first k of n bytes are laid. -/
def part (l : List UInt8) (k : Nat) : Nat → Value := fun j => if j < k then .int .u8 (at8 l j) else .int .u8 0

theorem part_step {w : World} {g n : Nat} {l : List UInt8} {k : Nat} (h : w.rowIs g 5 n (part l k)) : (w.setCell ⟨g, k, none⟩ (.int .u8 (at8 l k))).rowIs g 5 n (part l (k + 1)) := by
  refine (h.set k _).congr fun i _ => ?_
  simp only [part]
  by_cases e : i = k
  · subst e; simp
  · rw [if_neg e]
    by_cases hlt : i < k
    · rw [if_pos hlt, if_pos (by omega)]
    · rw [if_neg hlt, if_neg (by omega)]

theorem part_full {w : World} {g n : Nat} {l : List UInt8} (h : w.rowIs g 5 n (part l n)) : w.rowIs g 5 n (fun i => .int .u8 (at8 l i)) :=
  h.congr fun i hi => by simp only [part]; rw [if_pos hi]

theorem part_start (w : World) (l : List UInt8) (n : Nat) : (w.alloc (.cells (madeCells #[.int .u8 0] n) 5)).rowIs w.heap.size 5 n (part l 0) :=
  (World.rowIs_made w _ n 5).congr fun i _ => by simp [part]

set_option maxRecDepth 100000 in
set_option maxHeartbeats 1000000 in
theorem clone_some (x : Addr) (b o n c : Nat) (l : List UInt8) (w : World) (hl : l.length = n) (hx : 0 < n → x = ⟨b, o, none⟩) (hb : 0 < n → b < w.heap.size) (hc : ∀ i, i < n → w.cell? ⟨b, o + i, none⟩ = some (.int .u8 (at8 l i))) (hn : n ≤ 65536) :
    Calls Try.prog 10 #[.slice (some x) n c] w fun e w' => e = .returned (.slice (some ⟨w.heap.size, 0, none⟩) n n) ∧ IsB w' (some ⟨w.heap.size, 0, none⟩) n l ∧ Below w.heap.size w w' := by
  have hmk := run_make_row' (P := Try.prog) 22 5 (.int .u8 0) 1 Try.underlying22 info5 rfl .i64 .i64 n (by omega) (by omega)
  have hnil := fun wx : World => Lib.run_eql_slice_nil (P := Try.prog) wx 22 5 (some x) n c 0 0 Try.underlying22
  have HL : Hid (l.length = n) := hl
  have HC : Hid (∀ i, i < n → w.cell? ⟨b, o + i, none⟩ = some (.int .u8 (at8 l i))) := hc
  clear hl hc
  go_enter Try.func10, Try.ntmps10
  go_wp2_with fail
  go_loopw [4] (fun i wr => ∃ k : Nat, k ≤ n ∧ i = .int .i64 k ∧ wr.rowIs w.heap.size 5 n (part l k) ∧ Below w.heap.size w wr) (fun i _ => n - (intOf i).toNat)
  case atStart => exact ⟨0, Nat.zero_le _, rfl, part_start w l n, (Below.refl _ _).alloc (Nat.le_refl _) _⟩
  case round =>
    obtain ⟨k, hk, rfl, hrow, hbel⟩ := hrel
    clear hmk hnil
    by_cases hlt : k < n
    · obtain rfl := hx (by omega)
      have hz : (k : Int) < (n : Int) := by omega
      have hb' := hb (by omega)
      have g0 : wr.cell? ⟨b, o + k, none⟩ = some (.int .u8 (at8 l k)) := (hbel.cell (p := ⟨b, o + k, none⟩) hb').trans (HC.out k hlt)
      have g1 : wr.cell? ⟨w.heap.size, k, none⟩ = some (part l k k) := hrow.cell hlt
      have g2 : wr.frozen? ⟨w.heap.size, k, none⟩ = false := hrow.frozen k
      have R : Hid ((wr.setCell ⟨w.heap.size, k, none⟩ (.int .u8 (at8 l k))).rowIs w.heap.size 5 n (part l (k + 1))) := part_step hrow
      have B : Hid (Below w.heap.size w (wr.setCell ⟨w.heap.size, k, none⟩ (.int .u8 (at8 l k)))) := hbel.setCell (Nat.le_refl _) _
      clear hrow hbel
      go_wp2_with fail
      go_roundw
      case rel => exact ⟨k + 1, by omega, by go_num, R.out, B.out⟩
      case measure => simp [intOf]; omega
    · have hk2 : k = n := by omega
      subst hk2
      go_wp2_with fail
      go_ret
      exact ⟨rfl, IsB.row HL.out (part_full hrow), hbel⟩

set_option maxRecDepth 100000 in
set_option maxHeartbeats 1000000 in
theorem clone_nil (c : Nat) (w : World) :
    Calls Try.prog 10 #[.slice none 0 c] w fun e w' => e = .returned (.slice none 0 0) ∧ w' = w := by
  have hnil := fun wx : World => Lib.run_eql_slice_nil (P := Try.prog) wx 22 5 none 0 c 0 0 Try.underlying22
  go_enter Try.func10, Try.ntmps10
  go_wp2_with fail
  go_ret
  exact ⟨rfl, rfl⟩

/-- zzCloneBytes: a slice that reads the same; nothing that was there has turned. -/
theorem clone_any (a : Option Addr) (n c : Nat) (l : List UInt8) (w : World) (h : IsB w a n l) (hn : n ≤ 65536) :
    Calls Try.prog 10 #[.slice a n c] w fun e w' => ∃ a' c', e = .returned (.slice a' n c') ∧ IsB w' a' n l ∧ Below w.heap.size w w' := by
  cases a with
  | none =>
    have hn0 : n = 0 := by
      rcases Nat.eq_zero_or_pos n with e | hp
      · exact e
      · obtain ⟨b, o, q, _⟩ := h.cells hp
        cases q
    subst hn0
    refine (clone_nil c w).mono ?_
    rintro e w' ⟨rfl, rfl⟩
    exact ⟨none, 0, rfl, h, Below.refl _ _⟩
  | some x =>
    have hb : 0 < n → x.block < w.heap.size := fun hp => by
      obtain ⟨b', o', q, hlt, _⟩ := h.cells hp
      cases q; exact hlt
    have hx : 0 < n → x = ⟨x.block, x.off, none⟩ := fun hp => by
      obtain ⟨b', o', q, hlt, _⟩ := h.cells hp
      cases q; rfl
    have hc : ∀ i, i < n → w.cell? ⟨x.block, x.off + i, none⟩ = some (.int .u8 (at8 l i)) := fun i hi => by
      obtain ⟨b', o', q, _, hc⟩ := h.cells (by omega)
      cases q; exact hc i hi
    refine (clone_some x x.block x.off n c l w h.len hx hb hc hn).mono ?_
    rintro e w' ⟨rfl, hB, hbel⟩
    exact ⟨_, _, rfl, hB, hbel⟩

theorem at8_left (x y : List UInt8) (k : Nat) (h : k < x.length) : at8 (x ++ y) k = at8 x k := by
  unfold at8; rw [List.getD_eq_getElem?_getD, List.getD_eq_getElem?_getD, List.getElem?_append_left h]
theorem at8_right (x y : List UInt8) (k : Nat) : at8 (x ++ y) (x.length + k) = at8 y k := by
  unfold at8; rw [List.getD_eq_getElem?_getD, List.getD_eq_getElem?_getD, List.getElem?_append_right (by omega), Nat.add_sub_cancel_left]
theorem at8_str (s : ByteArray) (k : Nat) (h : k < s.size) : at8 s.data.toList k = (s[k].toNat : Int) := by
  have hl : k < s.data.toList.length := by rw [← Lib.size_eq]; exact h
  unfold at8; rw [List.getD_eq_getElem?_getD, List.getElem?_eq_getElem hl]; rfl

/-- param=, as bytes. -/
def patL (s : ByteArray) : List UInt8 := s.data.toList ++ [61]
theorem patL_length (s : ByteArray) : (patL s).length = s.size + 1 := by unfold patL; rw [List.length_append, ← Lib.size_eq]; rfl

set_option maxRecDepth 100000 in
set_option maxHeartbeats 1000000 in
/-- zzParamPattern. -/
theorem param_any (s : ByteArray) (w : World) (hs : s.size ≤ 4096) :
    Calls Try.prog 26 #[.string s] w fun e w' => e = .returned (.slice (some ⟨w.heap.size, 0, none⟩) (s.size + 1) (s.size + 1)) ∧ IsB w' (some ⟨w.heap.size, 0, none⟩) (s.size + 1) (patL s) ∧ Below w.heap.size w w' := by
  have hmk : ∀ w : World, (Instr.makeSlice 22 (.int .i64 ((s.size : Int) + 1)) (.int .i64 ((s.size : Int) + 1))).run Try.prog w = .ok (.slice (some ⟨w.heap.size, 0, none⟩) (s.size + 1) (s.size + 1)) (w.alloc (.cells (madeCells #[.int .u8 0] (s.size + 1)) 5)) := fun w => by
    have h := run_make_row' (P := Try.prog) 22 5 (.int .u8 0) 1 Try.underlying22 info5 rfl .i64 .i64 (s.size + 1) (by omega) (by omega) w
    rwa [show ((s.size + 1 : Nat) : Int) = (s.size : Int) + 1 by omega] at h
  obtain ⟨l, hl⟩ : ∃ l, l = patL s := ⟨_, rfl⟩
  have HL : Hid (l = patL s) := hl
  clear hl
  go_enter Try.func26, Try.ntmps26
  go_wp2_with fail
  go_loopw [4] (fun i wr => ∃ k : Nat, k ≤ s.size ∧ i = .int .i64 k ∧ wr.rowIs w.heap.size 5 (s.size + 1) (part l k) ∧ Below w.heap.size w wr) (fun i _ => s.size - (intOf i).toNat)
  case atStart => exact ⟨0, Nat.zero_le _, rfl, part_start w l _, (Below.refl _ _).alloc (Nat.le_refl _) _⟩
  case round =>
    obtain ⟨k, hk, rfl, hrow, hbel⟩ := hrel
    clear hmk
    have g1 : wr.cell? ⟨w.heap.size, k, none⟩ = some (part l k k) := hrow.cell (by omega)
    have g2 : wr.frozen? ⟨w.heap.size, k, none⟩ = false := hrow.frozen k
    have R : Hid ((wr.setCell ⟨w.heap.size, k, none⟩ (.int .u8 (at8 l k))).rowIs w.heap.size 5 (s.size + 1) (part l (k + 1))) := part_step hrow
    have B : Hid (Below w.heap.size w (wr.setCell ⟨w.heap.size, k, none⟩ (.int .u8 (at8 l k)))) := hbel.setCell (Nat.le_refl _) _
    clear hrow hbel
    by_cases hlt : k < s.size
    · have e8 : at8 l k = (s[k].toNat : Int) := by rw [HL.out, patL, at8_left _ _ _ (by rw [← Lib.size_eq]; exact hlt), at8_str s k hlt]
      rw [e8] at R B
      clear e8
      go_wp2_with fail
      go_roundw
      case rel => exact ⟨k + 1, by omega, by go_num, R.out, B.out⟩
      case measure => simp [intOf]; omega
    · have hk2 : k = s.size := by omega
      subst hk2
      have e8 : at8 l s.size = 61 := by rw [HL.out, patL, Lib.size_eq s, show s.data.toList.length = s.data.toList.length + 0 from rfl, at8_right]; rfl
      rw [e8] at R B
      clear e8
      go_wp2_with fail
      go_ret
      exact ⟨rfl, by rw [← HL.out]; exact IsB.row (by rw [HL.out, patL_length]) (part_full R.out), B.out⟩

set_option maxRecDepth 100000 in
set_option maxHeartbeats 1000000 in
/-- zzJoin. -/
theorem join_any (ax ay : Option Addr) (nx ny cx cy : Nat) (x y : List UInt8) (w : World) (hx : IsB w ax nx x) (hy : IsB w ay ny y) (bx : nx ≤ 1048576) (by_ : ny ≤ 1048576) :
    Calls Try.prog 32 #[.slice ax nx cx, .slice ay ny cy] w fun e w' => e = .returned (.slice (some ⟨w.heap.size, 0, none⟩) (nx + ny) (nx + ny)) ∧ IsB w' (some ⟨w.heap.size, 0, none⟩) (nx + ny) (x ++ y) ∧ Below w.heap.size w w' := by
  have hmk : ∀ w : World, (Instr.makeSlice 22 (.int .i64 ((nx : Int) + (ny : Int))) (.int .i64 ((nx : Int) + (ny : Int)))).run Try.prog w = .ok (.slice (some ⟨w.heap.size, 0, none⟩) (nx + ny) (nx + ny)) (w.alloc (.cells (madeCells #[.int .u8 0] (nx + ny)) 5)) := fun w => by
    have h := run_make_row' (P := Try.prog) 22 5 (.int .u8 0) 1 Try.underlying22 info5 rfl .i64 .i64 (nx + ny) (by omega) (by omega) w
    rwa [show ((nx + ny : Nat) : Int) = (nx : Int) + (ny : Int) by omega] at h
  obtain ⟨l, hl⟩ : ∃ l, l = x ++ y := ⟨_, rfl⟩
  have HL : Hid (l = x ++ y) := hl
  clear hl
  go_enter Try.func32, Try.ntmps32
  go_wp2_with fail
  go_loopw [6] (fun i wr => ∃ k : Nat, k ≤ nx ∧ i = .int .i64 k ∧ wr.rowIs w.heap.size 5 (nx + ny) (part l k) ∧ Below w.heap.size w wr) (fun i _ => nx - (intOf i).toNat)
  case atStart => exact ⟨0, Nat.zero_le _, rfl, part_start w l _, (Below.refl _ _).alloc (Nat.le_refl _) _⟩
  case round =>
    obtain ⟨k, hk, rfl, hrow, hbel⟩ := hrel
    clear hmk
    by_cases hlt : k < nx
    · obtain ⟨b, o, rfl, hb, hc⟩ := hx.cells (by omega)
      have hz : (k : Int) < (nx : Int) := by omega
      have e8 : at8 l k = at8 x k := by rw [HL.out, at8_left _ _ _ (by rw [hx.len]; exact hlt)]
      have g0 : wr.cell? ⟨b, o + k, none⟩ = some (.int .u8 (at8 l k)) := by rw [e8]; exact (hbel.cell (p := ⟨b, o + k, none⟩) hb).trans (hc k hlt)
      have g1 : wr.cell? ⟨w.heap.size, k, none⟩ = some (part l k k) := hrow.cell (by omega)
      have g2 : wr.frozen? ⟨w.heap.size, k, none⟩ = false := hrow.frozen k
      have hz2 : (k : Int) < (nx : Int) + (ny : Int) := by omega
      have R : Hid ((wr.setCell ⟨w.heap.size, k, none⟩ (.int .u8 (at8 l k))).rowIs w.heap.size 5 (nx + ny) (part l (k + 1))) := part_step hrow
      have B : Hid (Below w.heap.size w (wr.setCell ⟨w.heap.size, k, none⟩ (.int .u8 (at8 l k)))) := hbel.setCell (Nat.le_refl _) _
      clear hrow hbel e8 hc
      go_wp2_with fail
      go_roundw
      case rel => exact ⟨k + 1, by omega, by go_num, R.out, B.out⟩
      case measure => simp [intOf]; omega
    · have hk2 : k = nx := by omega
      subst hk2
      go_wp2_with fail
      go_loopw [7] (fun i wr => ∃ j : Nat, j ≤ ny ∧ i = .int .i64 j ∧ wr.rowIs w.heap.size 5 (k + ny) (part l (k + j)) ∧ Below w.heap.size w wr) (fun i _ => ny - (intOf i).toNat)
      case atStart => exact ⟨0, Nat.zero_le _, rfl, hrow, hbel⟩
      case round =>
        clear hrow hbel
        obtain ⟨j, hj, rfl, hrow, hbel⟩ := hrel
        by_cases hlt : j < ny
        · obtain ⟨b, o, rfl, hb, hc⟩ := hy.cells (by omega)
          have hz : (j : Int) < (ny : Int) := by omega
          have e8 : at8 l (k + j) = at8 y j := by rw [HL.out, ← hx.len, at8_right]
          have g0 : wr.cell? ⟨b, o + j, none⟩ = some (.int .u8 (at8 l (k + j))) := by rw [e8]; exact (hbel.cell (p := ⟨b, o + j, none⟩) hb).trans (hc j hlt)
          have g1 : wr.cell? ⟨w.heap.size, k + j, none⟩ = some (part l (k + j) (k + j)) := hrow.cell (by omega)
          have g2 : wr.frozen? ⟨w.heap.size, k + j, none⟩ = false := hrow.frozen _
          have hz2 : (k : Int) + (j : Int) < (k : Int) + (ny : Int) := by omega
          have R : Hid ((wr.setCell ⟨w.heap.size, k + j, none⟩ (.int .u8 (at8 l (k + j)))).rowIs w.heap.size 5 (k + ny) (part l (k + j + 1))) := part_step hrow
          have B : Hid (Below w.heap.size w (wr.setCell ⟨w.heap.size, k + j, none⟩ (.int .u8 (at8 l (k + j))))) := hbel.setCell (Nat.le_refl _) _
          clear hrow hbel e8 hc
          go_wp2_with fail
          go_roundw
          case rel => exact ⟨j + 1, by omega, by go_num, R.out, B.out⟩
          case measure => simp [intOf]; omega
        · have hj2 : j = ny := by omega
          subst hj2
          go_wp2_with fail
          go_ret
          exact ⟨rfl, by rw [← HL.out]; exact IsB.row (by rw [HL.out, List.length_append, hx.len, hy.len]) (part_full hrow), hbel⟩

end Go.Proofs.Qxb6604025a
