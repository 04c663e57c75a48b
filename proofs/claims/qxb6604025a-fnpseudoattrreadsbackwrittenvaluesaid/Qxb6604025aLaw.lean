/-
  Seat b6604025a: THE WALK OF THE LAW ITSELF, out of the contracts.
-/
import Derived.Test.Qxb6604025aPseudo
namespace Go.Proofs.Qxb6604025a
open Go.RowKit
set_option linter.unusedVariables false

set_option maxRecDepth 100000 in
set_option maxHeartbeats 1000000 in
theorem room_yes (a0 a1 : Option Addr) (n0 c0 n1 c1 : Nat) (s : ByteArray) (d : Bool) (w : World) (h : n0 + n1 + s.size ≤ 1048576) :
    Calls Try.prog 31 #[.slice a0 n0 c0, .slice a1 n1 c1, .string s, .bool d] w fun e w' => e = .returned (.bool true) ∧ w' = w := by
  go_enter Try.func31, Try.ntmps31
  go_wp2_with fail
  go_ret
  exact ⟨rfl, rfl⟩

set_option maxRecDepth 100000 in
set_option maxHeartbeats 1000000 in
theorem room_no (a0 a1 : Option Addr) (n0 c0 n1 c1 : Nat) (s : ByteArray) (d : Bool) (w : World) (h0 : n0 ≤ maxLen) (h1 : n1 ≤ maxLen) (h2 : s.size ≤ maxLen) (h : ¬ n0 + n1 + s.size ≤ 1048576) :
    Calls Try.prog 31 #[.slice a0 n0 c0, .slice a1 n1 c1, .string s, .bool d] w fun e w' => e = .returned (.bool false) ∧ w' = w := by
  unfold maxLen at h0 h1 h2
  by_cases k0 : n0 ≤ 1048576
  · by_cases k1 : n1 ≤ 1048576
    · by_cases k2 : n0 + n1 ≤ 1048576
      · by_cases k3 : s.size ≤ 1048576
        · go_enter Try.func31, Try.ntmps31
          go_wp2_with fail
          go_ret
          exact ⟨rfl, rfl⟩
        · go_enter Try.func31, Try.ntmps31
          go_wp2_with fail
          go_ret
          exact ⟨rfl, rfl⟩
      · go_enter Try.func31, Try.ntmps31
        go_wp2_with fail
        go_ret
        exact ⟨rfl, rfl⟩
    · go_enter Try.func31, Try.ntmps31
      go_wp2_with fail
      go_ret
      exact ⟨rfl, rfl⟩
  · go_enter Try.func31, Try.ntmps31
    go_wp2_with fail
    go_ret
    exact ⟨rfl, rfl⟩

set_option maxRecDepth 100000 in
set_option maxHeartbeats 1000000 in
theorem law_room (a0 a1 : Option Addr) (n0 c0 n1 c1 : Nat) (s : ByteArray) (d : Bool) (w : World) (h0 : n0 ≤ maxLen) (h1 : n1 ≤ maxLen) (h2 : s.size ≤ maxLen) (h : ¬ (n0 ≤ 65536 ∧ n1 ≤ 65536 ∧ s.size ≤ 4096)) :
    Calls Try.prog 8 #[.slice a0 n0 c0, .slice a1 n1 c1, .string s, .bool d] w fun e w' => e = .returned (.bool true) ∧ w' = w := by
  by_cases hr : n0 + n1 + s.size ≤ 1048576
  · have HR : Hid (∀ w, Calls Try.prog 31 #[.slice a0 n0 c0, .slice a1 n1 c1, .string s, .bool d] w fun e w' => e = .returned (.bool true) ∧ w' = w) := fun w => room_yes a0 a1 n0 c0 n1 c1 s d w hr
    unfold maxLen at h0 h1 h2
    by_cases k0 : n0 ≤ 65536
    · by_cases k1 : n1 ≤ 65536
      · have k2 : ¬ s.size ≤ 4096 := fun k2 => h ⟨k0, k1, k2⟩
        clear h
        go_enter Try.func8, Try.ntmps8
        go_wp2_with (go_at_call 31; refine (HR.out _).mono ?_; rintro e w' ⟨rfl, rfl⟩)
        go_ret
        exact ⟨rfl, rfl⟩
      · clear h
        go_enter Try.func8, Try.ntmps8
        go_wp2_with (go_at_call 31; refine (HR.out _).mono ?_; rintro e w' ⟨rfl, rfl⟩)
        go_ret
        exact ⟨rfl, rfl⟩
    · clear h
      go_enter Try.func8, Try.ntmps8
      go_wp2_with (go_at_call 31; refine (HR.out _).mono ?_; rintro e w' ⟨rfl, rfl⟩)
      go_ret
      exact ⟨rfl, rfl⟩
  · have HR : Hid (∀ w, Calls Try.prog 31 #[.slice a0 n0 c0, .slice a1 n1 c1, .string s, .bool d] w fun e w' => e = .returned (.bool false) ∧ w' = w) := fun w => room_no a0 a1 n0 c0 n1 c1 s d w h0 h1 h2 hr
    clear h
    go_enter Try.func8, Try.ntmps8
    go_wp2_with (go_at_call 31; refine (HR.out _).mono ?_; rintro e w' ⟨rfl, rfl⟩)
    go_ret
    exact ⟨rfl, rfl⟩

set_option maxRecDepth 100000 in
set_option maxHeartbeats 2000000 in
theorem law_dq (a0 a1 : Option Addr) (n0 c0 n1 c1 : Nat) (s : ByteArray) (A V : List UInt8) (m : Int) (w : World) (h0 : n0 ≤ 65536) (h1 : n1 ≤ 65536) (h2 : s.size ≤ 4096)
    (hA : IsB w a0 n0 A) (hV : IsB w a1 n1 V) (hm : w.cell? ⟨0, 0, none⟩ = some (.int .i64 m)) :
    Calls Try.prog 8 #[.slice a0 n0 c0, .slice a1 n1 c1, .string s, .bool true] w fun e w' => e = .returned (.bool true) ∧ Below w.heap.size w w' := by
  have HR : Hid (∀ w, Calls Try.prog 31 #[.slice a0 n0 c0, .slice a1 n1 c1, .string s, .bool true] w fun e w' => e = .returned (.bool true) ∧ w = w') := fun w => (room_yes a0 a1 n0 c0 n1 c1 s true w (by omega)).mono fun e w' h => ⟨h.1, h.2.symm⟩
  have HM : Hid (w.cell? ⟨0, 0, none⟩ = some (.int .i64 m)) := hm
  have hw0 : 0 < w.heap.size := World.block_lt_of_cell? _ _ hm
  clear hm
  go_enter Try.func8, Try.ntmps8
  go_wp2_with (go_at_call 31; refine (HR.out _).mono ?_; rintro e w' ⟨rfl, rfl⟩)
  refine (clone_any a0 n0 c0 A _ hA h0).mono ?_
  rintro e w1 ⟨b0, d0, rfl, hA1, hb1⟩
  go_wp2_with fail
  refine (clone_any a1 n1 c1 V _ (hV.below hb1) h1).mono ?_
  rintro e w2 ⟨b1, d1, rfl, hV2, hb2⟩
  have hA2 := hA1.below hb2
  clear hA1 hA hV
  go_wp2_with fail
  refine (param_any s _ h2).mono ?_
  rintro e w3 ⟨rfl, hP3, hb3⟩
  have hA3 := hA2.below hb3
  have hV3 := hV2.below hb3
  clear hA2 hV2
  go_wp2_with fail
  refine (join_any _ _ _ _ _ _ A (patL s) _ hA3 hP3 (by omega) (by omega)).mono ?_
  rintro e w4 ⟨rfl, hH4, hb4⟩
  have hA4 := hA3.below hb4
  have hV4 := hV3.below hb4
  have hP4 := hP3.below hb4
  clear hA3 hV3 hP3
  have hb : Below w.heap.size w w4 := ((hb1.trans (hb2.mono hb1.size)).trans (hb3.mono (Nat.le_trans hb1.size hb2.size))).trans (hb4.mono (Nat.le_trans hb1.size (Nat.le_trans hb2.size hb3.size)))
  clear hb1 hb2 hb3 hb4
  obtain ⟨z, hz⟩ : ∃ z, z = Lib.index (A ++ patL s) (patL s) := ⟨_, rfl⟩
  obtain ⟨y, hy⟩ : ∃ y, y = Lib.indexByte V 34 := ⟨_, rfl⟩
  go_wp2_with fail
  refine (firstMatch_any _ _ _ _ _ _ (A ++ patL s) (patL s) _ hH4 hP4 (by omega) (by omega)).mono ?_
  rintro e w5 ⟨rfl, q1, rfl⟩
  rw [← hz]
  by_cases hi : z = (n0 : Int)
  · have HZ : Hid (Lib.index (A ++ patL s) (patL s) = (A.length : Int)) := by show _ = _; rw [← hz, hi, hA4.len]
    have ht : (z != (n0 : Int)) = false := by rw [hi]; simp
    clear hz hi hP4
    go_wp2_with fail
    refine (firstByte_any _ _ _ V 34 _ (hV4.below (below_draws _ _ _)) (by omega)).mono ?_
    rintro e w6 ⟨rfl, rfl⟩
    rw [← hy]
    by_cases hj : 0 ≤ y
    · clear hy
      go_wp2_with fail
      go_ret
      exact ⟨rfl, hb.trans (below_draws _ _ _)⟩
    · have HY : Hid (Lib.indexByte V 34 = -1) := by show _ = _; have := Lib.indexByte_ge V 34; rw [← hy] at this ⊢; omega
      clear hy
      have hQ : IsB ((w4.drewN q1).alloc (.cells #[.int .u8 34] 5)) (some ⟨w4.heap.size, 0, none⟩) 1 [34] := IsB.row (n := 1) rfl (World.rowIs_alloc (w4.drewN q1) #[.int .u8 34] 5 (fun i => .int .u8 (at8 [34] i)) (fun i hi => by
        have e : i = 0 := by simpa using hi
        subst e; rfl))
      have hb5 : Below w4.heap.size w4 ((w4.drewN q1).alloc (.cells #[.int .u8 34] 5)) := (below_draws _ _ _).alloc (Nat.le_refl _) _
      have hH5 := hH4.below hb5
      have hV5 := hV4.below hb5
      have hb6 := hb.trans (hb5.mono hb.size)
      clear hH4 hV4 hb hb5 hA4
      go_wp2_with fail
      refine (join_any _ _ _ _ _ _ (A ++ patL s) [34] _ hH5 hQ (by omega) (by omega)).mono ?_
      rintro e w6 ⟨rfl, hX6, hc6⟩
      rw [show ((w4.drewN q1).alloc (.cells #[.int .u8 34] 5)).heap.size = w4.heap.size + 1 from by simp] at hX6
      have hV6 := hV5.below hc6
      have hQ6 := hQ.below hc6
      have hb7 := hb6.trans (hc6.mono hb6.size)
      clear hV5 hQ hH5 hb6 hc6
      go_wp2_with fail
      refine (join_any _ _ _ _ _ _ V [34] _ hV6 hQ6 (by omega) (by omega)).mono ?_
      rintro e w7 ⟨rfl, hY7, hc7⟩
      have hX7 := hX6.below hc7
      have hV7 := hV6.below hc7
      have hb8 := hb7.trans (hc7.mono hb7.size)
      clear hX6 hV6 hQ6 hb7 hc7
      go_wp2_with fail
      refine (join_any _ _ _ _ _ _ (A ++ patL s ++ [34]) (V ++ [34]) _ hX7 hY7 (by omega) (by omega)).mono ?_
      rintro e w8 ⟨rfl, hI8, hc8⟩
      have hV8 := hV7.below hc8
      have hb9 := hb8.trans (hc8.mono hb8.size)
      clear hX7 hY7 hV7 hb8 hc8
      rw [List.append_assoc (A ++ patL s)] at hI8
      have hm8 : w8.cell? ⟨0, 0, none⟩ = some (.int .i64 m) := (hb9.cell (p := ⟨0, 0, none⟩) hw0).trans HM.out
      obtain ⟨v, hv⟩ : ∃ v : ByteArray, v = ⟨V.toArray⟩ := ⟨_, rfl⟩
      have hcv : ∀ q, (convert 22 9 (.slice b1 n1 d1)).run Try.prog (w8.drewN q) = .ok (.string v) (w8.drewN q) := fun q => by rw [hv]; exact conv_any b1 n1 d1 V _ (hV8.below (below_draws _ _ _))
      have hcv0 : (convert 22 9 (.slice b1 n1 d1)).run Try.prog w8 = .ok (.string v) w8 := hcv 0
      have HP : Hid (∀ q, Calls Try.prog 25 #[.slice (some ⟨w7.heap.size, 0, none⟩) (n0 + (s.size + 1) + 1 + (n1 + 1)) (n0 + (s.size + 1) + 1 + (n1 + 1)), .string s] (w8.drewN q) fun e w' => e = .returned (.string v) ∧ ∃ q', w' = (w8.drewN q).drewN q') := fun q => by
        rw [hv]
        exact zzPseudo_any _ _ _ A V s 34 m (w8.drewN q) (by decide) hm8 (hI8.below (below_draws _ _ _)) HZ.out HY.out (by omega) h2
      clear hv hV8 hI8 hm8
      go_wp2_with fail
      go_quiet ((go_at_call 25; exact Calls.quiet_of (HP.out _)))
      go_wp2_with fail
      go_ret
      exact ⟨rfl, hb9.trans (below_draws _ _ _)⟩
  · have ht : (z != (n0 : Int)) = true := by simpa using hi
    clear hz hi
    go_wp2_with fail
    go_ret
    exact ⟨rfl, hb.trans (below_draws _ _ _)⟩


set_option maxRecDepth 100000 in
set_option maxHeartbeats 2000000 in
theorem law_sq (a0 a1 : Option Addr) (n0 c0 n1 c1 : Nat) (s : ByteArray) (A V : List UInt8) (m : Int) (w : World) (h0 : n0 ≤ 65536) (h1 : n1 ≤ 65536) (h2 : s.size ≤ 4096)
    (hA : IsB w a0 n0 A) (hV : IsB w a1 n1 V) (hm : w.cell? ⟨0, 0, none⟩ = some (.int .i64 m)) :
    Calls Try.prog 8 #[.slice a0 n0 c0, .slice a1 n1 c1, .string s, .bool false] w fun e w' => e = .returned (.bool true) ∧ Below w.heap.size w w' := by
  have HR : Hid (∀ w, Calls Try.prog 31 #[.slice a0 n0 c0, .slice a1 n1 c1, .string s, .bool false] w fun e w' => e = .returned (.bool true) ∧ w = w') := fun w => (room_yes a0 a1 n0 c0 n1 c1 s false w (by omega)).mono fun e w' h => ⟨h.1, h.2.symm⟩
  have HM : Hid (w.cell? ⟨0, 0, none⟩ = some (.int .i64 m)) := hm
  have hw0 : 0 < w.heap.size := World.block_lt_of_cell? _ _ hm
  clear hm
  go_enter Try.func8, Try.ntmps8
  go_wp2_with (go_at_call 31; refine (HR.out _).mono ?_; rintro e w' ⟨rfl, rfl⟩)
  refine (clone_any a0 n0 c0 A _ hA h0).mono ?_
  rintro e w1 ⟨b0, d0, rfl, hA1, hb1⟩
  go_wp2_with fail
  refine (clone_any a1 n1 c1 V _ (hV.below hb1) h1).mono ?_
  rintro e w2 ⟨b1, d1, rfl, hV2, hb2⟩
  have hA2 := hA1.below hb2
  clear hA1 hA hV
  go_wp2_with fail
  refine (param_any s _ h2).mono ?_
  rintro e w3 ⟨rfl, hP3, hb3⟩
  have hA3 := hA2.below hb3
  have hV3 := hV2.below hb3
  clear hA2 hV2
  go_wp2_with fail
  refine (join_any _ _ _ _ _ _ A (patL s) _ hA3 hP3 (by omega) (by omega)).mono ?_
  rintro e w4 ⟨rfl, hH4, hb4⟩
  have hA4 := hA3.below hb4
  have hV4 := hV3.below hb4
  have hP4 := hP3.below hb4
  clear hA3 hV3 hP3
  have hb : Below w.heap.size w w4 := ((hb1.trans (hb2.mono hb1.size)).trans (hb3.mono (Nat.le_trans hb1.size hb2.size))).trans (hb4.mono (Nat.le_trans hb1.size (Nat.le_trans hb2.size hb3.size)))
  clear hb1 hb2 hb3 hb4
  obtain ⟨z, hz⟩ : ∃ z, z = Lib.index (A ++ patL s) (patL s) := ⟨_, rfl⟩
  obtain ⟨y, hy⟩ : ∃ y, y = Lib.indexByte V 39 := ⟨_, rfl⟩
  go_wp2_with fail
  refine (firstMatch_any _ _ _ _ _ _ (A ++ patL s) (patL s) _ hH4 hP4 (by omega) (by omega)).mono ?_
  rintro e w5 ⟨rfl, q1, rfl⟩
  rw [← hz]
  by_cases hi : z = (n0 : Int)
  · have HZ : Hid (Lib.index (A ++ patL s) (patL s) = (A.length : Int)) := by show _ = _; rw [← hz, hi, hA4.len]
    have ht : (z != (n0 : Int)) = false := by rw [hi]; simp
    clear hz hi hP4
    go_wp2_with fail
    refine (firstByte_any _ _ _ V 39 _ (hV4.below (below_draws _ _ _)) (by omega)).mono ?_
    rintro e w6 ⟨rfl, rfl⟩
    rw [← hy]
    by_cases hj : 0 ≤ y
    · clear hy
      go_wp2_with fail
      go_ret
      exact ⟨rfl, hb.trans (below_draws _ _ _)⟩
    · have HY : Hid (Lib.indexByte V 39 = -1) := by show _ = _; have := Lib.indexByte_ge V 39; rw [← hy] at this ⊢; omega
      clear hy
      have hQ : IsB ((w4.drewN q1).alloc (.cells #[.int .u8 39] 5)) (some ⟨w4.heap.size, 0, none⟩) 1 [39] := IsB.row (n := 1) rfl (World.rowIs_alloc (w4.drewN q1) #[.int .u8 39] 5 (fun i => .int .u8 (at8 [39] i)) (fun i hi => by
        have e : i = 0 := by simpa using hi
        subst e; rfl))
      have hb5 : Below w4.heap.size w4 ((w4.drewN q1).alloc (.cells #[.int .u8 39] 5)) := (below_draws _ _ _).alloc (Nat.le_refl _) _
      have hH5 := hH4.below hb5
      have hV5 := hV4.below hb5
      have hb6 := hb.trans (hb5.mono hb.size)
      clear hH4 hV4 hb hb5 hA4
      go_wp2_with fail
      refine (join_any _ _ _ _ _ _ (A ++ patL s) [39] _ hH5 hQ (by omega) (by omega)).mono ?_
      rintro e w6 ⟨rfl, hX6, hc6⟩
      rw [show ((w4.drewN q1).alloc (.cells #[.int .u8 39] 5)).heap.size = w4.heap.size + 1 from by simp] at hX6
      have hV6 := hV5.below hc6
      have hQ6 := hQ.below hc6
      have hb7 := hb6.trans (hc6.mono hb6.size)
      clear hV5 hQ hH5 hb6 hc6
      go_wp2_with fail
      refine (join_any _ _ _ _ _ _ V [39] _ hV6 hQ6 (by omega) (by omega)).mono ?_
      rintro e w7 ⟨rfl, hY7, hc7⟩
      have hX7 := hX6.below hc7
      have hV7 := hV6.below hc7
      have hb8 := hb7.trans (hc7.mono hb7.size)
      clear hX6 hV6 hQ6 hb7 hc7
      go_wp2_with fail
      refine (join_any _ _ _ _ _ _ (A ++ patL s ++ [39]) (V ++ [39]) _ hX7 hY7 (by omega) (by omega)).mono ?_
      rintro e w8 ⟨rfl, hI8, hc8⟩
      have hV8 := hV7.below hc8
      have hb9 := hb8.trans (hc8.mono hb8.size)
      clear hX7 hY7 hV7 hb8 hc8
      rw [List.append_assoc (A ++ patL s)] at hI8
      have hm8 : w8.cell? ⟨0, 0, none⟩ = some (.int .i64 m) := (hb9.cell (p := ⟨0, 0, none⟩) hw0).trans HM.out
      obtain ⟨v, hv⟩ : ∃ v : ByteArray, v = ⟨V.toArray⟩ := ⟨_, rfl⟩
      have hcv : ∀ q, (convert 22 9 (.slice b1 n1 d1)).run Try.prog (w8.drewN q) = .ok (.string v) (w8.drewN q) := fun q => by rw [hv]; exact conv_any b1 n1 d1 V _ (hV8.below (below_draws _ _ _))
      have hcv0 : (convert 22 9 (.slice b1 n1 d1)).run Try.prog w8 = .ok (.string v) w8 := hcv 0
      have HP : Hid (∀ q, Calls Try.prog 25 #[.slice (some ⟨w7.heap.size, 0, none⟩) (n0 + (s.size + 1) + 1 + (n1 + 1)) (n0 + (s.size + 1) + 1 + (n1 + 1)), .string s] (w8.drewN q) fun e w' => e = .returned (.string v) ∧ ∃ q', w' = (w8.drewN q).drewN q') := fun q => by
        rw [hv]
        exact zzPseudo_any _ _ _ A V s 39 m (w8.drewN q) (by decide) hm8 (hI8.below (below_draws _ _ _)) HZ.out HY.out (by omega) h2
      clear hv hV8 hI8 hm8
      go_wp2_with fail
      go_quiet ((go_at_call 25; exact Calls.quiet_of (HP.out _)))
      go_wp2_with fail
      go_ret
      exact ⟨rfl, hb9.trans (below_draws _ _ _)⟩
  · have ht : (z != (n0 : Int)) = true := by simpa using hi
    clear hz hi
    go_wp2_with fail
    go_ret
    exact ⟨rfl, hb.trans (below_draws _ _ _)⟩


/-- Both quotes. -/
theorem law_any (a0 a1 : Option Addr) (n0 c0 n1 c1 : Nat) (s : ByteArray) (d : Bool) (A V : List UInt8) (m : Int) (w : World) (h0 : n0 ≤ maxLen) (h1 : n1 ≤ maxLen) (h2 : s.size ≤ maxLen)
    (hA : IsB w a0 n0 A) (hV : IsB w a1 n1 V) (hm : w.cell? ⟨0, 0, none⟩ = some (.int .i64 m)) :
    Calls Try.prog 8 #[.slice a0 n0 c0, .slice a1 n1 c1, .string s, .bool d] w fun e w' => e = .returned (.bool true) ∧ Below w.heap.size w w' := by
  by_cases h : n0 ≤ 65536 ∧ n1 ≤ 65536 ∧ s.size ≤ 4096
  · obtain ⟨k0, k1, k2⟩ := h
    cases d
    · exact law_sq a0 a1 n0 c0 n1 c1 s A V m w k0 k1 k2 hA hV hm
    · exact law_dq a0 a1 n0 c0 n1 c1 s A V m w k0 k1 k2 hA hV hm
  · refine (law_room a0 a1 n0 c0 n1 c1 s d w h0 h1 h2 h).mono ?_
    rintro e w' ⟨rfl, rfl⟩
    exact ⟨rfl, Below.refl _ _⟩

end Go.Proofs.Qxb6604025a
