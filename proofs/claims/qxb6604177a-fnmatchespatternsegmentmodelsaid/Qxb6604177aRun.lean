/-
  Seat b6604177a: the law 'a * takes in any run'.
-/
import Derived.Test.Qxb6604177aSeg
import Derived.Below
namespace Go.Proofs.Qxb6604177a
open Go.RowKit
set_option linter.unusedVariables false

theorem below_draws (B : Nat) (w : World) (n : Nat) : Below B w (w.drewN n) := ⟨rfl, rfl, rfl, Nat.le_refl _, fun _ _ => rfl⟩
theorem app_data (a b : ByteArray) : (a ++ b).data.toList = a.data.toList ++ b.data.toList := by simp

set_option maxRecDepth 100000 in
set_option maxHeartbeats 1000000 in
/-- ZZMatchesSegment. -/
theorem zzSegment_any (seg pat : ByteArray) (m : Int) (w : World) (h0 : seg.size ≤ 4194304) (h1 : pat.size ≤ 4194304) (hm : w.cell? ⟨0, 0, none⟩ = some (.int .i64 m)) :
    Calls Try.prog 18 #[.string seg, .string pat] w fun e w' => e = .returned (.bool (glob pat.data.toList seg.data.toList)) ∧ ∃ q, w' = w.drewN q := by
  obtain ⟨G, hG⟩ : ∃ G, G = glob pat.data.toList seg.data.toList := ⟨_, rfl⟩
  have HS : Hid (∀ _ : Unit, Calls Try.prog 29 #[.string seg, .string pat] w fun e w' => e = .returned (.bool G) ∧ ∃ q, w' = w.drewN q) := fun _ => by rw [hG]; exact matchesSegment_any seg pat m w h0 h1 hm
  rw [← hG]
  clear hG hm
  go_enter Try.func18, Try.ntmps18
  go_wp2_with (go_at_call 29; refine (HS.out ()).mono ?_; rintro e w' ⟨rfl, q, rfl⟩)
  go_ret
  exact ⟨rfl, _, rfl⟩

set_option maxRecDepth 100000 in
set_option maxHeartbeats 1000000 in
theorem room3_yes (x y z : ByteArray) (w : World) (h : x.size + y.size + z.size ≤ 1048576) :
    Calls Try.prog 20 #[.string x, .string y, .string z] w fun e w' => e = .returned (.bool true) ∧ w = w' := by
  go_enter Try.func20, Try.ntmps20
  go_wp2_with fail
  go_ret
  exact ⟨rfl, rfl⟩

set_option maxRecDepth 100000 in
set_option maxHeartbeats 1000000 in
theorem room3_no (x y z : ByteArray) (w : World) (h0 : x.size ≤ maxLen) (h1 : y.size ≤ maxLen) (h2 : z.size ≤ maxLen) (h : ¬ x.size + y.size + z.size ≤ 1048576) :
    Calls Try.prog 20 #[.string x, .string y, .string z] w fun e w' => e = .returned (.bool false) ∧ w = w' := by
  unfold maxLen at h0 h1 h2
  by_cases k0 : x.size ≤ 1048576
  · by_cases k1 : y.size ≤ 1048576
    · by_cases k2 : x.size + y.size ≤ 1048576
      · by_cases k3 : z.size ≤ 1048576
        · go_enter Try.func20, Try.ntmps20
          go_wp2_with fail
          go_ret
          exact ⟨rfl, rfl⟩
        · go_enter Try.func20, Try.ntmps20
          go_wp2_with fail
          go_ret
          exact ⟨rfl, rfl⟩
      · go_enter Try.func20, Try.ntmps20
        go_wp2_with fail
        go_ret
        exact ⟨rfl, rfl⟩
    · go_enter Try.func20, Try.ntmps20
      go_wp2_with fail
      go_ret
      exact ⟨rfl, rfl⟩
  · go_enter Try.func20, Try.ntmps20
    go_wp2_with fail
    go_ret
    exact ⟨rfl, rfl⟩

set_option maxRecDepth 100000 in
set_option maxHeartbeats 1000000 in
theorem run_any (a x b : ByteArray) (m : Int) (w : World) (h0 : a.size ≤ maxLen) (h1 : x.size ≤ maxLen) (h2 : b.size ≤ maxLen) (hm : w.cell? ⟨0, 0, none⟩ = some (.int .i64 m)) :
    Calls Try.prog 6 #[.string a, .string x, .string b] w fun e w' => e = .returned (.bool true) ∧ Below w.heap.size w w' := by
  by_cases hr : a.size + x.size + b.size ≤ 1048576
  · have HR : Hid (∀ w, Calls Try.prog 20 #[.string a, .string x, .string b] w fun e w' => e = .returned (.bool true) ∧ w = w') := fun w => room3_yes a x b w hr
    clear h0 h1 h2
    by_cases k0 : a.size ≤ 4096
    · by_cases k1 : x.size ≤ 4096
      · by_cases k2 : b.size ≤ 4096
        · have e42 : (⟨#[42]⟩ : ByteArray).size = 1 := rfl
          have HS : Hid (∀ _ : Unit, Calls Try.prog 18 #[.string (a ++ x ++ b), .string (a ++ ⟨#[42]⟩ ++ b)] w fun e w' => e = .returned (.bool true) ∧ ∃ q, w' = w.drewN q) := fun _ => by
            have e : glob (a ++ ⟨#[42]⟩ ++ b).data.toList (a ++ x ++ b).data.toList = true := by
              rw [app_data, app_data, app_data, app_data, List.append_assoc, List.append_assoc]
              exact glob_run a.data.toList x.data.toList b.data.toList
            rw [← e]
            exact zzSegment_any _ _ m w (by rw [ByteArray.size_append, ByteArray.size_append]; omega) (by rw [ByteArray.size_append, ByteArray.size_append, e42]; omega) hm
          clear hm e42
          go_enter Try.func6, Try.ntmps6
          go_wp2_with (first
            | (go_at_call 20; refine (HR.out _).mono ?_; rintro e w' ⟨rfl, rfl⟩)
            | (go_at_call 18; refine (HS.out ()).mono ?_; rintro e w' ⟨rfl, q, rfl⟩))
          go_ret
          exact ⟨rfl, below_draws _ _ _⟩
        · clear hm
          go_enter Try.func6, Try.ntmps6
          go_wp2_with (go_at_call 20; refine (HR.out _).mono ?_; rintro e w' ⟨rfl, rfl⟩)
          go_ret
          exact ⟨rfl, Below.refl _ _⟩
      · clear hm
        go_enter Try.func6, Try.ntmps6
        go_wp2_with (go_at_call 20; refine (HR.out _).mono ?_; rintro e w' ⟨rfl, rfl⟩)
        go_ret
        exact ⟨rfl, Below.refl _ _⟩
    · clear hm
      go_enter Try.func6, Try.ntmps6
      go_wp2_with (go_at_call 20; refine (HR.out _).mono ?_; rintro e w' ⟨rfl, rfl⟩)
      go_ret
      exact ⟨rfl, Below.refl _ _⟩
  · have HR : Hid (∀ w, Calls Try.prog 20 #[.string a, .string x, .string b] w fun e w' => e = .returned (.bool false) ∧ w = w') := fun w => room3_no a x b w h0 h1 h2 hr
    clear hm
    go_enter Try.func6, Try.ntmps6
    go_wp2_with (go_at_call 20; refine (HR.out _).mono ?_; rintro e w' ⟨rfl, rfl⟩)
    go_ret
    exact ⟨rfl, Below.refl _ _⟩

end Go.Proofs.Qxb6604177a
