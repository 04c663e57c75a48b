/-
  Seat b6604177a: the law 'a canonical path, read as a pattern, matches itself'.
-/
import Derived.Test.Qxb6604177aPath
namespace Go.Proofs.Qxb6604177a
open Go.RowKit
set_option linter.unusedVariables false

set_option maxRecDepth 100000 in
set_option maxHeartbeats 1000000 in
theorem room27_yes (x : ByteArray) (w : World) (h : x.size ≤ 1048576) :
    Calls Try.prog 27 #[.string x] w fun e w' => e = .returned (.bool true) ∧ w = w' := by
  go_enter Try.func27, Try.ntmps27
  go_wp2_with fail
  go_ret
  exact ⟨rfl, rfl⟩

set_option maxRecDepth 100000 in
set_option maxHeartbeats 1000000 in
theorem room27_no (x : ByteArray) (w : World) (h0 : x.size ≤ maxLen) (h : ¬ x.size ≤ 1048576) :
    Calls Try.prog 27 #[.string x] w fun e w' => e = .returned (.bool false) ∧ w = w' := by
  unfold maxLen at h0
  go_enter Try.func27, Try.ntmps27
  go_wp2_with fail
  go_ret
  exact ⟨rfl, rfl⟩

set_option maxRecDepth 100000 in
set_option maxHeartbeats 1000000 in
theorem itself_any (a : ByteArray) (m : Int) (w : World) (h0 : a.size ≤ maxLen) (hm : w.cell? ⟨0, 0, none⟩ = some (.int .i64 m)) :
    Calls Try.prog 9 #[.string a] w fun e w' => e = .returned (.bool true) ∧ Below w.heap.size w w' := by
  by_cases hr : a.size ≤ 1048576
  · have HR : Hid (∀ w, Calls Try.prog 27 #[.string a] w fun e w' => e = .returned (.bool true) ∧ w = w') := fun w => room27_yes a w hr
    clear h0
    have HM : Hid (w.cell? ⟨0, 0, none⟩ = some (.int .i64 m)) := hm
    clear hm
    by_cases k0 : a.size ≤ 4096
    · have HN : Hid (∀ w, Calls Try.prog 22 #[.string a] w fun e w' => SaysIf (canP a.data.toList) true w e w') := fun w => canonical_any a w (by omega)
      go_enter Try.func9, Try.ntmps9
      go_wp2_with (go_at_call 27; refine (HR.out _).mono ?_; rintro e w' ⟨rfl, rfl⟩)
      refine (HN.out _).mono ?_
      rintro e w' ⟨r, rfl, rfl, hc⟩
      cases r with
      | false =>
        clear hc
        go_wp2_with fail
        go_ret
        exact ⟨rfl, Below.refl _ _⟩
      | true =>
        obtain ⟨S, hS, eS⟩ := can_segs _ a.data.toList (Nat.le_refl _) (hc rfl)
        have HP : Hid (∀ _ : Unit, Calls Try.prog 23 #[.string a, .string a] w fun e w' => e = .returned (.bool true) ∧ ∃ q, w' = w.drewN q) := fun _ => by
          rw [← mpS_self S]
          exact zzPattern_any a a S S hS hS eS.symm eS.symm m w (by omega) (by omega) HM.out
        clear hc hS eS
        go_wp2_with (go_at_call 23; refine (HP.out ()).mono ?_; rintro e w' ⟨rfl, q, rfl⟩)
        go_ret
        exact ⟨rfl, below_draws _ _ _⟩
    · go_enter Try.func9, Try.ntmps9
      go_wp2_with (go_at_call 27; refine (HR.out _).mono ?_; rintro e w' ⟨rfl, rfl⟩)
      go_ret
      exact ⟨rfl, Below.refl _ _⟩
  · have HR : Hid (∀ w, Calls Try.prog 27 #[.string a] w fun e w' => e = .returned (.bool false) ∧ w = w') := fun w => room27_no a w h0 hr
    clear hm
    go_enter Try.func9, Try.ntmps9
    go_wp2_with (go_at_call 27; refine (HR.out _).mono ?_; rintro e w' ⟨rfl, rfl⟩)
    go_ret
    exact ⟨rfl, Below.refl _ _⟩

end Go.Proofs.Qxb6604177a
