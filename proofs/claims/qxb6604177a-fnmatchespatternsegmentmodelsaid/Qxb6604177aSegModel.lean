/-
  Seat b6604177a: the law 'matchesPattern agrees with the table over segments'.
-/
import Derived.Test.Qxb6604177aModel
namespace Go.Proofs.Qxb6604177a
open Go.RowKit
set_option linter.unusedVariables false

set_option maxRecDepth 100000 in
set_option maxHeartbeats 1000000 in
theorem room21_yes (x y : ByteArray) (w : World) (h : x.size + y.size ≤ 1048576) :
    Calls Try.prog 21 #[.string x, .string y] w fun e w' => e = .returned (.bool true) ∧ w = w' := by
  go_enter Try.func21, Try.ntmps21
  go_wp2_with fail
  go_ret
  exact ⟨rfl, rfl⟩

set_option maxRecDepth 100000 in
set_option maxHeartbeats 1000000 in
theorem room21_no (x y : ByteArray) (w : World) (h0 : x.size ≤ maxLen) (h1 : y.size ≤ maxLen) (h : ¬ x.size + y.size ≤ 1048576) :
    Calls Try.prog 21 #[.string x, .string y] w fun e w' => e = .returned (.bool false) ∧ w = w' := by
  unfold maxLen at h0 h1
  by_cases k0 : x.size ≤ 1048576
  · by_cases k1 : y.size ≤ 1048576
    · go_enter Try.func21, Try.ntmps21
      go_wp2_with fail
      go_ret
      exact ⟨rfl, rfl⟩
    · go_enter Try.func21, Try.ntmps21
      go_wp2_with fail
      go_ret
      exact ⟨rfl, rfl⟩
  · go_enter Try.func21, Try.ntmps21
    go_wp2_with fail
    go_ret
    exact ⟨rfl, rfl⟩

set_option maxRecDepth 100000 in
set_option maxHeartbeats 1000000 in
theorem segmodel_any (a b : ByteArray) (m : Int) (w : World) (h0 : a.size ≤ maxLen) (h1 : b.size ≤ maxLen) (hm : w.cell? ⟨0, 0, none⟩ = some (.int .i64 m)) :
    Calls Try.prog 7 #[.string a, .string b] w fun e w' => e = .returned (.bool true) ∧ Below w.heap.size w w' := by
  by_cases hr : a.size + b.size ≤ 1048576
  · have HR : Hid (∀ w, Calls Try.prog 21 #[.string a, .string b] w fun e w' => e = .returned (.bool true) ∧ w = w') := fun w => room21_yes a b w hr
    clear h0 h1
    have HM : Hid (w.cell? ⟨0, 0, none⟩ = some (.int .i64 m)) := hm
    clear hm
    by_cases k0 : a.size ≤ 4096
    · by_cases k1 : b.size ≤ 4096
      · have HN : Hid (∀ w, Calls Try.prog 22 #[.string a] w fun e w' => SaysIf (canP a.data.toList) true w e w') := fun w => canonical_any a w (by omega)
        have HN2 : Hid (∀ w, Calls Try.prog 22 #[.string b] w fun e w' => SaysIf (canP b.data.toList) true w e w') := fun w => canonical_any b w (by omega)
        go_enter Try.func7, Try.ntmps7
        go_wp2_with (go_at_call 21; refine (HR.out _).mono ?_; rintro e w' ⟨rfl, rfl⟩)
        refine (HN.out _).mono ?_
        rintro e w' ⟨r, rfl, rfl, hc⟩
        cases r with
        | false =>
          clear hc
          go_wp2_with fail
          go_ret
          exact ⟨rfl, Below.refl _ _⟩
        | true =>
          have HC : Hid (canP a.data.toList) := hc rfl
          clear hc
          go_wp2_with fail
          refine (HN2.out _).mono ?_
          rintro e w' ⟨r, rfl, rfl, hc⟩
          cases r with
          | false =>
            clear hc
            go_wp2_with fail
            go_ret
            exact ⟨rfl, Below.refl _ _⟩
          | true =>
            obtain ⟨S, hS, eS⟩ := can_segs _ a.data.toList (Nat.le_refl _) HC.out
            obtain ⟨P, hP, eP⟩ := can_segs _ b.data.toList (Nat.le_refl _) (hc rfl)
            obtain ⟨G, hG⟩ : ∃ G, G = mpS P S := ⟨_, rfl⟩
            have HP : Hid (∀ _ : Unit, Calls Try.prog 23 #[.string a, .string b] w fun e w' => e = .returned (.bool G) ∧ ∃ q, w' = w.drewN q) := fun _ => by
              rw [hG]
              exact zzPattern_any a b P S hP hS eP.symm eS.symm m w (by omega) (by omega) HM.out
            have HQ : Hid (∀ q, Calls Try.prog 24 #[.string a, .string b] (w.drewN q) fun e w' => e = .returned (.bool G) ∧ Below w.heap.size (w.drewN q) w') := fun q => by
              rw [hG]
              exact pattern_any a b P S hP hS eP.symm eS.symm m (w.drewN q) k0 k1 HM.out
            clear hc hS eS hP eP hG HC
            go_wp2_with (first
              | (go_at_call 23; refine (HP.out ()).mono ?_; rintro e w' ⟨rfl, q, rfl⟩)
              | (go_at_call 24; refine (HQ.out q).mono ?_; rintro e w' ⟨rfl, hb⟩))
            go_ret
            exact ⟨by simp, (below_draws _ w q).trans hb⟩
      · go_enter Try.func7, Try.ntmps7
        go_wp2_with (go_at_call 21; refine (HR.out _).mono ?_; rintro e w' ⟨rfl, rfl⟩)
        go_ret
        exact ⟨rfl, Below.refl _ _⟩
    · go_enter Try.func7, Try.ntmps7
      go_wp2_with (go_at_call 21; refine (HR.out _).mono ?_; rintro e w' ⟨rfl, rfl⟩)
      go_ret
      exact ⟨rfl, Below.refl _ _⟩
  · have HR : Hid (∀ w, Calls Try.prog 21 #[.string a, .string b] w fun e w' => e = .returned (.bool false) ∧ w = w') := fun w => room21_no a b w h0 h1 hr
    clear hm
    go_enter Try.func7, Try.ntmps7
    go_wp2_with (go_at_call 21; refine (HR.out _).mono ?_; rintro e w' ⟨rfl, rfl⟩)
    go_ret
    exact ⟨rfl, Below.refl _ _⟩

end Go.Proofs.Qxb6604177a
