/-
  Seat b6604177a: the law 'a canonical pattern without * matches a canonical path exactly when the two are one'.
-/
import Derived.Test.Qxb6604177aPath
namespace Go.Proofs.Qxb6604177a
open Go.RowKit
set_option linter.unusedVariables false

set_option maxRecDepth 100000 in
set_option maxHeartbeats 1000000 in
theorem room25_yes (x y : ByteArray) (w : World) (h : x.size + y.size ≤ 1048576) :
    Calls Try.prog 25 #[.string x, .string y] w fun e w' => e = .returned (.bool true) ∧ w = w' := by
  go_enter Try.func25, Try.ntmps25
  go_wp2_with fail
  go_ret
  exact ⟨rfl, rfl⟩

set_option maxRecDepth 100000 in
set_option maxHeartbeats 1000000 in
theorem room25_no (x y : ByteArray) (w : World) (h0 : x.size ≤ maxLen) (h1 : y.size ≤ maxLen) (h : ¬ x.size + y.size ≤ 1048576) :
    Calls Try.prog 25 #[.string x, .string y] w fun e w' => e = .returned (.bool false) ∧ w = w' := by
  unfold maxLen at h0 h1
  by_cases k0 : x.size ≤ 1048576
  · by_cases k1 : y.size ≤ 1048576
    · go_enter Try.func25, Try.ntmps25
      go_wp2_with fail
      go_ret
      exact ⟨rfl, rfl⟩
    · go_enter Try.func25, Try.ntmps25
      go_wp2_with fail
      go_ret
      exact ⟨rfl, rfl⟩
  · go_enter Try.func25, Try.ntmps25
    go_wp2_with fail
    go_ret
    exact ⟨rfl, rfl⟩

set_option maxRecDepth 100000 in
set_option maxHeartbeats 1000000 in
theorem literal_any (a b : ByteArray) (m : Int) (w : World) (h0 : a.size ≤ maxLen) (h1 : b.size ≤ maxLen) (hm : w.cell? ⟨0, 0, none⟩ = some (.int .i64 m)) :
    Calls Try.prog 8 #[.string a, .string b] w fun e w' => e = .returned (.bool true) ∧ Below w.heap.size w w' := by
  by_cases hr : a.size + b.size ≤ 1048576
  · have HR : Hid (∀ w, Calls Try.prog 25 #[.string a, .string b] w fun e w' => e = .returned (.bool true) ∧ w = w') := fun w => room25_yes a b w hr
    clear h0 h1
    have HM : Hid (w.cell? ⟨0, 0, none⟩ = some (.int .i64 m)) := hm
    clear hm
    have HN : Hid (∀ w, Calls Try.prog 22 #[.string a] w fun e w' => SaysIf (canP a.data.toList) true w e w') := fun w => canonical_any a w (by omega)
    have HN2 : Hid (∀ w, Calls Try.prog 22 #[.string b] w fun e w' => SaysIf (canP b.data.toList) true w e w') := fun w => canonical_any b w (by omega)
    have HT : Hid (∀ w, Calls Try.prog 26 #[.string b] w fun e w' => SaysIf (plain b.data.toList) false w e w') := fun w => hasStar_any b w (by omega)
    go_enter Try.func8, Try.ntmps8
    go_wp2_with (go_at_call 25; refine (HR.out _).mono ?_; rintro e w' ⟨rfl, rfl⟩)
    refine (HN.out _).mono ?_
    rintro e w' ⟨r, rfl, rfl, hc⟩
    cases r with
    | false =>
      clear hc
      go_wp2_with fail
      go_ret
      exact ⟨rfl, Below.refl _ _⟩
    | true =>
      have HC : Hid (canP a.data.toList) := hc rfl
      clear hc
      go_wp2_with fail
      refine (HN2.out _).mono ?_
      rintro e w' ⟨r, rfl, rfl, hc⟩
      cases r with
      | false =>
        clear hc
        go_wp2_with fail
        go_ret
        exact ⟨rfl, Below.refl _ _⟩
      | true =>
        have HC2 : Hid (canP b.data.toList) := hc rfl
        clear hc
        go_wp2_with fail
        refine (HT.out _).mono ?_
        rintro e w' ⟨r, rfl, rfl, hc⟩
        cases r with
        | true =>
          clear hc
          go_wp2_with fail
          go_ret
          exact ⟨rfl, Below.refl _ _⟩
        | false =>
          obtain ⟨S, hS, eS⟩ := can_segs _ a.data.toList (Nat.le_refl _) HC.out
          obtain ⟨P, hP, eP⟩ := can_segs _ b.data.toList (Nat.le_refl _) HC2.out
          have HP : Hid (∀ _ : Unit, Calls Try.prog 23 #[.string a, .string b] w fun e w' => e = .returned (.bool (a.toList == b.toList)) ∧ ∃ q, w' = w.drewN q) := fun _ => by
            have e : mpS P S = (a.toList == b.toList) := by
              rw [Lib.toList_data, Lib.toList_data, mpS_join hP hS (by rw [eP]; exact hc rfl), eS, eP]
            rw [← e]
            exact zzPattern_any a b P S hP hS eP.symm eS.symm m w (by omega) (by omega) HM.out
          clear hc hS eS hP eP
          go_wp2_with (go_at_call 23; refine (HP.out ()).mono ?_; rintro e w' ⟨rfl, q, rfl⟩)
          go_ret
          exact ⟨by simp, below_draws _ _ _⟩
  · have HR : Hid (∀ w, Calls Try.prog 25 #[.string a, .string b] w fun e w' => e = .returned (.bool false) ∧ w = w') := fun w => room25_no a b w h0 h1 hr
    clear hm
    go_enter Try.func8, Try.ntmps8
    go_wp2_with (go_at_call 25; refine (HR.out _).mono ?_; rintro e w' ⟨rfl, rfl⟩)
    go_ret
    exact ⟨rfl, Below.refl _ _⟩

end Go.Proofs.Qxb6604177a
