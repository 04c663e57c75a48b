/-
  THE PROOF OF 'Rows.FnHoldsGroupAtAnyCutSaid': the frame is proof-skeleton.mjs's; the walk is ours.
-/
import Derived.Test.Qxb6608554aRows
import Derived.Test.Qxb6608554aWalk
import Derived.WalkKit
import Derived.ProofKit
import Derived.OpenShut
import Derived.ShutString
namespace Go.Proofs.Qxb6608554a.fnHoldsGroupAtAnyCut
open Go.ChangeShapes Go.WideShapes Go.ChangeAt Go.RowKit
open Go.ChangeMaps (open_string shut_string)
set_option linter.unusedVariables false      -- a walk need not use every 'w<i>' (that an integer argument fits its kind)

theorem own : ownKnob Try.prog.godebug = none := by kernel_rfl

/-! ### STEP 1: THE WALK: the Go text returns true. 'Grown w w'': the world has at most new blocks (Derived/RowKit3.lean). Part the cases AHEAD of 'go_enter' where a test parts the walk; take each callee by a contract of your own. -/
theorem app_data (a b : ByteArray) : (a ++ b).data.toList = a.data.toList ++ b.data.toList := by simp

set_option maxRecDepth 100000 in
set_option maxHeartbeats 1000000 in
theorem walk (a0 : ByteArray) (a1 : ByteArray) (w0 : a0.size ≤ maxLen) (w1 : a1.size ≤ maxLen) (w : World) :
    Calls Try.prog 3 #[.string a0, .string a1] w fun e w' => e = .returned (.bool true) ∧ Grown w w' := by
  by_cases hr : a0.size + a1.size ≤ 1048576
  · have HR : Hid (∀ w, Calls Try.prog 5 #[.string a0, .string a1] w fun e w' => e = .returned (.bool true) ∧ w' = w) := fun w => by
      have e : roomB a0 a1 = true := decide_eq_true hr
      rw [← e]; exact room_any a0 a1 w0 w1 w
    obtain ⟨A, hA⟩ : ∃ A, A = hasB a0.data.toList 40 := ⟨_, rfl⟩
    obtain ⟨B, hB⟩ : ∃ B, B = hasB a1.data.toList 41 := ⟨_, rfl⟩
    obtain ⟨gx, hgx⟩ : ∃ g, g = grp a0.data.toList := ⟨_, rfl⟩
    obtain ⟨gy, hgy⟩ : ∃ g, g = grp a1.data.toList := ⟨_, rfl⟩
    have HA : Hid (∀ w, Calls Try.prog 7 #[.string a0, .int .u8 40] w fun e w' => e = .returned (.bool A) ∧ w' = w) := fun w => by rw [hA]; exact hasByte_any a0 (by omega) 40 w
    have HB : Hid (∀ w, Calls Try.prog 7 #[.string a1, .int .u8 41] w fun e w' => e = .returned (.bool B) ∧ w' = w) := fun w => by rw [hB]; exact hasByte_any a1 (by omega) 41 w
    have HX : Hid (∀ w, Calls Try.prog 6 #[.string a0] w fun e w' => e = .returned (.bool gx) ∧ w' = w) := fun w => by rw [hgx]; exact zzHolds_any a0 (by omega) w
    have HY : Hid (∀ w, Calls Try.prog 6 #[.string a1] w fun e w' => e = .returned (.bool gy) ∧ w' = w) := fun w => by rw [hgy]; exact zzHolds_any a1 (by omega) w
    have HW : Hid (∀ w, Calls Try.prog 6 #[.string (a0 ++ a1)] w fun e w' => e = .returned (.bool (gx || gy || (A && B))) ∧ w' = w) := fun w => by
      have e : grp (a0 ++ a1).data.toList = (gx || gy || (A && B)) := by rw [hgx, hgy, hA, hB, app_data]; exact grp_append _ _
      rw [← e]; exact zzHolds_any _ (by rw [ByteArray.size_append]; omega) w
    have HC : Hid (∀ w, Calls Try.prog 6 #[.string (a0 ++ ⟨#[41]⟩)] w fun e w' => e = .returned (.bool A) ∧ w' = w) := fun w => by
      have e : grp (a0 ++ ⟨#[41]⟩).data.toList = A := by rw [hA, app_data]; exact grp_close _
      rw [← e]; exact zzHolds_any _ (by rw [ByteArray.size_append]; show a0.size + 1 ≤ _; omega) w
    have HO : Hid (∀ w, Calls Try.prog 6 #[.string (⟨#[40]⟩ ++ a1)] w fun e w' => e = .returned (.bool B) ∧ w' = w) := fun w => by
      have e : grp ((⟨#[40]⟩ : ByteArray) ++ a1).data.toList = B := by rw [hB, app_data]; exact grp_open _
      rw [← e]; exact zzHolds_any _ (by rw [ByteArray.size_append]; show 1 + a1.size ≤ _; omega) w
    clear hA hB hgx hgy
    unfold maxLen at w0 w1
    go_enter Try.func3, Try.ntmps3
    go_wp2_with (go_at_call 5; refine (HR.out _).mono ?_; rintro e w' ⟨rfl, rfl⟩)
    refine (HW.out _).mono ?_
    rintro e w' ⟨rfl, rfl⟩
    go_wp2_with fail
    refine (HX.out _).mono ?_
    rintro e w' ⟨rfl, rfl⟩
    go_wp2_with fail
    refine (HY.out _).mono ?_
    rintro e w' ⟨rfl, rfl⟩
    go_wp2_with fail
    refine (HC.out _).mono ?_
    rintro e w' ⟨rfl, rfl⟩
    go_wp2_with fail
    refine (HO.out _).mono ?_
    rintro e w' ⟨rfl, rfl⟩
    go_wp2_with fail
    refine (HA.out _).mono ?_
    rintro e w' ⟨rfl, rfl⟩
    go_wp2_with fail
    refine (HB.out _).mono ?_
    rintro e w' ⟨rfl, rfl⟩
    go_wp2_with fail
    all_goals (go_ret; exact ⟨rfl, Grown.refl _⟩)
  · have HR : Hid (∀ w, Calls Try.prog 5 #[.string a0, .string a1] w fun e w' => e = .returned (.bool false) ∧ w' = w) := fun w => by
      have e : roomB a0 a1 = false := decide_eq_false hr
      rw [← e]; exact room_any a0 a1 w0 w1 w
    go_enter Try.func3, Try.ntmps3
    go_wp2_with (go_at_call 5; refine (HR.out _).mono ?_; rintro e w' ⟨rfl, rfl⟩)
    go_ret
    exact ⟨rfl, Grown.refl _⟩

/-! ### THE ROW's STEP: WRITTEN OUT: LEAVE IT -/
set_option maxRecDepth 100000 in
theorem lifted (os : Os) (started : os.Started) (H : Type) (enc : TypeId × Value → H) :
    ReturnsInHanded {} Try.checked os 3 .any (Rows.fnHoldsGroupAtAnyCutSpec.pre6 enc Try.prog Try.f3 Rows.fnHoldsGroupAtAnyCutRow.domain false) (Rows.fnHoldsGroupAtAnyCutSpec.post enc Try.prog Try.f3 false true false false) := by
  refine returnsInHanded_of_change (C := Try.checked) own started (by kernel_rfl) Try.func3
    (ChangeSpec.witness6 (enc := enc) (C := Try.checked) false ⟨#[], #[.string ByteArray.empty, .string ByteArray.empty], []⟩ 8 (by kernel_rfl) (by kernel_rfl) (by kernel_rfl) (by kernel_rfl)) ?_
  intro W base args ds gs before hval0 hW hcnd _
  have hval : ∀ (j : Nat) t v, Try.f3.params[j]? = some t → args[j]? = some v → Value.okWide Try.prog W .any base t v := hval0
  have hW' := hW
  obtain ⟨p, q, hA0, hV, rfl, hfz, hnd⟩ := hW
  have hA : DataW.TrodAll enc Try.prog W 0 (fun _ => true) true Try.f3.params.toList args.toList ds p := hA0
  rw [Try.params3] at hA hval
  obtain ⟨v0, vs0, d0, ds0, p0, q0, hargs, rfl, rfl, h0, r0⟩ := trodAll_cons hA
  obtain ⟨v1, vs1, d1, ds1, p1, q1, rfl, rfl, rfl, h1, r1⟩ := trodAll_cons r0
  obtain ⟨rfl, rfl, rfl⟩ := trodAll_nil r1
  obtain rfl : args = #[v0, v1] := by cases args; simp_all
  obtain ⟨rfl, rfl⟩ := trodVars_none hV
  obtain ⟨a0, rfl, rfl, rfl, w0⟩ := open_string Try.underlying9 (hval 0 9 v0 rfl rfl) h0
  obtain ⟨a1, rfl, rfl, rfl, w1⟩ := open_string Try.underlying9 (hval 1 9 v1 rfl rfl) h1
  clear hA0 hval0
  simp only [List.append_nil] at hW'
  refine (walk a0 a1 w0 w1 W).mono fun e W' ⟨he, hg⟩ => ?_
  subst he
  exact ⟨_, rfl, post_of_same (pa := []) (pv := []) hW' (fun _ _ _ => (trodAll_cons_mk (shut_bool Try.underlying4 _) trodAll_mk0)) (fun sp _ => (trodAll_cons_mk (shut_string Try.underlying9 w0) (trodAll_cons_mk (shut_string Try.underlying9 w1) trodAll_mk0))) (fun _ _ => rfl) rfl
    (hg.frame _) hg.2.1 (ok_one (by kernel_rfl) rfl (okWide_bool_mk Try.underlying4 _))⟩

theorem over : Rows.fnHoldsGroupAtAnyCutRow.holds Try.pinned (OpenSpec.ofChange Rows.fnHoldsGroupAtAnyCutSpec) :=
  OpenClaim.holds_of_wide 3 Try.f3 rfl rfl rfl rfl rfl rfl rfl ⟨rfl, rfl, rfl, rfl, rfl⟩ rfl rfl rfl rfl rfl (by kernel_rfl) Try.func3 (by kernel_rfl)
    (of_decide_eq_true (by kernel_rfl)) (by unfold Func.isWrapper; first | (rw [if_pos (by decide +kernel)]; kernel_rfl) | (rw [if_neg (by decide +kernel)]; exact ⟨rfl, rfl⟩))
    (fun os started H enc _ => lifted os started H enc)

/-- ████ THE STATEMENT ████ -/
theorem proved : Rows.FnHoldsGroupAtAnyCutSaid :=
  over
end Go.Proofs.Qxb6608554a.fnHoldsGroupAtAnyCut
