/-
  THE PROOF OF 'Rows.FnTokenCharCountIs77Said': the frame is proof-skeleton.mjs's; the walk is ours.
-/
import Derived.Test.Qxb6603490aRows
import Derived.Test.Qxb6603490aWalk
import Derived.WalkKit
import Derived.ProofKit
import Derived.OpenShut
import Derived.ShutString
namespace Go.Proofs.Qxb6603490a.fnTokenCharCountIs77
open Go.ChangeShapes Go.WideShapes Go.ChangeAt Go.RowKit
open Go.ChangeMaps (open_string shut_string)
set_option linter.unusedVariables false      -- a walk need not use every 'w<i>' (that an integer argument fits its kind)

theorem own : ownKnob Try.prog.godebug = none := by kernel_rfl

set_option maxRecDepth 100000 in
set_option maxHeartbeats 1000000 in
theorem zz_any (c : Int) (w : World) :
    Calls Try.prog 8 #[.int .u8 c] w fun e w' => e = .returned (.bool (tokB c)) ∧ w' = w := by
  go_enter Try.func8, Try.ntmps8
  go_wp2_with (go_at_call 10; refine (isTokenChar_any _ _).mono ?_; rintro e w' ⟨rfl, rfl⟩)
  go_ret
  exact ⟨rfl, rfl⟩

/-! ### STEP 1: THE WALK: the Go text returns true. 'Grown w w'': the world has at most new blocks (Derived/RowKit3.lean). Part the cases AHEAD of 'go_enter' where a test parts the walk; take each callee by a contract of your own. -/
set_option maxRecDepth 100000 in
set_option maxHeartbeats 1000000 in
theorem walk  (w : World) :
    Calls Try.prog 4 #[] w fun e w' => e = .returned (.bool true) ∧ Grown w w' := by
  go_enter Try.func4, Try.ntmps4
  go_wp2_with fail
  go_loop [1, 2] (fun n i => ∃ k c : Nat, k ≤ 256 ∧ c ≤ k ∧ i = .int .i64 k ∧ n = .int .i64 c ∧ Hid (c = cnt k)) (fun _ i => 256 - (intOf i).toNat)
  case atStart => exact ⟨0, 0, Nat.zero_le _, Nat.le_refl _, rfl, rfl, rfl⟩
  case round =>
    obtain ⟨k, c, hk, hc, rfl, rfl, H⟩ := hrel
    by_cases hlt : k < 256
    · by_cases ht : tokB k = true
      · have hv := tok_visible k hlt ht
        obtain ⟨v1, v2⟩ := hv
        have H' : Hid (c + 1 = cnt (k + 1)) := by show _ = _; rw [cnt_hit ht, H.out]
        have hz : ∀ w, Calls Try.prog 8 #[.int .u8 k] w fun e w' => e = .returned (.bool true) ∧ w' = w := fun w => by rw [← ht]; exact zz_any k w
        have HZ : Hid _ := hz
        clear ht hz H
        go_wp2_with (go_at_call 8; refine (HZ.out _).mono ?_; rintro e w' ⟨rfl, rfl⟩)
        go_round
        case rel => exact ⟨k + 1, c + 1, by omega, by omega, by go_num, by go_num, H'⟩
        case measure => simp [intOf]; omega
      · have ht : tokB k = false := by simpa using ht
        have H' : Hid (c = cnt (k + 1)) := by show _ = _; rw [cnt_miss ht, H.out]
        have hz : ∀ w, Calls Try.prog 8 #[.int .u8 k] w fun e w' => e = .returned (.bool false) ∧ w' = w := fun w => by rw [← ht]; exact zz_any k w
        have HZ : Hid _ := hz
        clear ht hz H
        go_wp2_with (go_at_call 8; refine (HZ.out _).mono ?_; rintro e w' ⟨rfl, rfl⟩)
        go_round
        case rel => exact ⟨k + 1, c, by omega, by omega, by go_num, by go_num, H'⟩
        case measure => simp [intOf]; omega
    · have hk2 : k = 256 := by omega
      subst hk2
      have hc2 : c = 77 := by rw [H.out, cnt_all]
      subst hc2
      clear H
      go_wp2_with fail
      go_ret
      exact ⟨rfl, Grown.refl _⟩

/-! ### THE ROW's STEP: WRITTEN OUT: LEAVE IT -/
set_option maxRecDepth 100000 in
theorem lifted (os : Os) (started : os.Started) (H : Type) (enc : TypeId × Value → H) :
    ReturnsInHanded {} Try.checked os 4 .any (Rows.fnTokenCharCountIs77Spec.pre6 enc Try.prog Try.f4 Rows.fnTokenCharCountIs77Row.domain false) (Rows.fnTokenCharCountIs77Spec.post enc Try.prog Try.f4 false true false false) := by
  refine returnsInHanded_of_change (C := Try.checked) own started (by kernel_rfl) Try.func4
    (ChangeSpec.witness6 (enc := enc) (C := Try.checked) false ⟨#[], #[], []⟩ 8 (by kernel_rfl) (by kernel_rfl) (by kernel_rfl) (by kernel_rfl)) ?_
  intro W base args ds gs before hval0 hW hcnd _
  have hval : ∀ (j : Nat) t v, Try.f4.params[j]? = some t → args[j]? = some v → Value.okWide Try.prog W .any base t v := hval0
  have hW' := hW
  obtain ⟨p, q, hA0, hV, rfl, hfz, hnd⟩ := hW
  have hA : DataW.TrodAll enc Try.prog W 0 (fun _ => true) true Try.f4.params.toList args.toList ds p := hA0
  rw [Try.params4] at hA hval
  obtain ⟨rfl, rfl, rfl⟩ := trodAll_none hA
  obtain ⟨rfl, rfl⟩ := trodVars_none hV
  clear hA0 hval0
  simp only [List.append_nil] at hW'
  refine (walk  W).mono fun e W' ⟨he, hg⟩ => ?_
  subst he
  exact ⟨_, rfl, post_of_same (pa := []) (pv := []) hW' (fun _ _ _ => (trodAll_cons_mk (shut_bool Try.underlying4 _) trodAll_mk0)) (fun sp _ => rfl) (fun _ _ => rfl) rfl
    (hg.frame _) hg.2.1 (ok_one (by kernel_rfl) rfl (okWide_bool_mk Try.underlying4 _))⟩

theorem over : Rows.fnTokenCharCountIs77Row.holds Try.pinned (OpenSpec.ofChange Rows.fnTokenCharCountIs77Spec) :=
  OpenClaim.holds_of_wide 4 Try.f4 rfl rfl rfl rfl rfl rfl rfl ⟨rfl, rfl, rfl, rfl, rfl⟩ rfl rfl rfl rfl rfl (by kernel_rfl) Try.func4 (by kernel_rfl)
    (of_decide_eq_true (by kernel_rfl)) (by unfold Func.isWrapper; first | (rw [if_pos (by decide +kernel)]; kernel_rfl) | (rw [if_neg (by decide +kernel)]; exact ⟨rfl, rfl⟩))
    (fun os started H enc _ => lifted os started H enc)

/-- ████ THE STATEMENT ████ -/
theorem proved : Rows.FnTokenCharCountIs77Said :=
  over
end Go.Proofs.Qxb6603490a.fnTokenCharCountIs77
