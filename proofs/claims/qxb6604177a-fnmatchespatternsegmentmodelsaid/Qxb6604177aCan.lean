/-
  Seat b6604177a: b1Canonical and b1HasStar.
-/
import Derived.Test.Qxb6604177aRun
import Derived.Test.Qxb6604177aPat
namespace Go.Proofs.Qxb6604177a
open Go.RowKit
set_option linter.unusedVariables false

theorem get_str (s : ByteArray) (k : Nat) (h : k < s.size) : s.data.toList[k]? = some s[k] := by
  have hl : k < s.data.toList.length := by rw [← Lib.size_eq]; exact h
  rw [List.getElem?_eq_getElem hl]; rfl

/-- It answers r; and where r is 'good', p holds; the world is as it was. -/
def SaysIf (p : Prop) (good : Bool) (w : World) (e : Ending) (w' : World) : Prop := ∃ r, e = .returned (.bool r) ∧ w = w' ∧ (r = good → p)
theorem says_mk {p : Prop} {good : Bool} {w : World} (r : Bool) (h : r = good → p) : SaysIf p good w (.returned (.bool r)) w := ⟨r, rfl, rfl, h⟩

theorem byte_ne {a b : UInt8} (h : a ≠ b) : ((a.toNat : Int) == (b.toNat : Int)) = false := by
  rw [beq_eq_false_iff_ne]
  intro q
  exact h (UInt8.toNat_inj.1 (by omega))

set_option maxRecDepth 100000 in
set_option maxHeartbeats 1000000 in
theorem canonical_any (s : ByteArray) (w : World) (hs : s.size ≤ 4194304) :
    Calls Try.prog 22 #[.string s] w fun e w' => SaysIf (canP s.data.toList) true w e w' := by
  by_cases h0 : s.size = 0
  · have e : s = ⟨#[]⟩ := by
      obtain ⟨⟨l⟩⟩ := s
      have : l.length = 0 := h0
      rw [List.length_eq_zero_iff.1 this]
    subst e
    go_enter Try.func22, Try.ntmps22
    go_wp2_with fail
    go_ret
    exact says_mk true (fun _ => Or.inl rfl)
  · have hp : 0 < s.size := by omega
    have hz : (0 : Int) < (s.size : Int) := by omega
    have hne : s.toList.isEmpty = false := by
      rw [Lib.toList_data, Bool.eq_false_iff]
      intro q
      have := List.isEmpty_iff.1 q
      have := congrArg List.length this
      rw [← Lib.size_eq] at this
      exact h0 this
    have g0 := get_str s 0 hp
    have gl := get_str s (s.size - 1) (by omega)
    by_cases c0 : s[0] = 47
    · have t0 : ((s[0].toNat : Int) == 47) = true := by rw [c0]; rfl
      clear gl g0 c0 h0
      go_enter Try.func22, Try.ntmps22
      go_wp2_with fail
      go_ret
      exact says_mk false (fun h => by cases h)
    · have t0 : ((s[0].toNat : Int) == 47) = false := byte_ne c0
      by_cases c1 : s[s.size - 1] = 47
      · have t1 : ((s[s.size - 1].toNat : Int) == 47) = true := by rw [c1]; rfl
        clear gl g0 c0 c1 h0
        go_enter Try.func22, Try.ntmps22
        go_wp2_with fail
        go_ret
        exact says_mk false (fun h => by cases h)
      · have t1 : ((s[s.size - 1].toNat : Int) == 47) = false := byte_ne c1
        have H0 : Hid (s.data.toList[0]? ≠ some 47) := by show _ ≠ _; rw [g0]; intro q; exact c0 (by simpa using q)
        have H1 : Hid (s.data.toList[s.data.toList.length - 1]? ≠ some 47) := by show _ ≠ _; rw [← Lib.size_eq, gl]; intro q; exact c1 (by simpa using q)
        clear gl g0 c0 c1 h0
        go_enter Try.func22, Try.ntmps22
        go_wp2_with fail
        go_loop [3] (fun v => ∃ j : Nat, j + 1 ≤ s.size ∧ v = .int .i64 ((j : Int) + 1) ∧ Hid (∀ t, t < j → ¬ (s.data.toList[t + 1]? = some 47 ∧ s.data.toList[t]? = some 47))) (fun v => s.size - (intOf v).toNat)
        case atStart => exact ⟨0, hp, rfl, fun t ht => absurd ht (Nat.not_lt_zero _)⟩
        case round =>
          obtain ⟨j, hj, rfl, H⟩ := hrel
          clear t0 t1
          by_cases hlt : j + 1 < s.size
          · have hz1 : (j : Int) + 1 < (s.size : Int) := by omega
            have hz2 : (j : Int) < (s.size : Int) := by omega
            have hj0 : j < s.size := by omega
            have g1 := get_str s (j + 1) hlt
            have g2 := get_str s j hj0
            by_cases c1 : s[j + 1] = 47
            · have t1 : ((s[j + 1].toNat : Int) == 47) = true := by rw [c1]; rfl
              by_cases c2 : s[j] = 47
              · have t2 : ((s[j].toNat : Int) == 47) = true := by rw [c2]; rfl
                clear g1 g2 c1 c2 H
                go_wp2_with fail
                go_ret
                exact says_mk false (fun h => by cases h)
              · have t2 : ((s[j].toNat : Int) == 47) = false := byte_ne c2
                have H' : Hid (∀ t, t < j + 1 → ¬ (s.data.toList[t + 1]? = some 47 ∧ s.data.toList[t]? = some 47)) := fun t ht => by
                  by_cases q : t = j
                  · subst q; rw [g2]; exact fun h => c2 (by simpa using h.2)
                  · exact H.out t (by omega)
                clear g1 g2 c1 c2 H
                go_wp2_with fail
                go_round
                case rel => exact ⟨j + 1, by omega, by go_num, H'⟩
                case measure => simp [intOf]; omega
            · have t1 : ((s[j + 1].toNat : Int) == 47) = false := byte_ne c1
              have H' : Hid (∀ t, t < j + 1 → ¬ (s.data.toList[t + 1]? = some 47 ∧ s.data.toList[t]? = some 47)) := fun t ht => by
                by_cases q : t = j
                · subst q; rw [g1]; exact fun h => c1 (by simpa using h.1)
                · exact H.out t (by omega)
              clear g1 g2 c1 H
              go_wp2_with fail
              go_round
              case rel => exact ⟨j + 1, by omega, by go_num, H'⟩
              case measure => simp [intOf]; omega
          · have HF : Hid (canP s.data.toList) := Or.inr ⟨H0.out, H1.out, fun t ht => H.out t (by rw [← Lib.size_eq] at ht; omega)⟩
            clear H H0 H1
            go_wp2_with fail
            go_ret
            exact says_mk true (fun _ => HF.out)

set_option maxRecDepth 100000 in
set_option maxHeartbeats 1000000 in
theorem hasStar_any (s : ByteArray) (w : World) (hs : s.size ≤ 4194304) :
    Calls Try.prog 26 #[.string s] w fun e w' => SaysIf (plain s.data.toList) false w e w' := by
  go_enter Try.func26, Try.ntmps26
  go_wp2_with fail
  go_loop [3] (fun v => ∃ k : Nat, k ≤ s.size ∧ v = .int .i64 k ∧ Hid (∀ j, j < k → s.data.toList[j]? ≠ some 42)) (fun v => s.size - (intOf v).toNat)
  case atStart => exact ⟨0, Nat.zero_le _, rfl, fun j hj => absurd hj (Nat.not_lt_zero _)⟩
  case round =>
    obtain ⟨k, hk, rfl, H⟩ := hrel
    by_cases hlt : k < s.size
    · have g := get_str s k hlt
      by_cases c : s[k] = 42
      · have t : ((s[k].toNat : Int) == 42) = true := by rw [c]; rfl
        clear g c H
        go_wp2_with fail
        go_ret
        exact says_mk true (fun h => by cases h)
      · have t : ((s[k].toNat : Int) == 42) = false := byte_ne c
        have H' : Hid (∀ j, j < k + 1 → s.data.toList[j]? ≠ some 42) := fun j hj => by
          by_cases q : j = k
          · subst q; rw [g]; exact fun h => c (by simpa using h)
          · exact H.out j (by omega)
        clear g c H
        go_wp2_with fail
        go_round
        case rel => exact ⟨k + 1, by omega, by go_num, H'⟩
        case measure => simp [intOf]; omega
    · have HF : Hid (plain s.data.toList) := fun c hc q => by
        subst q
        obtain ⟨j, hj, ej⟩ := List.getElem_of_mem hc
        exact H.out j (by rw [← Lib.size_eq] at hj; omega) (by rw [List.getElem?_eq_getElem hj, ej])
      clear H
      go_wp2_with fail
      go_ret
      exact says_mk false (fun _ => HF.out)

end Go.Proofs.Qxb6604177a
