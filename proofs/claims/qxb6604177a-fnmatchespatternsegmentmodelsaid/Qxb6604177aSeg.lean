/-
  Seat b6604177a: matchesSegment computes 'glob'.
-/
import Derived.Test.Qxb6604177aRows
import Derived.Test.Qxb6604177aShelf
import Derived.Test.Qxb6604177aGlob
import Derived.WalkKit
import Derived.ProofKit
import Derived.WalkSpells
import Derived.Deep.Draws
namespace Go.Proofs.Qxb6604177a
open Go.RowKit
set_option linter.unusedVariables false

/-- The text in a slot. -/
def strOf : Value → ByteArray | .string s => s | _ => ⟨#[]⟩

theorem mk_list (l : List UInt8) : (⟨l.toArray⟩ : ByteArray).data.toList = l := rfl

/-- strings.Cut at *, in two cases. -/
theorem cut42 (p : ByteArray) (m : Int) (w : World) (hs : p.size ≤ 4194304) (hm : w.cell? ⟨0, 0, none⟩ = some (.int .i64 m)) :
    (plain p.data.toList ∧ Hid (∀ q, Calls Try.prog 32 #[.string p, .string ⟨#[42]⟩] (w.drewN q) fun e w' => e = .returned (.tuple #[.string p, .string ⟨#[]⟩, .bool false]) ∧ ∃ q', w' = w.drewN q')) ∨
    ∃ h r : ByteArray, plain h.data.toList ∧ p.data.toList = h.data.toList ++ 42 :: r.data.toList ∧ Hid (∀ q, Calls Try.prog 32 #[.string p, .string ⟨#[42]⟩] (w.drewN q) fun e w' => e = .returned (.tuple #[.string h, .string r, .bool true]) ∧ ∃ q', w' = w.drewN q') := by
  have hc : ∀ q, Calls Try.prog 32 #[.string p, .string ⟨#[42]⟩] (w.drewN q) fun e w' => e = .returned (.tuple #[.string ⟨(Lib.cut p.data.toList [42]).1.toArray⟩, .string ⟨(Lib.cut p.data.toList [42]).2.1.toArray⟩, .bool (Lib.cut p.data.toList [42]).2.2]) ∧ ∃ q', w' = w.drewN q' := fun q => by
    refine (Try.strings_Cut p ⟨#[42]⟩ m (w.drewN q) (by omega) hm).mono ?_
    rintro e w' ⟨he, n, rfl⟩
    exact ⟨he, q + n, World.drewN_drewN _ _ _⟩
  by_cases hb : (Lib.cut p.data.toList [42]).2.2 = true
  · obtain ⟨h1, h2⟩ := cut_star hb
    refine Or.inr ⟨⟨(Lib.cut p.data.toList [42]).1.toArray⟩, ⟨(Lib.cut p.data.toList [42]).2.1.toArray⟩, h1, h2, fun q => ?_⟩
    rw [hb] at hc
    exact hc q
  · obtain ⟨h1, h2⟩ := cut_plain (p := p.data.toList) (by simpa using hb)
    refine Or.inl ⟨h1, fun q => ?_⟩
    rw [h2] at hc
    have := hc q
    rw [Lib.mk_data] at this
    exact this

theorem from_data (s : ByteArray) (k : Nat) : (s.extract k s.size).data.toList = s.data.toList.drop k := by
  rw [Lib.extract_data, List.take_of_length_le (by rw [List.length_drop, ← Lib.size_eq]; exact Nat.le_refl _)]

set_option maxRecDepth 100000 in
set_option maxHeartbeats 2000000 in
theorem matchesSegment_any (seg pat : ByteArray) (m : Int) (w : World) (h0 : seg.size ≤ 4194304) (h1 : pat.size ≤ 4194304) (hm : w.cell? ⟨0, 0, none⟩ = some (.int .i64 m)) :
    Calls Try.prog 29 #[.string seg, .string pat] w fun e w' => e = .returned (.bool (glob pat.data.toList seg.data.toList)) ∧ ∃ q, w' = w.drewN q := by
  rcases cut42 pat m w h1 hm with ⟨hp, HC⟩ | ⟨h, r, hp, he, HC⟩
  · obtain ⟨G, hG⟩ : ∃ G, G = glob pat.data.toList seg.data.toList := ⟨_, rfl⟩
    have HG : Hid (G = (seg.toList == pat.toList)) := by show _ = _; rw [hG, glob_plain hp, Lib.toList_data, Lib.toList_data]
    rw [← hG]
    clear hG hp hm
    go_enter Try.func29, Try.ntmps29
    go_wp2_with (go_at_call 32; refine (HC.out 0).mono ?_; rintro e w' ⟨rfl, q, rfl⟩)
    go_ret
    rw [HG.out]
    exact ⟨rfl, _, rfl⟩
  · have hsz : pat.size = h.size + (r.size + 1) := by
      rw [Lib.size_eq, Lib.size_eq h, Lib.size_eq r, he, List.length_append, List.length_cons]
    obtain ⟨G, hG⟩ : ∃ G, G = glob pat.data.toList seg.data.toList := ⟨_, rfl⟩
    have HG0 : Hid (G = (Lib.hasPrefix seg.data.toList h.data.toList && glob (42 :: r.data.toList) (seg.data.toList.drop h.size))) := by show _ = _; rw [hG, he, glob_head hp, Lib.size_eq h]
    have HP : Hid (∀ w, Calls Try.prog 33 #[.string seg, .string h] w fun e w' => e = .returned (.bool (Lib.hasPrefix seg.data.toList h.data.toList)) ∧ w = w') := fun w => (Try.strings_HasPrefix seg h w).mono fun e w' h => ⟨h.1, h.2.symm⟩
    have hr : r.size ≤ 4194304 := by omega
    have hh : h.size ≤ 4194304 := by omega
    rw [← hG]
    have HM : Hid (w.cell? ⟨0, 0, none⟩ = some (.int .i64 m)) := hm
    clear hG hp he hsz hm
    by_cases hpre : Lib.hasPrefix seg.data.toList h.data.toList = true
    · have hle : h.size ≤ seg.size := by
        unfold Lib.hasPrefix at hpre
        have := (List.isPrefixOf_iff_prefix.1 hpre).length_le
        rw [Lib.size_eq h, Lib.size_eq seg]; exact this
      have hlz : (h.size : Int) ≤ (seg.size : Int) := by omega
      have HG1 : Hid (glob (42 :: r.data.toList) (seg.extract h.size seg.size).data.toList = G) := by show _ = _; rw [HG0.out, hpre, Bool.true_and, from_data]
      have HP1 : Hid (∀ w, Calls Try.prog 33 #[.string seg, .string h] w fun e w' => e = .returned (.bool true) ∧ w = w') := fun w => by rw [← hpre]; exact HP.out w
      clear hpre HP HG0
      go_enter Try.func29, Try.ntmps29
      go_wp2_with (first
        | (go_at_call 32; refine (HC.out 0).mono ?_; rintro e w' ⟨rfl, q, rfl⟩)
        | (go_at_call 33; refine (HP1.out _).mono ?_; rintro e w' ⟨rfl, rfl⟩))
      go_loopw [0, 6] (fun vs vr wr => ∃ s r : ByteArray, vs = .string s ∧ vr = .string r ∧ s.size ≤ 4194304 ∧ r.size ≤ 4194304 ∧ Hid (glob (42 :: r.data.toList) s.data.toList = G) ∧ ∃ q, wr = w.drewN q) (fun _ vr _ => (strOf vr).size)
      case atStart => exact ⟨_, _, rfl, rfl, by rw [ByteArray.size_extract]; omega, hr, HG1, _, rfl⟩
      case round =>
        obtain ⟨s, t, rfl, rfl, hs, ht, HI, q, rfl⟩ := hrel
        clear HC HP1 HG1
        rcases cut42 t m w ht HM.out with ⟨hp, HC⟩ | ⟨p, a, hp, he, HC⟩
        · have HR : Hid (Lib.hasSuffix s.data.toList t.data.toList = G) := by show _ = _; rw [← HI.out, glob_last hp]
          have HS : Hid (∀ w, Calls Try.prog 34 #[.string s, .string t] w fun e w' => e = .returned (.bool G) ∧ w = w') := fun w => by
            rw [← HR.out]; exact (Try.strings_HasSuffix s t w (by omega)).mono fun e w' h => ⟨h.1, h.2.symm⟩
          clear HR HI hp
          go_wp2_with (first
            | (go_at_call 32; refine (HC.out q).mono ?_; rintro e w' ⟨rfl, q', rfl⟩)
            | (go_at_call 34; refine (HS.out _).mono ?_; rintro e w' ⟨rfl, rfl⟩))
          go_ret
          exact ⟨rfl, _, rfl⟩
        · have hsz : t.size = p.size + (a.size + 1) := by
            rw [Lib.size_eq, Lib.size_eq p, Lib.size_eq a, he, List.length_append, List.length_cons]
          have ha : a.size ≤ 4194304 := by omega
          have hpz : p.size ≤ 4194304 := by omega
          have hat : a.size < t.size := by omega
          have HX : Hid (∀ q, Calls Try.prog 35 #[.string s, .string p] (w.drewN q) fun e w' => e = .returned (.int .i64 (Lib.index s.data.toList p.data.toList)) ∧ w' = w.drewN q) := fun q => Try.strings_Index s p m (w.drewN q) (by omega) HM.out
          rcases Lib.indexB_cases s p with hix | ⟨i, hix, hroom⟩
          · have hix' : Lib.index s.data.toList p.data.toList = -1 := hix
            have HR : Hid (G = false) := by show _ = _; rw [← HI.out, he, glob_step_none hp _ _ hix']
            have HX1 : Hid (∀ q, Calls Try.prog 35 #[.string s, .string p] (w.drewN q) fun e w' => e = .returned (.int .i64 (-1)) ∧ w' = w.drewN q) := fun q => by rw [← hix']; exact HX.out q
            clear HI hp he hsz hix hix' HX
            go_wp2_with (first
              | (go_at_call 32; refine (HC.out q).mono ?_; rintro e w' ⟨rfl, q', rfl⟩)
              | (go_at_call 35; refine (HX1.out _).mono ?_; rintro e w' ⟨rfl, rfl⟩))
            go_ret
            rw [HR.out]
            exact ⟨rfl, _, rfl⟩
          · have hix' : Lib.index s.data.toList p.data.toList = i := hix
            have HR : Hid (glob (42 :: a.data.toList) (s.extract (i + p.size) s.size).data.toList = G) := by show _ = _; rw [← HI.out, he, glob_step hp _ _ i hix', from_data, Lib.size_eq p]
            have HX1 : Hid (∀ q, Calls Try.prog 35 #[.string s, .string p] (w.drewN q) fun e w' => e = .returned (.int .i64 i) ∧ w' = w.drewN q) := fun q => by rw [← hix']; exact HX.out q
            have hz1 : (i : Int) + (p.size : Int) ≤ (s.size : Int) := by omega
            have hz2 : (0 : Int) ≤ (i : Int) + (p.size : Int) := by omega
            clear HI hp he hsz hix hix' HX
            go_wp2_with (first
              | (go_at_call 32; refine (HC.out q).mono ?_; rintro e w' ⟨rfl, q', rfl⟩)
              | (go_at_call 35; refine (HX1.out _).mono ?_; rintro e w' ⟨rfl, rfl⟩))
            go_roundw
            case rel => exact ⟨_, _, rfl, rfl, by rw [ByteArray.size_extract]; omega, ha, HR, _, rfl⟩
            case measure => simp [strOf]; omega
    · have hpre : Lib.hasPrefix seg.data.toList h.data.toList = false := by simpa using hpre
      have HR : Hid (G = false) := by show _ = _; rw [HG0.out, hpre, Bool.false_and]
      have HP1 : Hid (∀ w, Calls Try.prog 33 #[.string seg, .string h] w fun e w' => e = .returned (.bool false) ∧ w = w') := fun w => by rw [← hpre]; exact HP.out w
      clear hpre HP HG0
      go_enter Try.func29, Try.ntmps29
      go_wp2_with (first
        | (go_at_call 32; refine (HC.out 0).mono ?_; rintro e w' ⟨rfl, q, rfl⟩)
        | (go_at_call 33; refine (HP1.out _).mono ?_; rintro e w' ⟨rfl, rfl⟩))
      go_ret
      rw [HR.out]
      exact ⟨rfl, _, rfl⟩

end Go.Proofs.Qxb6604177a
