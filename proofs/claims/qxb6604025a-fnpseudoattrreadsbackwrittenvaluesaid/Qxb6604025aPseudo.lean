/-
  Seat b6604025a: pseudoAttr at a text as the law writes it: one round of its loop.
-/
import Derived.Test.Qxb6604025aFind
import Derived.Test.Qxb6604025aPlain
import Derived.Test.Qxb6604025aShelf
import Derived.Laws.BytesArg
import Derived.OwnWalk
namespace Go.Proofs.Qxb6604025a
open Go.RowKit
set_option linter.unusedVariables false

theorem conv34 (w : World) : (convert 5 9 (.int .u8 34)).run Try.prog w = .ok (.string ⟨#[34]⟩) w := by kernel_rfl
theorem conv39 (w : World) : (convert 5 9 (.int .u8 39)).run Try.prog w = .ok (.string ⟨#[39]⟩) w := by kernel_rfl

set_option maxRecDepth 100000 in
set_option maxHeartbeats 1000000 in
theorem pseudo34 (a : Option Addr) (n c : Nat) (param s t v r : ByteArray) (k : Nat) (w : World) (hs : s.size ≤ 2097152) (hp : param.size ≤ 4096)
    (hk : k + param.size + 1 < s.size)
    (hconv : (convert 22 9 (.slice a n c)).run Try.prog w = .ok (.string s) w)
    (HI : Hid (∀ _ : Unit, Calls Try.prog 37 #[.string s, .string (param ++ ⟨#[61]⟩)] w fun e w' => e = .returned (.int .i64 k) ∧ w' = w))
    (hq : (s[k + param.size + 1]'hk).toNat = 34)
    (ht : s.extract (k + param.size + 2) s.size = t)
    (HC : Hid (∀ _ : Unit, Calls Try.prog 38 #[.string t, .string ⟨#[34]⟩] w fun e w' => e = .returned (.tuple #[.string v, .string r, .bool true]) ∧ ∃ q, w' = w.drewN q)) :
    Calls Try.prog 35 #[.slice a n c, .string param] w fun e w' => e = .returned (.string v) ∧ ∃ q, w' = w.drewN q := by
  have h34 := conv34
  have hk1 : (k : Int) + (param.size : Int) + 1 < (s.size : Int) := by omega
  have hk2 : (k : Int) + (param.size : Int) + 2 ≤ (s.size : Int) := by omega
  go_enter Try.func35, Try.ntmps35
  go_wp2_with fail
  refine wp_loop_rounds 1 ?_
  rw [rounds_succ]
  go_wp2_with (first
    | (go_at_call 37; refine (HI.out ()).mono ?_; rintro e w' ⟨rfl, rfl⟩)
    | (go_at_call 38; refine (HC.out ()).mono ?_; rintro e w' ⟨rfl, q, rfl⟩))
  go_ret
  exact ⟨rfl, _, rfl⟩

set_option maxRecDepth 100000 in
set_option maxHeartbeats 1000000 in
theorem pseudo39 (a : Option Addr) (n c : Nat) (param s t v r : ByteArray) (k : Nat) (w : World) (hs : s.size ≤ 2097152) (hp : param.size ≤ 4096)
    (hk : k + param.size + 1 < s.size)
    (hconv : (convert 22 9 (.slice a n c)).run Try.prog w = .ok (.string s) w)
    (HI : Hid (∀ _ : Unit, Calls Try.prog 37 #[.string s, .string (param ++ ⟨#[61]⟩)] w fun e w' => e = .returned (.int .i64 k) ∧ w' = w))
    (hq : (s[k + param.size + 1]'hk).toNat = 39)
    (ht : s.extract (k + param.size + 2) s.size = t)
    (HC : Hid (∀ _ : Unit, Calls Try.prog 38 #[.string t, .string ⟨#[39]⟩] w fun e w' => e = .returned (.tuple #[.string v, .string r, .bool true]) ∧ ∃ q, w' = w.drewN q)) :
    Calls Try.prog 35 #[.slice a n c, .string param] w fun e w' => e = .returned (.string v) ∧ ∃ q, w' = w.drewN q := by
  have h39 := conv39
  have hk1 : (k : Int) + (param.size : Int) + 1 < (s.size : Int) := by omega
  have hk2 : (k : Int) + (param.size : Int) + 2 ≤ (s.size : Int) := by omega
  go_enter Try.func35, Try.ntmps35
  go_wp2_with fail
  refine wp_loop_rounds 1 ?_
  rw [rounds_succ]
  go_wp2_with (first
    | (go_at_call 37; refine (HI.out ()).mono ?_; rintro e w' ⟨rfl, rfl⟩)
    | (go_at_call 38; refine (HC.out ()).mono ?_; rintro e w' ⟨rfl, q, rfl⟩))
  go_ret
  exact ⟨rfl, _, rfl⟩

theorem nums_str (l : List UInt8) : strOfNums (l.map fun b => (b.toNat : Int)) = ⟨l.toArray⟩ := by
  unfold strOfNums
  rw [List.map_map]
  have e : ∀ l : List UInt8, l.map ((fun n : Int => UInt8.ofNat n.toNat) ∘ fun b : UInt8 => (b.toNat : Int)) = l := by
    intro l
    induction l with
    | nil => rfl
    | cons b l ih =>
      rw [List.map_cons, ih]
      show UInt8.ofNat (((b.toNat : Nat) : Int)).toNat :: l = b :: l
      simp
  rw [e]

theorem nums_at (l : List UInt8) (i : Nat) : (l.map fun b => (b.toNat : Int)).getD i 0 = at8 l i := by
  unfold at8
  rw [List.getD_eq_getElem?_getD, List.getD_eq_getElem?_getD, List.getElem?_map]
  cases l[i]? <;> rfl

theorem app_data (a b : ByteArray) : (a ++ b).data.toList = a.data.toList ++ b.data.toList := by simp

theorem conv_any (a : Option Addr) (n c : Nat) (l : List UInt8) (w : World) (h : IsB w a n l) : (convert 22 9 (.slice a n c)).run Try.prog w = .ok (.string ⟨l.toArray⟩) w := by
  rcases Nat.eq_zero_or_pos n with rfl | hn
  · have e : l = [] := List.length_eq_zero_iff.1 h.len
    subst e
    rw [run_convert_bytes_string w 22 9 5 a 0 c Try.underlying22 Try.underlying5 Try.underlying9]
    cases a with
    | none => simp [Conv.bytesToString]; rfl
    | some x => simp [Conv.bytesToString]; rfl
  · obtain ⟨b, o, rfl, hb, hc⟩ := h.cells hn
    rw [← nums_str]
    exact run_convert_bytes_arg (P := Try.prog) w 22 5 Try.underlying22 Try.underlying5 b o n c (l.map fun b => (b.toNat : Int)) (by rw [List.length_map, h.len]) (fun i hi => by rw [nums_at]; exact hc i hi) 9 Try.underlying9

set_option maxRecDepth 100000 in
set_option maxHeartbeats 1000000 in
theorem pseudo_any (a : Option Addr) (n c : Nat) (A V : List UInt8) (param : ByteArray) (q : UInt8) (m : Int) (w : World) (hq : q = 34 ∨ q = 39) (hm : w.cell? ⟨0, 0, none⟩ = some (.int .i64 m))
    (hB : IsB w a n (A ++ patL param ++ ([q] ++ (V ++ [q])))) (hidx : Lib.index (A ++ patL param) (patL param) = A.length) (hv : Lib.indexByte V q = -1) (hn : n ≤ 2097152) (hp : param.size ≤ 4096) :
    Calls Try.prog 35 #[.slice a n c, .string param] w fun e w' => e = .returned (.string ⟨V.toArray⟩) ∧ ∃ q, w' = w.drewN q := by
  have hL := hB.len
  have hP := patL_length param
  simp only [List.length_append, List.length_cons, List.length_nil] at hL
  obtain ⟨L, eL⟩ : ∃ L, L = A ++ patL param ++ ([q] ++ (V ++ [q])) := ⟨_, rfl⟩
  have hsz : (⟨L.toArray⟩ : ByteArray).size = n := by rw [Lib.size_eq, eL, ← hB.len]
  have hk : A.length + param.size + 1 < (⟨L.toArray⟩ : ByteArray).size := by rw [hsz]; omega
  have hconv : (convert 22 9 (.slice a n c)).run Try.prog w = .ok (.string ⟨L.toArray⟩) w := conv_any a n c L w (by rw [eL]; exact hB)
  have HI : Hid (∀ _ : Unit, Calls Try.prog 37 #[.string ⟨L.toArray⟩, .string (param ++ ⟨#[61]⟩)] w fun e w' => e = .returned (.int .i64 (A.length : Nat)) ∧ w' = w) := fun _ => by
    have e : Lib.index (⟨L.toArray⟩ : ByteArray).data.toList (param ++ ⟨#[61]⟩).data.toList = (A.length : Nat) := by
      rw [app_data]
      show Lib.index L (patL param) = _
      rw [eL]
      exact index_front _ hidx
    rw [← e]
    exact Try.strings_Index _ _ m w (by rw [hsz]; omega) hm
  have hqa : ((⟨L.toArray⟩ : ByteArray)[A.length + param.size + 1]'hk) = q := by
    show L[A.length + param.size + 1]'_ = q
    have e : L[A.length + param.size + 1]? = some q := by
      rw [eL, List.getElem?_append_right (by rw [List.length_append]; omega)]
      rw [show A.length + param.size + 1 - (A ++ patL param).length = 0 by rw [List.length_append]; omega]
      rfl
    exact (List.getElem?_eq_some_iff.1 e).2
  have ht : (⟨L.toArray⟩ : ByteArray).extract (A.length + param.size + 2) (⟨L.toArray⟩ : ByteArray).size = ⟨(V ++ [q]).toArray⟩ := by
    rw [Lib.extract_eq]
    show (⟨((L.drop _).take _).toArray⟩ : ByteArray) = _
    rw [List.take_of_length_le (by rw [Lib.size_eq, List.length_drop]; exact Nat.le_refl _)]
    have e : L.drop (A.length + param.size + 2) = V ++ [q] := by
      rw [eL, ← List.append_assoc, List.drop_append_of_le_length (by simp only [List.length_append, List.length_cons, List.length_nil]; omega), List.drop_of_length_le (by simp only [List.length_append, List.length_cons, List.length_nil]; omega), List.nil_append]
    rw [e]
  have HC : Hid (∀ _ : Unit, Calls Try.prog 38 #[.string ⟨(V ++ [q]).toArray⟩, .string ⟨#[q]⟩] w fun e w' => e = .returned (.tuple #[.string ⟨V.toArray⟩, .string ⟨#[]⟩, .bool true]) ∧ ∃ q, w' = w.drewN q) := fun _ => by
    have h := Try.strings_Cut ⟨(V ++ [q]).toArray⟩ ⟨#[q]⟩ m w (by rw [Lib.size_eq]; show (V ++ [q]).length < _; simp only [List.length_append, List.length_cons, List.length_nil]; omega) hm
    have e : Lib.cut (⟨(V ++ [q]).toArray⟩ : ByteArray).data.toList (⟨#[q]⟩ : ByteArray).data.toList = (V, [], true) := cut_value V q hv
    rw [e] at h
    exact h
  rcases hq with rfl | rfl
  · exact pseudo34 a n c param _ _ _ _ A.length w (by rw [hsz]; exact hn) hp hk hconv HI (by rw [hqa]; rfl) ht HC
  · exact pseudo39 a n c param _ _ _ _ A.length w (by rw [hsz]; exact hn) hp hk hconv HI (by rw [hqa]; rfl) ht HC

set_option maxRecDepth 100000 in
set_option maxHeartbeats 1000000 in
theorem zzPseudo_any (a : Option Addr) (n c : Nat) (A V : List UInt8) (param : ByteArray) (q : UInt8) (m : Int) (w : World) (hq : q = 34 ∨ q = 39) (hm : w.cell? ⟨0, 0, none⟩ = some (.int .i64 m))
    (hB : IsB w a n (A ++ patL param ++ ([q] ++ (V ++ [q])))) (hidx : Lib.index (A ++ patL param) (patL param) = A.length) (hv : Lib.indexByte V q = -1) (hn : n ≤ 2097152) (hp : param.size ≤ 4096) :
    Calls Try.prog 25 #[.slice a n c, .string param] w fun e w' => e = .returned (.string ⟨V.toArray⟩) ∧ ∃ q, w' = w.drewN q := by
  have HP : Hid (∀ _ : Unit, Calls Try.prog 35 #[.slice a n c, .string param] w fun e w' => e = .returned (.string ⟨V.toArray⟩) ∧ ∃ q, w' = w.drewN q) := fun _ => pseudo_any a n c A V param q m w hq hm hB hidx hv hn hp
  obtain ⟨v, hv'⟩ : ∃ v : ByteArray, v = ⟨V.toArray⟩ := ⟨_, rfl⟩
  rw [← hv'] at HP ⊢
  clear hv' hB hidx hv hm hq
  go_enter Try.func25, Try.ntmps25
  go_wp2_with (go_at_call 35; refine (HP.out ()).mono ?_; rintro e w' ⟨rfl, q, rfl⟩)
  go_ret
  exact ⟨rfl, _, rfl⟩

end Go.Proofs.Qxb6604025a
