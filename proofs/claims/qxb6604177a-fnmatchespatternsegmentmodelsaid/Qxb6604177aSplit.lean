/-
  Seat b6604177a: b1Split lays the segments of a canonical text, one string a segment.
-/
import Derived.Test.Qxb6604177aCan
import Derived.OwnWalk
import Derived.Maps.AppendAt
namespace Go.Proofs.Qxb6604177a
open Go.RowKit
set_option linter.unusedVariables false

theorem info9 : (Try.prog.info? 9).map (fun i => (i.zero, i.size, i.bytes)) = some (some (.string ByteArray.empty), 1, 16) := by kernel_rfl

/-- Segments, each with a slash behind it. -/
def flat : List (List UInt8) → List UInt8
  | [] => []
  | x :: D => x ++ 47 :: flat D

theorem join_flat (D : List (List UInt8)) (x : List UInt8) (T : List (List UInt8)) : join (D ++ x :: T) = flat D ++ join (x :: T) := by
  induction D with
  | nil => rfl
  | cons d D ih =>
    have e : join (d :: (D ++ x :: T)) = d ++ 47 :: join (D ++ x :: T) := by
      cases D with
      | nil => rfl
      | cons y D => rfl
    rw [List.cons_append, e, ih]
    show d ++ 47 :: (flat D ++ join (x :: T)) = (d ++ 47 :: flat D) ++ join (x :: T)
    simp

theorem flat_snoc (D : List (List UInt8)) (x : List UInt8) : (flat (D ++ [x])).length = (flat D).length + x.length + 1 := by
  induction D with
  | nil => show (x ++ [47]).length = _; simp [flat]
  | cons d D ih =>
    show (d ++ 47 :: flat (D ++ [x])).length = (d ++ 47 :: flat D).length + x.length + 1
    rw [List.length_append, List.length_append, List.length_cons, List.length_cons, ih]
    omega

theorem count_le (D : List (List UInt8)) : D.length ≤ (flat D).length := by
  induction D with
  | nil => exact Nat.le_refl _
  | cons d D ih =>
    show D.length + 1 ≤ (d ++ 47 :: flat D).length
    rw [List.length_append, List.length_cons]
    omega

/-- The bytes of one segment, as a string. -/
def strB (x : List UInt8) : ByteArray := ⟨x.toArray⟩
/-- The segments, as cells. -/
def strV (x : List UInt8) : Value := .string (strB x)

section
variable {s : ByteArray} {D T : List (List UInt8)} {x : List UInt8}

theorem at_in (hs : s.data.toList = join (D ++ x :: T)) (hx : ∀ c ∈ x, c ≠ 47) {j : Nat} (hj : j < x.length) : ∃ h : (flat D).length + j < s.size, s[(flat D).length + j] ≠ 47 := by
  obtain ⟨r, er⟩ : ∃ r, join (x :: T) = x ++ r := by
    cases T with
    | nil => exact ⟨[], by rw [join_one, List.append_nil]⟩
    | cons y T => exact ⟨_, join_more x y T⟩
  have hsz : s.size = (flat D).length + (x.length + r.length) := by rw [Lib.size_eq, hs, join_flat, er, List.length_append, List.length_append]
  have hlt : (flat D).length + j < s.size := by omega
  refine ⟨hlt, ?_⟩
  have g := get_str s _ hlt
  rw [hs, join_flat, er, List.getElem?_append_right (by omega), Nat.add_sub_cancel_left, List.getElem?_append_left hj, List.getElem?_eq_getElem hj] at g
  intro q
  rw [q] at g
  exact hx x[j] (List.getElem_mem hj) (by simpa using g)

theorem at_end {y : List UInt8} (hs : s.data.toList = join (D ++ x :: y :: T)) : ∃ h : (flat D).length + x.length < s.size, s[(flat D).length + x.length] = 47 := by
  have hsz : s.size = (flat D).length + (x.length + ((join (y :: T)).length + 1)) := by rw [Lib.size_eq, hs, join_flat, join_more, List.length_append, List.length_append, List.length_cons]
  have hlt : (flat D).length + x.length < s.size := by omega
  refine ⟨hlt, ?_⟩
  have g := get_str s _ hlt
  rw [hs, join_flat, join_more, List.getElem?_append_right (by omega), Nat.add_sub_cancel_left, List.getElem?_append_right (Nat.le_refl _), Nat.sub_self] at g
  have g' : some (47 : UInt8) = some s[(flat D).length + x.length] := g
  exact (Option.some.inj g').symm

theorem size_last (hs : s.data.toList = join (D ++ [x])) : s.size = (flat D).length + x.length := by
  rw [Lib.size_eq, hs, join_flat, join_one, List.length_append]

theorem cut_out (hs : s.data.toList = join (D ++ x :: T)) : s.extract (flat D).length ((flat D).length + x.length) = strB x := by
  rw [Lib.extract_eq, hs, join_flat, List.drop_left, Nat.add_sub_cancel_left]
  have : (join (x :: T)).take x.length = x := by
    cases T with
    | nil => rw [join_one]; exact List.take_of_length_le (Nat.le_refl _)
    | cons y T => rw [join_more]; exact List.take_left
  rw [this]
  rfl
end

section
variable {s : ByteArray} {S D T : List (List UInt8)} {x : List UInt8} {st j : Nat}

theorem in_test (hE : s.data.toList = join S) (hG : Good S) (hD : S = D ++ x :: T) (hst : st = (flat D).length) (hj : j < x.length) : ∃ h : st + j < s.size, ((s[st + j].toNat : Int) == 47) = false := by
  subst hst hD
  obtain ⟨h, hc⟩ := at_in hE (hG x (by simp)).2 hj
  exact ⟨h, byte_ne hc⟩

theorem end_test {y : List UInt8} (hE : s.data.toList = join S) (hD : S = D ++ x :: y :: T) (hst : st = (flat D).length) (hj : j = x.length) : ∃ h : st + j < s.size, ((s[st + j].toNat : Int) == 47) = true := by
  subst hst hD hj
  obtain ⟨h, hc⟩ := at_end hE
  exact ⟨h, by rw [hc]; rfl⟩

theorem out_test (hE : s.data.toList = join S) (hD : S = D ++ x :: T) (hst : st = (flat D).length) (hj : j = x.length) : s.extract st (st + j) = strB x := by
  subst hst hD hj
  exact cut_out hE

theorem last_test (hE : s.data.toList = join S) (hD : S = D ++ [x]) (hst : st = (flat D).length) (hj : j = x.length) : s.size = st + j := by
  subst hst hD hj
  exact size_last hE

theorem next_start {y : List UInt8} (hD : S = D ++ x :: y :: T) (hst : st = (flat D).length) (hj : j = x.length) : S = (D ++ [x]) ++ y :: T ∧ st + j + 1 = (flat (D ++ [x])).length := by
  subst hst hD hj
  exact ⟨by simp, (flat_snoc D x).symm⟩
end

theorem map_snoc (D : List (List UInt8)) (x : List UInt8) : (D ++ [x]).map strV = D.map strV ++ [.string (strB x)] := by rw [List.map_append]; rfl

/-- WHAT A SLICE OF STRINGS READS AS. -/
structure IsS (w : World) (a : Option Addr) (n : Nat) (S : List (List UInt8)) : Prop where
  len : S.length = n
  cells : 0 < n → ∃ g, a = some ⟨g, 0, none⟩ ∧ g < w.heap.size ∧ ∀ i, i < n → w.cell? ⟨g, i, none⟩ = some (.string (strB (S.getD i [])))

theorem IsS.below {w w' : World} {a : Option Addr} {n : Nat} {S : List (List UInt8)} (h : IsS w a n S) (hb : Below w.heap.size w w') : IsS w' a n S :=
  ⟨h.len, fun hn => by
    obtain ⟨g, ha, hlt, hc⟩ := h.cells hn
    exact ⟨g, ha, Nat.lt_of_lt_of_le hlt hb.size, fun i hi => (hb.cell (p := ⟨g, i, none⟩) hlt).trans (hc i hi)⟩⟩

theorem addr_plain (g i : Nat) : (⟨g, 0, none⟩ : Addr).add i = ⟨g, i, none⟩ := by
  rw [Go.WideShapes.add_plain, Nat.zero_add]

theorem isS_of_owns {w : World} {B : Nat} {v : Value} {S : List (List UInt8)} (h : w.ownsRow B 9 1 v S.length (S.map strV)) : ∃ a c, v = .slice a S.length c ∧ IsS w a S.length S := by
  rcases h.2 with ⟨rfl, h0⟩ | ⟨g, cap, cur, rfl, hg, hh, hn, hc, hs, htake⟩
  · exact ⟨none, 0, by rw [h0], rfl, fun hn => by omega⟩
  · refine ⟨_, _, rfl, rfl, fun hn0 => ⟨g, rfl, (h.lt g rfl).2, fun i hi => ?_⟩⟩
    have := h.cells (g := g) rfl i (strV (S.getD i [])) (by rw [List.getElem?_map, List.getElem?_eq_getElem hi, List.getD_eq_getElem?_getD, List.getElem?_eq_getElem hi]; rfl)
    rw [show (⟨g, 0, none⟩ : Addr).add i = ⟨g, i, none⟩ from addr_plain g i] at this
    exact this

/-- What b1Split hands back. -/
def SplitEnds (S : List (List UInt8)) (w : World) (e : Ending) (w' : World) : Prop := ∃ a c, e = .returned (.slice a S.length c) ∧ IsS w' a S.length S ∧ Below w.heap.size w w'
theorem split_none (w : World) : SplitEnds [] w (.returned (.slice none 0 0)) w := ⟨none, 0, rfl, ⟨rfl, fun hn => absurd hn (Nat.lt_irrefl _)⟩, Below.refl _ _⟩
theorem split_of {S : List (List UInt8)} {w w1 : World} {v : Value} (h : w1.ownsRow w.heap.size 9 1 v S.length (S.map strV)) (hb : Below w.heap.size w w1) : SplitEnds S w (.returned v) w1 := by
  obtain ⟨a, c, rfl, hi⟩ := isS_of_owns h
  exact ⟨a, c, rfl, hi, hb⟩

set_option maxRecDepth 100000 in
set_option maxHeartbeats 2000000 in
theorem split_any (s : ByteArray) (S : List (List UInt8)) (hS : Good S) (es : s.data.toList = join S) (hs : s.size ≤ 4096) (w : World) :
    Calls Try.prog 31 #[.string s] w fun e w' => SplitEnds S w e w' := by
  cases S with
  | nil =>
    have e : s = ⟨#[]⟩ := by
      rw [← Lib.mk_data s, es]; rfl
    subst e
    go_enter Try.func31, Try.ntmps31
    go_wp2_with fail
    go_ret
    exact split_none w
  | cons x0 T0 =>
    obtain ⟨i0, ia, ib, ic, id⟩ := info_parts info9
    have hne : s.toList.isEmpty = false := by
      rw [Lib.toList_data, es, Bool.eq_false_iff]
      intro q
      have := (join_eq_nil hS).1 (List.isEmpty_iff.1 q)
      cases this
    obtain ⟨S, hSd⟩ : ∃ S, S = x0 :: T0 := ⟨_, rfl⟩
    rw [← hSd] at es hS ⊢
    have HE : Hid (s.data.toList = join S) := es
    have HG : Hid (Good S) := hS
    have H0 : Hid (S = [] ++ x0 :: T0) := hSd
    clear es hS hSd
    go_enter Try.func31, Try.ntmps31
    go_wp2_with fail
    go_loopw [3, 4, 5] (fun v vs vk wr => ∃ (D T : List (List UInt8)) (x : List UInt8) (st j : Nat), Hid (S = D ++ x :: T) ∧ j ≤ x.length ∧ Hid (st = (flat D).length) ∧ vs = .int .i64 st ∧ vk = .int .i64 ((st : Int) + (j : Int)) ∧ st + j ≤ s.size ∧ D.length ≤ st ∧ wr.ownsRow w.heap.size 9 1 v D.length (D.map strV) ∧ Below w.heap.size w wr) (fun _ _ vk _ => s.size - (intOf vk).toNat)
    case atStart => exact ⟨[], T0, x0, 0, 0, H0, Nat.zero_le _, rfl, rfl, rfl, Nat.zero_le _, Nat.le_refl _, World.ownsRow_nil _ _ _ _, Below.refl _ _⟩
    case round =>
      obtain ⟨D, T, x, st, j, HD, hj, HT, rfl, rfl, hk, hdl, hown, hbel⟩ := hrel
      clear hne
      by_cases hjx : j < x.length
      · obtain ⟨hlt, ht⟩ := in_test HE.out HG.out HD.out HT.out hjx
        have hz : (st : Int) + (j : Int) < (s.size : Int) := by omega
        have HO : Hid _ := hown
        clear hown
        go_wp2_with fail
        go_roundw
        case rel => exact ⟨D, T, x, st, j + 1, HD, by omega, HT, rfl, by go_num, by omega, hdl, HO.out, hbel⟩
        case measure => simp [intOf]; omega
      · have hjx2 : j = x.length := by omega
        cases T with
        | cons y T =>
          obtain ⟨hlt, ht⟩ := end_test HE.out HD.out HT.out hjx2
          have he := out_test HE.out HD.out HT.out hjx2
          obtain ⟨hD2, hT2⟩ := next_start HD.out HT.out hjx2
          have HD2 : Hid (S = (D ++ [x]) ++ y :: T) := hD2
          have HT2 : Hid (st + j + 1 = (flat (D ++ [x])).length) := hT2
          have hz : (st : Int) + (j : Int) < (s.size : Int) := by omega
          have hz1 : (st : Int) ≤ (st : Int) + (j : Int) := by omega
          have hz2 : (st : Int) + (j : Int) ≤ (s.size : Int) := by omega
          have hwb := hbel.size
          clear hD2 hT2 hjx hjx2 HD HT
          go_wp2_with (at_builtin; refine wpList_append_own _ rfl _ _ 35 rfl w.heap.size 9 i0 (.string ByteArray.empty) 1 16 Try.underlying35 ia ib ic id rfl (by decide) _ _ _ rfl (hown.alloc _) ⟨wr.heap.size, 0, none⟩ 1 1 [.string (strB x)] rfl rfl (cell_one_new _ _ _) ?c2 ?c3 ?c4 ?c5 ?_)
          case c2 => first | rfl | (intro u hu; simp at hu; subst hu; rfl)
          case c3 => unfold maxLen; omega
          case c4 => omega
          case c5 => first | omega | (simp; omega)
          intro v' w1 hown' hgrow _
          have R : Hid (w1.ownsRow w.heap.size 9 1 v' (D ++ [x]).length ((D ++ [x]).map strV)) := by show World.ownsRow _ _ _ _ _ _ _; rw [map_snoc, List.length_append]; exact hown'
          have B : Hid (Below w.heap.size w w1) := Below.grown (hbel.alloc hwb _) hgrow (by simp; omega) (fun k hk => (hown.lt k hk).1)
          have hdl2 : (D ++ [x]).length ≤ st + j + 1 := by rw [List.length_append]; show D.length + 1 ≤ _; omega
          clear hown' hgrow hown hbel he
          go_wp2_with fail
          go_roundw
          case rel => exact ⟨D ++ [x], T, y, st + j + 1, 0, HD2, Nat.zero_le _, HT2, by go_num, by go_num, by omega, hdl2, R.out, B.out⟩
          case measure => simp [intOf]; omega
        | nil =>
          have hsz := last_test HE.out HD.out HT.out hjx2
          have he : s.extract st s.size = strB x := by rw [hsz]; exact out_test HE.out HD.out HT.out hjx2
          have hlt : s.size ≤ st + j := by omega
          have hz0 : (st : Int) ≤ (s.size : Int) := by omega
          have hz2 : ¬ (st : Int) + (j : Int) < (s.size : Int) := by omega
          have hwb := hbel.size
          clear hjx hjx2 HT hsz
          go_wp2_with (at_builtin; refine wpList_append_own _ rfl _ _ 35 rfl w.heap.size 9 i0 (.string ByteArray.empty) 1 16 Try.underlying35 ia ib ic id rfl (by decide) _ _ _ rfl (hown.alloc _) ⟨wr.heap.size, 0, none⟩ 1 1 [.string (strB x)] rfl rfl (cell_one_new _ _ _) ?c2 ?c3 ?c4 ?c5 ?_)
          case c2 => first | rfl | (intro u hu; simp at hu; subst hu; rfl)
          case c3 => unfold maxLen; omega
          case c4 => omega
          case c5 => first | omega | (simp; omega)
          intro v' w1 hown' hgrow _
          have R : w1.ownsRow w.heap.size 9 1 v' S.length (S.map strV) := by rw [HD.out, map_snoc, List.length_append]; exact hown'
          have B : Below w.heap.size w w1 := Below.grown (hbel.alloc hwb _) hgrow (by simp; omega) (fun k hk => (hown.lt k hk).1)
          have F : Hid (SplitEnds S w (.returned v') w1) := split_of R B
          clear hown' hgrow hown hbel he R B HD HE HG H0
          go_wp2_with fail
          go_ret
          exact F.out

end Go.Proofs.Qxb6604177a
