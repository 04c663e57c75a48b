/-
  Seat b6604177a: matchesPattern computes 'mpS' on the segments of canonical texts.
-/
import Derived.Test.Qxb6604177aCan
import Derived.Deep.LoopGhost
namespace Go.Proofs.Qxb6604177a
open Go.RowKit
set_option linter.unusedVariables false

theorem join_tail_le (S : List (List UInt8)) : (join S.tail).length ≤ (join S).length := by
  cases S with
  | nil => exact Nat.le_refl _
  | cons x S =>
    cases S with
    | nil => exact Nat.zero_le _
    | cons y S => rw [List.tail_cons, join_more, List.length_append, List.length_cons]; omega

/-- strings.Cut at the first slash. -/
theorem cut47 (p : ByteArray) (P : List (List UInt8)) (hP : Good P) (e : p.data.toList = join P) (m : Int) (w : World) (hs : p.size ≤ 4194304) (hm : w.cell? ⟨0, 0, none⟩ = some (.int .i64 m)) :
    ∃ (h r : ByteArray) (b : Bool), h.data.toList = P.headD [] ∧ r.data.toList = join P.tail ∧ h.size ≤ 4194304 ∧ Hid (b = decide (1 < P.length)) ∧ Hid (∀ q, Calls Try.prog 32 #[.string p, .string ⟨#[47]⟩] (w.drewN q) fun e w' => e = .returned (.tuple #[.string h, .string r, .bool b]) ∧ ∃ q', w' = w.drewN q') := by
  refine ⟨⟨(P.headD []).toArray⟩, ⟨(join P.tail).toArray⟩, _, rfl, rfl, ?_, rfl, fun q => ?_⟩
  · rw [Lib.size_eq]
    show (P.headD []).length ≤ _
    have h2 : p.size = (join P).length := by rw [Lib.size_eq, e]
    cases P with
    | nil => exact Nat.zero_le _
    | cons x P =>
      cases P with
      | nil => rw [join_one] at h2; show x.length ≤ _; omega
      | cons y P => rw [join_more, List.length_append] at h2; show x.length ≤ _; omega
  · have hc := Try.strings_Cut p ⟨#[47]⟩ m (w.drewN q) (by omega) hm
    have e2 : Lib.cut p.data.toList (⟨#[47]⟩ : ByteArray).data.toList = (P.headD [], join P.tail, decide (1 < P.length)) := by rw [e]; exact cut_join hP
    rw [e2] at hc
    refine hc.mono ?_
    rintro e w' ⟨he, n, rfl⟩
    exact ⟨he, q + n, World.drewN_drewN _ _ _⟩

/-- WHAT HOLDS AT THE LOOP's HEAD. -/
structure Inv (N : Nat) (G : Bool) (a p rp rs : ByteArray) (P S RP RS : List (List UInt8)) : Prop where
  gP : Good P
  gS : Good S
  gRP : Good RP
  gRS : Good RS
  ea : a.data.toList = join S
  ep : p.data.toList = join P
  erp : rp.data.toList = join RP
  ers : rs.data.toList = join RS
  za : a.size ≤ 4194304
  zp : p.size ≤ 4194304
  zrp : rp.size ≤ 4194304
  zrs : rs.size ≤ 4194304
  lP : P.length ≤ N
  lS : S.length ≤ N
  lRP : RP.length ≤ N
  lRS : RS.length ≤ N
  tied : tie P S RP RS
  left : ans P S RP RS = G

theorem size_tail {p r : ByteArray} {P : List (List UInt8)} (e : p.data.toList = join P) (er : r.data.toList = join P.tail) (h : p.size ≤ 4194304) : r.size ≤ 4194304 := by
  have h1 : p.size = (join P).length := by rw [Lib.size_eq, e]
  have h2 : r.size = (join P.tail).length := by rw [Lib.size_eq, er]
  have := join_tail_le P
  omega

theorem Inv.star {N : Nat} {G : Bool} {a p rp rs r : ByteArray} {y : List UInt8} {P S RP RS : List (List UInt8)} (h : Inv N G a p rp rs ([42, 42] :: y :: P) S RP RS) (er : r.data.toList = join (y :: P)) : Inv N G a r r a (y :: P) S (y :: P) S := by
  have zr := size_tail h.ep er h.zp
  have hl : (y :: P).length ≤ N := Nat.le_of_succ_le h.lP
  exact ⟨h.gP.tail, h.gS, h.gP.tail, h.gS, h.ea, er, er, h.ea, h.za, zr, zr, h.za, hl, h.lS, hl, h.lS, tie_here _ _, (go_star h.tied).symm.trans h.left⟩

theorem Inv.one {N : Nat} {G : Bool} {a p rp rs r t : ByteArray} {x s : List UInt8} {P S RP RS : List (List UInt8)} (h : Inv N G a p rp rs (x :: P) (s :: S) RP RS) (hx : x ≠ [42, 42]) (hg : glob x s = true) (er : r.data.toList = join P) (et : t.data.toList = join S) : Inv N G t r rp rs P S RP RS :=
  ⟨h.gP.tail, h.gS.tail, h.gRP, h.gRS, et, er, h.erp, h.ers, size_tail h.ea et h.za, size_tail h.ep er h.zp, h.zrp, h.zrs, Nat.le_of_succ_le h.lP, Nat.le_of_succ_le h.lS, h.lRP, h.lRS, tie_one hx h.tied, (go_one hx hg).symm.trans h.left⟩

theorem Inv.again {N : Nat} {G : Bool} {a p rp rs t : ByteArray} {r : List UInt8} {P S RP T : List (List UInt8)} (h : Inv N G a p rp rs P S RP (r :: T)) (hf : mpS P S = false) (et : t.data.toList = join T) : Inv N G t rp rp t RP T RP T := by
  have zt := size_tail h.ers et h.zrs
  have hl : T.length ≤ N := Nat.le_of_succ_le h.lRS
  exact ⟨h.gRP, h.gRS.tail, h.gRP, h.gRS.tail, et, h.erp, h.erp, et, zt, h.zrp, h.zrp, zt, h.lRP, hl, h.lRP, hl, tie_here _ _, (go_again hf).symm.trans h.left⟩

theorem empty_yes {p : ByteArray} (e : p.data.toList = join []) : p.toList.isEmpty = true := by rw [Lib.toList_data, e]; rfl
theorem empty_no {p : ByteArray} {x : List UInt8} {P : List (List UInt8)} (hP : Good (x :: P)) (e : p.data.toList = join (x :: P)) : p.toList.isEmpty = false := by
  rw [Lib.toList_data, e, Bool.eq_false_iff]
  intro q
  have := (join_eq_nil hP).1 (List.isEmpty_iff.1 q)
  cases this

theorem eq_yes {h : ByteArray} (e : h.data.toList = [42, 42]) : (h.toList == [42, 42]) = true := by rw [Lib.toList_data, e]; rfl
theorem eq_no {h : ByteArray} {x : List UInt8} (e : h.data.toList = x) (hx : x ≠ [42, 42]) : (h.toList == [42, 42]) = false := by rw [Lib.toList_data, e]; simpa using hx

set_option maxRecDepth 100000 in
set_option maxHeartbeats 4000000 in
theorem matchesPattern_any (path pattern : ByteArray) (P0 S0 : List (List UInt8)) (hP0 : Good P0) (hS0 : Good S0) (eP : pattern.data.toList = join P0) (eS : path.data.toList = join S0) (m : Int) (w : World) (h0 : path.size ≤ 4194304) (h1 : pattern.size ≤ 4194304)
    (hm : w.cell? ⟨0, 0, none⟩ = some (.int .i64 m)) :
    Calls Try.prog 30 #[.string path, .string pattern] w fun e w' => e = .returned (.bool (mpS P0 S0)) ∧ ∃ q, w' = w.drewN q := by
  obtain ⟨G, hG⟩ : ∃ G, G = mpS P0 S0 := ⟨_, rfl⟩
  rw [← hG]
  obtain ⟨N, hN⟩ : ∃ N, N = P0.length + S0.length := ⟨_, rfl⟩
  have HI : Hid (Inv N G path pattern ⟨#[]⟩ ⟨#[]⟩ P0 S0 [] []) := ⟨hP0, hS0, Good.nil, Good.nil, eS, eP, rfl, rfl, h0, h1, Nat.zero_le _, Nat.zero_le _, by omega, by omega, Nat.zero_le _, Nat.zero_le _, Or.inl rfl, by rw [hG]; show (mpS P0 S0 || false) = _; rw [Bool.or_false]⟩
  have HM : Hid (w.cell? ⟨0, 0, none⟩ = some (.int .i64 m)) := hm
  clear hG hN hP0 hS0 eP eS hm h0 h1
  go_enter Try.func30, Try.ntmps30
  go_wp2_with fail
  go_loopg [0, 1, 5, 6] (meas N P0 []) (fun gk va vp vrp vrs wr => ∃ (a p rp rs : ByteArray) (P S RP RS : List (List UInt8)), va = .string a ∧ vp = .string p ∧ vrp = .string rp ∧ vrs = .string rs ∧ Hid (Inv N G a p rp rs P S RP RS) ∧ Hid (gk = meas N P RS) ∧ ∃ q, wr = w.drewN q)
  case atStart => exact ⟨_, _, _, _, _, _, _, _, rfl, rfl, rfl, rfl, HI, rfl, 0, rfl⟩
  case round =>
    clear HI
    obtain ⟨a, p, rp, rs, P, S, RP, RS, rfl, rfl, rfl, rfl, HI, HK, q, rfl⟩ := hrel
    obtain ⟨h, r, b, eh, er, zh, Hb, HC⟩ := cut47 p P HI.out.gP HI.out.ep m w HI.out.zp HM.out
    obtain ⟨g, t, b2, eg, et, zg, Hb2, HD⟩ := cut47 a S HI.out.gS HI.out.ea m w HI.out.za HM.out
    obtain ⟨u, v, b3, eu, ev, zu, Hb3, HE⟩ := cut47 rs RS HI.out.gRS HI.out.ers m w HI.out.zrs HM.out
    cases P with
    | nil =>
      have e1 : (h.toList == [42, 42]) = false := eq_no eh (by decide)
      have e2 : p.toList.isEmpty = true := empty_yes HI.out.ep
      cases S with
      | nil =>
        have e3 : a.toList.isEmpty = true := empty_yes HI.out.ea
        have HR : Hid (G = true) := HI.out.left.symm.trans (go_end RP RS)
        clear HI HK eh er eg et eu ev Hb Hb2 Hb3 zh zg zu
        go_wp2_with (first
          | (go_at_call_of 32 (Value.string p); refine (HC.out _).mono ?_; rintro e w' ⟨rfl, q1, rfl⟩)
          | (go_at_call_of 32 (Value.string a); refine (HD.out _).mono ?_; rintro e w' ⟨rfl, q2, rfl⟩)
          | (go_at_call_of 32 (Value.string rs); refine (HE.out _).mono ?_; rintro e w' ⟨rfl, q3, rfl⟩)
          | (go_at_call 29; refine (HS.out _).mono ?_; rintro e w' ⟨rfl, q4, rfl⟩))
        go_ret
        rw [HR.out]
        exact ⟨rfl, _, rfl⟩
      | cons s S' =>
        have e3 : a.toList.isEmpty = false := empty_no HI.out.gS HI.out.ea
        have hf : Hid (mpS [] (s :: S') = false) := rfl
        cases RS with
        | nil =>
          have e4 : rs.toList.isEmpty = true := empty_yes HI.out.ers
          have HR : Hid (G = false) := HI.out.left.symm.trans (go_stop hf.out)
          clear HI HK eh er eg et eu ev Hb Hb2 Hb3 zh zg zu hf
          go_wp2_with (first
            | (go_at_call_of 32 (Value.string p); refine (HC.out _).mono ?_; rintro e w' ⟨rfl, q1, rfl⟩)
            | (go_at_call_of 32 (Value.string a); refine (HD.out _).mono ?_; rintro e w' ⟨rfl, q2, rfl⟩)
            | (go_at_call_of 32 (Value.string rs); refine (HE.out _).mono ?_; rintro e w' ⟨rfl, q3, rfl⟩)
            | (go_at_call 29; refine (HS.out _).mono ?_; rintro e w' ⟨rfl, q4, rfl⟩))
          go_ret
          rw [HR.out]
          exact ⟨rfl, _, rfl⟩
        | cons r0 T =>
          have e4 : rs.toList.isEmpty = false := empty_no HI.out.gRS HI.out.ers
          have HN : Hid (Inv N G v rp rp v RP T RP T) := HI.out.again hf.out ev
          have HL : Hid (meas N RP T < gk) := by show _ < _; rw [HK.out]; exact meas_again HI.out.tied HI.out.lRP
          clear HI HK eh er eg et eu ev Hb Hb2 Hb3 zh zg zu hf
          go_wp2_with (first
            | (go_at_call_of 32 (Value.string p); refine (HC.out _).mono ?_; rintro e w' ⟨rfl, q1, rfl⟩)
            | (go_at_call_of 32 (Value.string a); refine (HD.out _).mono ?_; rintro e w' ⟨rfl, q2, rfl⟩)
            | (go_at_call_of 32 (Value.string rs); refine (HE.out _).mono ?_; rintro e w' ⟨rfl, q3, rfl⟩)
            | (go_at_call 29; refine (HS.out _).mono ?_; rintro e w' ⟨rfl, q4, rfl⟩))
          go_roundg (meas N RP T)
          case measure => exact HL.out
          case rel => exact ⟨_, _, _, _, _, _, _, _, rfl, rfl, rfl, rfl, HN, rfl, _, rfl⟩
    | cons x P' =>
      have e2 : p.toList.isEmpty = false := empty_no HI.out.gP HI.out.ep
      by_cases hx : x = [42, 42]
      · subst hx
        have e1 : (h.toList == [42, 42]) = true := eq_yes eh
        cases P' with
        | nil =>
          obtain rfl : b = false := by rw [Hb.out]; rfl
          cases S with
          | nil =>
            have e3 : a.toList.isEmpty = true := empty_yes HI.out.ea
            have HR : Hid (G = false) := HI.out.left.symm.trans (go_last HI.out.tied)
            clear HI HK eh er eg et eu ev Hb Hb2 Hb3 zh zg zu
            go_wp2_with (first
              | (go_at_call_of 32 (Value.string p); refine (HC.out _).mono ?_; rintro e w' ⟨rfl, q1, rfl⟩)
              | (go_at_call_of 32 (Value.string a); refine (HD.out _).mono ?_; rintro e w' ⟨rfl, q2, rfl⟩)
              | (go_at_call_of 32 (Value.string rs); refine (HE.out _).mono ?_; rintro e w' ⟨rfl, q3, rfl⟩)
              | (go_at_call 29; refine (HS.out _).mono ?_; rintro e w' ⟨rfl, q4, rfl⟩))
            go_ret
            rw [HR.out]
            exact ⟨rfl, _, rfl⟩
          | cons s S' =>
            have e3 : a.toList.isEmpty = false := empty_no HI.out.gS HI.out.ea
            have HR : Hid (G = true) := HI.out.left.symm.trans (go_last HI.out.tied)
            clear HI HK eh er eg et eu ev Hb Hb2 Hb3 zh zg zu
            go_wp2_with (first
              | (go_at_call_of 32 (Value.string p); refine (HC.out _).mono ?_; rintro e w' ⟨rfl, q1, rfl⟩)
              | (go_at_call_of 32 (Value.string a); refine (HD.out _).mono ?_; rintro e w' ⟨rfl, q2, rfl⟩)
              | (go_at_call_of 32 (Value.string rs); refine (HE.out _).mono ?_; rintro e w' ⟨rfl, q3, rfl⟩)
              | (go_at_call 29; refine (HS.out _).mono ?_; rintro e w' ⟨rfl, q4, rfl⟩))
            go_ret
            rw [HR.out]
            exact ⟨rfl, _, rfl⟩
        | cons y P'' =>
          obtain rfl : b = true := by rw [Hb.out]; simp
          have HN : Hid (Inv N G a r r a (y :: P'') S (y :: P'') S) := HI.out.star er
          have HL : Hid (meas N (y :: P'') S < gk) := by show _ < _; rw [HK.out]; exact meas_star HI.out.lS (Nat.le_of_succ_le HI.out.lP)
          clear HI HK eh er eg et eu ev Hb Hb2 Hb3 zh zg zu
          go_wp2_with (first
            | (go_at_call_of 32 (Value.string p); refine (HC.out _).mono ?_; rintro e w' ⟨rfl, q1, rfl⟩)
            | (go_at_call_of 32 (Value.string a); refine (HD.out _).mono ?_; rintro e w' ⟨rfl, q2, rfl⟩)
            | (go_at_call_of 32 (Value.string rs); refine (HE.out _).mono ?_; rintro e w' ⟨rfl, q3, rfl⟩)
            | (go_at_call 29; refine (HS.out _).mono ?_; rintro e w' ⟨rfl, q4, rfl⟩))
          go_roundg (meas N (y :: P'') S)
          case measure => exact HL.out
          case rel => exact ⟨_, _, _, _, _, _, _, _, rfl, rfl, rfl, rfl, HN, rfl, _, rfl⟩
      · have e1 : (h.toList == [42, 42]) = false := eq_no eh hx
        cases S with
        | nil =>
          have e3 : a.toList.isEmpty = true := empty_yes HI.out.ea
          have hf : Hid (mpS (x :: P') [] = false) := mpS_lit_nil hx P'
          clear hx
          cases RS with
          | nil =>
            have e4 : rs.toList.isEmpty = true := empty_yes HI.out.ers
            have HR : Hid (G = false) := HI.out.left.symm.trans (go_stop hf.out)
            clear HI HK eh er eg et eu ev Hb Hb2 Hb3 zh zg zu hf
            go_wp2_with (first
              | (go_at_call_of 32 (Value.string p); refine (HC.out _).mono ?_; rintro e w' ⟨rfl, q1, rfl⟩)
              | (go_at_call_of 32 (Value.string a); refine (HD.out _).mono ?_; rintro e w' ⟨rfl, q2, rfl⟩)
              | (go_at_call_of 32 (Value.string rs); refine (HE.out _).mono ?_; rintro e w' ⟨rfl, q3, rfl⟩)
              | (go_at_call 29; refine (HS.out _).mono ?_; rintro e w' ⟨rfl, q4, rfl⟩))
            go_ret
            rw [HR.out]
            exact ⟨rfl, _, rfl⟩
          | cons r0 T =>
            have e4 : rs.toList.isEmpty = false := empty_no HI.out.gRS HI.out.ers
            have HN : Hid (Inv N G v rp rp v RP T RP T) := HI.out.again hf.out ev
            have HL : Hid (meas N RP T < gk) := by show _ < _; rw [HK.out]; exact meas_again HI.out.tied HI.out.lRP
            clear HI HK eh er eg et eu ev Hb Hb2 Hb3 zh zg zu hf
            go_wp2_with (first
              | (go_at_call_of 32 (Value.string p); refine (HC.out _).mono ?_; rintro e w' ⟨rfl, q1, rfl⟩)
              | (go_at_call_of 32 (Value.string a); refine (HD.out _).mono ?_; rintro e w' ⟨rfl, q2, rfl⟩)
              | (go_at_call_of 32 (Value.string rs); refine (HE.out _).mono ?_; rintro e w' ⟨rfl, q3, rfl⟩)
              | (go_at_call 29; refine (HS.out _).mono ?_; rintro e w' ⟨rfl, q4, rfl⟩))
            go_roundg (meas N RP T)
            case measure => exact HL.out
            case rel => exact ⟨_, _, _, _, _, _, _, _, rfl, rfl, rfl, rfl, HN, rfl, _, rfl⟩
        | cons s S' =>
          have e3 : a.toList.isEmpty = false := empty_no HI.out.gS HI.out.ea
          have HS0 : Hid (∀ q, Calls Try.prog 29 #[.string g, .string h] (w.drewN q) fun e w' => e = .returned (.bool (glob x s)) ∧ ∃ q', w' = w.drewN q') := fun q => by
            have hc := matchesSegment_any g h m (w.drewN q) zg zh HM.out
            rw [show h.data.toList = x from eh, show g.data.toList = s from eg] at hc
            refine hc.mono ?_
            rintro e w' ⟨he, n, rfl⟩
            exact ⟨he, q + n, World.drewN_drewN _ _ _⟩
          by_cases hg : glob x s = true
          · have HS : Hid (∀ q, Calls Try.prog 29 #[.string g, .string h] (w.drewN q) fun e w' => e = .returned (.bool true) ∧ ∃ q', w' = w.drewN q') := fun q => by rw [← hg]; exact HS0.out q
            have HN : Hid (Inv N G t r rp rs P' S' RP RS) := HI.out.one hx hg er et
            have HL : Hid (meas N P' RS < gk) := by show _ < _; rw [HK.out]; exact meas_one hx
            clear HI HK eh er eg et eu ev Hb Hb2 Hb3 zh zg zu HS0 hg hx
            go_wp2_with (first
              | (go_at_call_of 32 (Value.string p); refine (HC.out _).mono ?_; rintro e w' ⟨rfl, q1, rfl⟩)
              | (go_at_call_of 32 (Value.string a); refine (HD.out _).mono ?_; rintro e w' ⟨rfl, q2, rfl⟩)
              | (go_at_call_of 32 (Value.string rs); refine (HE.out _).mono ?_; rintro e w' ⟨rfl, q3, rfl⟩)
              | (go_at_call 29; refine (HS.out _).mono ?_; rintro e w' ⟨rfl, q4, rfl⟩))
            go_roundg (meas N P' RS)
            case measure => exact HL.out
            case rel => exact ⟨_, _, _, _, _, _, _, _, rfl, rfl, rfl, rfl, HN, rfl, _, rfl⟩
          · have hg : glob x s = false := by simpa using hg
            have HS : Hid (∀ q, Calls Try.prog 29 #[.string g, .string h] (w.drewN q) fun e w' => e = .returned (.bool false) ∧ ∃ q', w' = w.drewN q') := fun q => by rw [← hg]; exact HS0.out q
            have hf : Hid (mpS (x :: P') (s :: S') = false) := by show _ = _; rw [mpS_lit_cons hx, hg]; rfl
            clear HS0 hg hx
            cases RS with
            | nil =>
              have e4 : rs.toList.isEmpty = true := empty_yes HI.out.ers
              have HR : Hid (G = false) := HI.out.left.symm.trans (go_stop hf.out)
              clear HI HK eh er eg et eu ev Hb Hb2 Hb3 zh zg zu hf
              go_wp2_with (first
                | (go_at_call_of 32 (Value.string p); refine (HC.out _).mono ?_; rintro e w' ⟨rfl, q1, rfl⟩)
                | (go_at_call_of 32 (Value.string a); refine (HD.out _).mono ?_; rintro e w' ⟨rfl, q2, rfl⟩)
                | (go_at_call_of 32 (Value.string rs); refine (HE.out _).mono ?_; rintro e w' ⟨rfl, q3, rfl⟩)
                | (go_at_call 29; refine (HS.out _).mono ?_; rintro e w' ⟨rfl, q4, rfl⟩))
              go_ret
              rw [HR.out]
              exact ⟨rfl, _, rfl⟩
            | cons r0 T =>
              have e4 : rs.toList.isEmpty = false := empty_no HI.out.gRS HI.out.ers
              have HN : Hid (Inv N G v rp rp v RP T RP T) := HI.out.again hf.out ev
              have HL : Hid (meas N RP T < gk) := by show _ < _; rw [HK.out]; exact meas_again HI.out.tied HI.out.lRP
              clear HI HK eh er eg et eu ev Hb Hb2 Hb3 zh zg zu hf
              go_wp2_with (first
                | (go_at_call_of 32 (Value.string p); refine (HC.out _).mono ?_; rintro e w' ⟨rfl, q1, rfl⟩)
                | (go_at_call_of 32 (Value.string a); refine (HD.out _).mono ?_; rintro e w' ⟨rfl, q2, rfl⟩)
                | (go_at_call_of 32 (Value.string rs); refine (HE.out _).mono ?_; rintro e w' ⟨rfl, q3, rfl⟩)
                | (go_at_call 29; refine (HS.out _).mono ?_; rintro e w' ⟨rfl, q4, rfl⟩))
              go_roundg (meas N RP T)
              case measure => exact HL.out
              case rel => exact ⟨_, _, _, _, _, _, _, _, rfl, rfl, rfl, rfl, HN, rfl, _, rfl⟩

set_option maxRecDepth 100000 in
set_option maxHeartbeats 1000000 in
/-- ZZMatchesPattern. -/
theorem zzPattern_any (path pattern : ByteArray) (P0 S0 : List (List UInt8)) (hP0 : Good P0) (hS0 : Good S0) (eP : pattern.data.toList = join P0) (eS : path.data.toList = join S0) (m : Int) (w : World) (h0 : path.size ≤ 4194304) (h1 : pattern.size ≤ 4194304)
    (hm : w.cell? ⟨0, 0, none⟩ = some (.int .i64 m)) :
    Calls Try.prog 23 #[.string path, .string pattern] w fun e w' => e = .returned (.bool (mpS P0 S0)) ∧ ∃ q, w' = w.drewN q := by
  obtain ⟨G, hG⟩ : ∃ G, G = mpS P0 S0 := ⟨_, rfl⟩
  have HS : Hid (∀ _ : Unit, Calls Try.prog 30 #[.string path, .string pattern] w fun e w' => e = .returned (.bool G) ∧ ∃ q, w' = w.drewN q) := fun _ => by rw [hG]; exact matchesPattern_any path pattern P0 S0 hP0 hS0 eP eS m w h0 h1 hm
  rw [← hG]
  clear hG hm hP0 hS0 eP eS
  go_enter Try.func23, Try.ntmps23
  go_wp2_with (go_at_call 30; refine (HS.out ()).mono ?_; rintro e w' ⟨rfl, q, rfl⟩)
  go_ret
  exact ⟨rfl, _, rfl⟩

end Go.Proofs.Qxb6604177a
