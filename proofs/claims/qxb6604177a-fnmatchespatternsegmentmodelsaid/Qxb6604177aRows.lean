/-
  No cell of these rows narrows 'for every input' (looked for: loops, veiled, ifaces, maps, wideKeys, modest, calm, conditions, laid).
  DERIVED. THE GIVEN ROWS OF THIS SEAT. 7 by the template 'for every input the law returns true; each argument reads behind the call as it read before'; 0 by the template 'total and deterministic' (their statements: Qxb6604177aTotals.lean).
  GIVEN WITH THE SEED: the statements are not yours to turn. If you find one false, say at which input.
  Laid BY PROGRAM, IN A SANDBOX (cutbox-rows.mjs): the forced cells as the released guide's own fill.sh prints them over the translation bd473942fae2d3d6… (all of the seat's roots in one cut). By AI agents, Wed Nov 11 2026. No macro, syntax, notation, axiom, sorry.
-/
import Derived.Test.Qxb6604177aChecked
import GoSem.Claim
import GoSem.ClaimJoined
import GoSem.ClaimMapViews
import Derived.JoinedTies
import Derived.KernelRfl
namespace Go.Proofs.Qxb6604177a
/- THE CELL 'sum', in the pinned program and in every row, IS THE sha256 OF THE DUMP (.gsa) THAT Qxb6604177aProg.lean LOADS. Nothing in Lean hashes anything: it is a label: what it is worth is what the hold of that sum in a sandbox is worth. -/
noncomputable def Try.pinned : Pinned := { name := "qxb6604177a", sum := "bd473942fae2d3d639e64798c3cadf41fd143624bc1c359a9b01be07f48647cb", checked := Try.checked }
namespace Rows
def none {H : Type} : Left H := { results := [], args := [] }

/-- 'zzlaws_root_b1.FnSmallIntegerSpec': WHATEVER THE INPUT: true; the input reads as it did. -/
def fnSmallIntegerSpecSpec : ChangeSpec := { name := "fnSmallIntegerSpec", fn := fun _ => fun
  | [d] => { results := [.lit (.bool true)], args := [d] }
  | _ => none }
def fnSmallIntegerSpecRow : OpenClaim := { program := "qxb6604177a", sum := "bd473942fae2d3d639e64798c3cadf41fd143624bc1c359a9b01be07f48647cb", func := "example.com/access-rulebook/access-rulebook/zzlaws_root_b1.FnSmallIntegerSpec", spec := "fnSmallIntegerSpec", apart := false }
def FnSmallIntegerSpecSaid : Prop := fnSmallIntegerSpecRow.holds Try.pinned (OpenSpec.ofChange fnSmallIntegerSpecSpec)

/-- ITS FALSE NEIGHBOUR: 'it returns false'. Refute it at one input. -/
def fnSmallIntegerSpecWrong : ChangeSpec := { name := "fnSmallIntegerSpec", fn := fun _ => fun
  | [d] => { results := [.lit (.bool false)], args := [d] }
  | _ => none }
def FnSmallIntegerSpecWrongFalsely : Prop := fnSmallIntegerSpecRow.holds Try.pinned (OpenSpec.ofChange fnSmallIntegerSpecWrong)

/-- 'zzlaws_root_b1.FnSmallIntegerReadsWhatDecimalWrites': WHATEVER THE INPUT: true; the input reads as it did. -/
def fnSmallIntegerReadsWhatDecimalWritesSpec : ChangeSpec := { name := "fnSmallIntegerReadsWhatDecimalWrites", fn := fun _ => fun
  | [d1, d2] => { results := [.lit (.bool true)], args := [d1, d2] }
  | _ => none }
def fnSmallIntegerReadsWhatDecimalWritesRow : OpenClaim := { program := "qxb6604177a", sum := "bd473942fae2d3d639e64798c3cadf41fd143624bc1c359a9b01be07f48647cb", func := "example.com/access-rulebook/access-rulebook/zzlaws_root_b1.FnSmallIntegerReadsWhatDecimalWrites", spec := "fnSmallIntegerReadsWhatDecimalWrites", apart := false }
def FnSmallIntegerReadsWhatDecimalWritesSaid : Prop := fnSmallIntegerReadsWhatDecimalWritesRow.holds Try.pinned (OpenSpec.ofChange fnSmallIntegerReadsWhatDecimalWritesSpec)

/-- ITS FALSE NEIGHBOUR: 'it returns false'. Refute it at one input. -/
def fnSmallIntegerReadsWhatDecimalWritesWrong : ChangeSpec := { name := "fnSmallIntegerReadsWhatDecimalWrites", fn := fun _ => fun
  | [d1, d2] => { results := [.lit (.bool false)], args := [d1, d2] }
  | _ => none }
def FnSmallIntegerReadsWhatDecimalWritesWrongFalsely : Prop := fnSmallIntegerReadsWhatDecimalWritesRow.holds Try.pinned (OpenSpec.ofChange fnSmallIntegerReadsWhatDecimalWritesWrong)

/-- 'zzlaws_root_b1.FnMatchesSegmentGlobModel': WHATEVER THE INPUT: true; the input reads as it did. -/
def fnMatchesSegmentGlobModelSpec : ChangeSpec := { name := "fnMatchesSegmentGlobModel", fn := fun _ => fun
  | [d1, d2] => { results := [.lit (.bool true)], args := [d1, d2] }
  | _ => none }
def fnMatchesSegmentGlobModelRow : OpenClaim := { program := "qxb6604177a", sum := "bd473942fae2d3d639e64798c3cadf41fd143624bc1c359a9b01be07f48647cb", func := "example.com/access-rulebook/access-rulebook/zzlaws_root_b1.FnMatchesSegmentGlobModel", spec := "fnMatchesSegmentGlobModel", inPlace := ["internal/bytealg.IndexByteString", "internal/bytealg.IndexString"], named := ["internal/bytealg.MaxLen"], apart := false }
def FnMatchesSegmentGlobModelSaid : Prop := fnMatchesSegmentGlobModelRow.holds Try.pinned (OpenSpec.ofChange fnMatchesSegmentGlobModelSpec)

/-- ITS FALSE NEIGHBOUR: 'it returns false'. Refute it at one input. -/
def fnMatchesSegmentGlobModelWrong : ChangeSpec := { name := "fnMatchesSegmentGlobModel", fn := fun _ => fun
  | [d1, d2] => { results := [.lit (.bool false)], args := [d1, d2] }
  | _ => none }
def FnMatchesSegmentGlobModelWrongFalsely : Prop := fnMatchesSegmentGlobModelRow.holds Try.pinned (OpenSpec.ofChange fnMatchesSegmentGlobModelWrong)

/-- 'zzlaws_root_b1.FnMatchesSegmentStarTakesAnyRun': WHATEVER THE INPUT: true; the input reads as it did. -/
def fnMatchesSegmentStarTakesAnyRunSpec : ChangeSpec := { name := "fnMatchesSegmentStarTakesAnyRun", fn := fun _ => fun
  | [d1, d2, d3] => { results := [.lit (.bool true)], args := [d1, d2, d3] }
  | _ => none }
def fnMatchesSegmentStarTakesAnyRunRow : OpenClaim := { program := "qxb6604177a", sum := "bd473942fae2d3d639e64798c3cadf41fd143624bc1c359a9b01be07f48647cb", func := "example.com/access-rulebook/access-rulebook/zzlaws_root_b1.FnMatchesSegmentStarTakesAnyRun", spec := "fnMatchesSegmentStarTakesAnyRun", inPlace := ["internal/bytealg.IndexByteString", "internal/bytealg.IndexString"], named := ["internal/bytealg.MaxLen"], apart := false }
def FnMatchesSegmentStarTakesAnyRunSaid : Prop := fnMatchesSegmentStarTakesAnyRunRow.holds Try.pinned (OpenSpec.ofChange fnMatchesSegmentStarTakesAnyRunSpec)

/-- ITS FALSE NEIGHBOUR: 'it returns false'. Refute it at one input. -/
def fnMatchesSegmentStarTakesAnyRunWrong : ChangeSpec := { name := "fnMatchesSegmentStarTakesAnyRun", fn := fun _ => fun
  | [d1, d2, d3] => { results := [.lit (.bool false)], args := [d1, d2, d3] }
  | _ => none }
def FnMatchesSegmentStarTakesAnyRunWrongFalsely : Prop := fnMatchesSegmentStarTakesAnyRunRow.holds Try.pinned (OpenSpec.ofChange fnMatchesSegmentStarTakesAnyRunWrong)

/-- 'zzlaws_root_b1.FnMatchesPatternSegmentModel': WHATEVER THE INPUT: true; the input reads as it did. -/
def fnMatchesPatternSegmentModelSpec : ChangeSpec := { name := "fnMatchesPatternSegmentModel", fn := fun _ => fun
  | [d1, d2] => { results := [.lit (.bool true)], args := [d1, d2] }
  | _ => none }
def fnMatchesPatternSegmentModelRow : OpenClaim := { program := "qxb6604177a", sum := "bd473942fae2d3d639e64798c3cadf41fd143624bc1c359a9b01be07f48647cb", func := "example.com/access-rulebook/access-rulebook/zzlaws_root_b1.FnMatchesPatternSegmentModel", spec := "fnMatchesPatternSegmentModel", inPlace := ["internal/bytealg.IndexByteString", "internal/bytealg.IndexString"], named := ["internal/bytealg.MaxLen"], apart := false }
def FnMatchesPatternSegmentModelSaid : Prop := fnMatchesPatternSegmentModelRow.holds Try.pinned (OpenSpec.ofChange fnMatchesPatternSegmentModelSpec)

/-- ITS FALSE NEIGHBOUR: 'it returns false'. Refute it at one input. -/
def fnMatchesPatternSegmentModelWrong : ChangeSpec := { name := "fnMatchesPatternSegmentModel", fn := fun _ => fun
  | [d1, d2] => { results := [.lit (.bool false)], args := [d1, d2] }
  | _ => none }
def FnMatchesPatternSegmentModelWrongFalsely : Prop := fnMatchesPatternSegmentModelRow.holds Try.pinned (OpenSpec.ofChange fnMatchesPatternSegmentModelWrong)

/-- 'zzlaws_root_b1.FnMatchesPatternLiteralIsEquality': WHATEVER THE INPUT: true; the input reads as it did. -/
def fnMatchesPatternLiteralIsEqualitySpec : ChangeSpec := { name := "fnMatchesPatternLiteralIsEquality", fn := fun _ => fun
  | [d1, d2] => { results := [.lit (.bool true)], args := [d1, d2] }
  | _ => none }
def fnMatchesPatternLiteralIsEqualityRow : OpenClaim := { program := "qxb6604177a", sum := "bd473942fae2d3d639e64798c3cadf41fd143624bc1c359a9b01be07f48647cb", func := "example.com/access-rulebook/access-rulebook/zzlaws_root_b1.FnMatchesPatternLiteralIsEquality", spec := "fnMatchesPatternLiteralIsEquality", inPlace := ["internal/bytealg.IndexByteString", "internal/bytealg.IndexString"], named := ["internal/bytealg.MaxLen"], apart := false }
def FnMatchesPatternLiteralIsEqualitySaid : Prop := fnMatchesPatternLiteralIsEqualityRow.holds Try.pinned (OpenSpec.ofChange fnMatchesPatternLiteralIsEqualitySpec)

/-- ITS FALSE NEIGHBOUR: 'it returns false'. Refute it at one input. -/
def fnMatchesPatternLiteralIsEqualityWrong : ChangeSpec := { name := "fnMatchesPatternLiteralIsEquality", fn := fun _ => fun
  | [d1, d2] => { results := [.lit (.bool false)], args := [d1, d2] }
  | _ => none }
def FnMatchesPatternLiteralIsEqualityWrongFalsely : Prop := fnMatchesPatternLiteralIsEqualityRow.holds Try.pinned (OpenSpec.ofChange fnMatchesPatternLiteralIsEqualityWrong)

/-- 'zzlaws_root_b1.FnMatchesPatternMatchesItself': WHATEVER THE INPUT: true; the input reads as it did. -/
def fnMatchesPatternMatchesItselfSpec : ChangeSpec := { name := "fnMatchesPatternMatchesItself", fn := fun _ => fun
  | [d] => { results := [.lit (.bool true)], args := [d] }
  | _ => none }
def fnMatchesPatternMatchesItselfRow : OpenClaim := { program := "qxb6604177a", sum := "bd473942fae2d3d639e64798c3cadf41fd143624bc1c359a9b01be07f48647cb", func := "example.com/access-rulebook/access-rulebook/zzlaws_root_b1.FnMatchesPatternMatchesItself", spec := "fnMatchesPatternMatchesItself", inPlace := ["internal/bytealg.IndexByteString", "internal/bytealg.IndexString"], named := ["internal/bytealg.MaxLen"], apart := false }
def FnMatchesPatternMatchesItselfSaid : Prop := fnMatchesPatternMatchesItselfRow.holds Try.pinned (OpenSpec.ofChange fnMatchesPatternMatchesItselfSpec)

/-- ITS FALSE NEIGHBOUR: 'it returns false'. Refute it at one input. -/
def fnMatchesPatternMatchesItselfWrong : ChangeSpec := { name := "fnMatchesPatternMatchesItself", fn := fun _ => fun
  | [d] => { results := [.lit (.bool false)], args := [d] }
  | _ => none }
def FnMatchesPatternMatchesItselfWrongFalsely : Prop := fnMatchesPatternMatchesItselfRow.holds Try.pinned (OpenSpec.ofChange fnMatchesPatternMatchesItselfWrong)

end Rows
end Go.Proofs.Qxb6604177a
