/-
  No cell of these rows narrows 'for every input' (looked for: loops, veiled, ifaces, maps, wideKeys, modest, calm, conditions, laid).
  DERIVED. THE GIVEN ROWS OF THIS SEAT. 6 by the template 'for every input the law returns true; each argument reads behind the call as it read before'; 0 by the template 'total and deterministic' (their statements: Qxb6603796aTotals.lean).
  GIVEN WITH THE SEED: the statements are not yours to turn. If you find one false, say at which input.
  Laid BY PROGRAM, IN A SANDBOX (cutbox-rows.mjs): the forced cells as the released guide's own fill.sh prints them over the translation 9c14421644a00633… (all of the seat's roots in one cut). By AI agents, Wed Nov 11 2026. No macro, syntax, notation, axiom, sorry.
-/
import Derived.Test.Qxb6603796aChecked
import GoSem.Claim
import GoSem.ClaimJoined
import GoSem.ClaimMapViews
import Derived.JoinedTies
import Derived.KernelRfl
namespace Go.Proofs.Qxb6603796a
/- THE CELL 'sum', in the pinned program and in every row, IS THE sha256 OF THE DUMP (.gsa) THAT Qxb6603796aProg.lean LOADS. Nothing in Lean hashes anything: it is a label: what it is worth is what the hold of that sum in a sandbox is worth. -/
noncomputable def Try.pinned : Pinned := { name := "qxb6603796a", sum := "9c14421644a00633dc3bc93fe29ba31f5d640855679f99e47c0b2b1e45d7da7c", checked := Try.checked }
namespace Rows
def none {H : Type} : Left H := { results := [], args := [] }

/-- 'zzlaws_internal_strictjson_b1.FnValidNumberMatchesModel': WHATEVER THE INPUT: true; the input reads as it did. -/
def fnValidNumberMatchesModelSpec : ChangeSpec := { name := "fnValidNumberMatchesModel", fn := fun _ => fun
  | [d1, d2, d3, d4] => { results := [.lit (.bool true)], args := [d1, d2, d3, d4] }
  | _ => none }
def fnValidNumberMatchesModelRow : OpenClaim := { program := "qxb6603796a", sum := "9c14421644a00633dc3bc93fe29ba31f5d640855679f99e47c0b2b1e45d7da7c", func := "example.com/berthkeeper/berthkeeper/zzlaws_internal_strictjson_b1.FnValidNumberMatchesModel", spec := "fnValidNumberMatchesModel", apart := false }
def FnValidNumberMatchesModelSaid : Prop := fnValidNumberMatchesModelRow.holds Try.pinned (OpenSpec.ofChange fnValidNumberMatchesModelSpec)

/-- ITS FALSE NEIGHBOUR: 'it returns false'. Refute it at one input. -/
def fnValidNumberMatchesModelWrong : ChangeSpec := { name := "fnValidNumberMatchesModel", fn := fun _ => fun
  | [d1, d2, d3, d4] => { results := [.lit (.bool false)], args := [d1, d2, d3, d4] }
  | _ => none }
def FnValidNumberMatchesModelWrongFalsely : Prop := fnValidNumberMatchesModelRow.holds Try.pinned (OpenSpec.ofChange fnValidNumberMatchesModelWrong)

/-- 'zzlaws_internal_strictjson_b1.FnValidNumberAgreesWithWhole': WHATEVER THE INPUT: true; the input reads as it did. -/
def fnValidNumberAgreesWithWholeSpec : ChangeSpec := { name := "fnValidNumberAgreesWithWhole", fn := fun _ => fun
  | [d1, d2, d3, d4] => { results := [.lit (.bool true)], args := [d1, d2, d3, d4] }
  | _ => none }
def fnValidNumberAgreesWithWholeRow : OpenClaim := { program := "qxb6603796a", sum := "9c14421644a00633dc3bc93fe29ba31f5d640855679f99e47c0b2b1e45d7da7c", func := "example.com/berthkeeper/berthkeeper/zzlaws_internal_strictjson_b1.FnValidNumberAgreesWithWhole", spec := "fnValidNumberAgreesWithWhole", apart := false }
def FnValidNumberAgreesWithWholeSaid : Prop := fnValidNumberAgreesWithWholeRow.holds Try.pinned (OpenSpec.ofChange fnValidNumberAgreesWithWholeSpec)

/-- ITS FALSE NEIGHBOUR: 'it returns false'. Refute it at one input. -/
def fnValidNumberAgreesWithWholeWrong : ChangeSpec := { name := "fnValidNumberAgreesWithWhole", fn := fun _ => fun
  | [d1, d2, d3, d4] => { results := [.lit (.bool false)], args := [d1, d2, d3, d4] }
  | _ => none }
def FnValidNumberAgreesWithWholeWrongFalsely : Prop := fnValidNumberAgreesWithWholeRow.holds Try.pinned (OpenSpec.ofChange fnValidNumberAgreesWithWholeWrong)

/-- 'zzlaws_internal_strictjson_b1.FnWholeMatchesModel': WHATEVER THE INPUT: true; the input reads as it did. -/
def fnWholeMatchesModelSpec : ChangeSpec := { name := "fnWholeMatchesModel", fn := fun _ => fun
  | [d1, d2, d3, d4] => { results := [.lit (.bool true)], args := [d1, d2, d3, d4] }
  | _ => none }
def fnWholeMatchesModelRow : OpenClaim := { program := "qxb6603796a", sum := "9c14421644a00633dc3bc93fe29ba31f5d640855679f99e47c0b2b1e45d7da7c", func := "example.com/berthkeeper/berthkeeper/zzlaws_internal_strictjson_b1.FnWholeMatchesModel", spec := "fnWholeMatchesModel", apart := false }
def FnWholeMatchesModelSaid : Prop := fnWholeMatchesModelRow.holds Try.pinned (OpenSpec.ofChange fnWholeMatchesModelSpec)

/-- ITS FALSE NEIGHBOUR: 'it returns false'. Refute it at one input. -/
def fnWholeMatchesModelWrong : ChangeSpec := { name := "fnWholeMatchesModel", fn := fun _ => fun
  | [d1, d2, d3, d4] => { results := [.lit (.bool false)], args := [d1, d2, d3, d4] }
  | _ => none }
def FnWholeMatchesModelWrongFalsely : Prop := fnWholeMatchesModelRow.holds Try.pinned (OpenSpec.ofChange fnWholeMatchesModelWrong)

/-- 'zzlaws_internal_strictjson_b1.FnWholeReadsItsOwnWriting': WHATEVER THE INPUT: true; the input reads as it did. -/
def fnWholeReadsItsOwnWritingSpec : ChangeSpec := { name := "fnWholeReadsItsOwnWriting", fn := fun _ => fun
  | [d1, d2, d3, d4] => { results := [.lit (.bool true)], args := [d1, d2, d3, d4] }
  | _ => none }
def fnWholeReadsItsOwnWritingRow : OpenClaim := { program := "qxb6603796a", sum := "9c14421644a00633dc3bc93fe29ba31f5d640855679f99e47c0b2b1e45d7da7c", func := "example.com/berthkeeper/berthkeeper/zzlaws_internal_strictjson_b1.FnWholeReadsItsOwnWriting", spec := "fnWholeReadsItsOwnWriting", apart := false }
def FnWholeReadsItsOwnWritingSaid : Prop := fnWholeReadsItsOwnWritingRow.holds Try.pinned (OpenSpec.ofChange fnWholeReadsItsOwnWritingSpec)

/-- ITS FALSE NEIGHBOUR: 'it returns false'. Refute it at one input. -/
def fnWholeReadsItsOwnWritingWrong : ChangeSpec := { name := "fnWholeReadsItsOwnWriting", fn := fun _ => fun
  | [d1, d2, d3, d4] => { results := [.lit (.bool false)], args := [d1, d2, d3, d4] }
  | _ => none }
def FnWholeReadsItsOwnWritingWrongFalsely : Prop := fnWholeReadsItsOwnWritingRow.holds Try.pinned (OpenSpec.ofChange fnWholeReadsItsOwnWritingWrong)

/-- 'zzlaws_internal_strictjson_b1.FnInt64MatchesModel': WHATEVER THE INPUT: true; the input reads as it did. -/
def fnInt64MatchesModelSpec : ChangeSpec := { name := "fnInt64MatchesModel", fn := fun _ => fun
  | [d1, d2, d3, d4, d5] => { results := [.lit (.bool true)], args := [d1, d2, d3, d4, d5] }
  | _ => none }
def fnInt64MatchesModelRow : OpenClaim := { program := "qxb6603796a", sum := "9c14421644a00633dc3bc93fe29ba31f5d640855679f99e47c0b2b1e45d7da7c", func := "example.com/berthkeeper/berthkeeper/zzlaws_internal_strictjson_b1.FnInt64MatchesModel", spec := "fnInt64MatchesModel", apart := false }
def FnInt64MatchesModelSaid : Prop := fnInt64MatchesModelRow.holds Try.pinned (OpenSpec.ofChange fnInt64MatchesModelSpec)

/-- ITS FALSE NEIGHBOUR: 'it returns false'. Refute it at one input. -/
def fnInt64MatchesModelWrong : ChangeSpec := { name := "fnInt64MatchesModel", fn := fun _ => fun
  | [d1, d2, d3, d4, d5] => { results := [.lit (.bool false)], args := [d1, d2, d3, d4, d5] }
  | _ => none }
def FnInt64MatchesModelWrongFalsely : Prop := fnInt64MatchesModelRow.holds Try.pinned (OpenSpec.ofChange fnInt64MatchesModelWrong)

/-- 'zzlaws_internal_strictjson_b1.FnInt64ReadsItsOwnWriting': WHATEVER THE INPUT: true; the input reads as it did. -/
def fnInt64ReadsItsOwnWritingSpec : ChangeSpec := { name := "fnInt64ReadsItsOwnWriting", fn := fun _ => fun
  | [d1, d2, d3, d4] => { results := [.lit (.bool true)], args := [d1, d2, d3, d4] }
  | _ => none }
def fnInt64ReadsItsOwnWritingRow : OpenClaim := { program := "qxb6603796a", sum := "9c14421644a00633dc3bc93fe29ba31f5d640855679f99e47c0b2b1e45d7da7c", func := "example.com/berthkeeper/berthkeeper/zzlaws_internal_strictjson_b1.FnInt64ReadsItsOwnWriting", spec := "fnInt64ReadsItsOwnWriting", apart := false }
def FnInt64ReadsItsOwnWritingSaid : Prop := fnInt64ReadsItsOwnWritingRow.holds Try.pinned (OpenSpec.ofChange fnInt64ReadsItsOwnWritingSpec)

/-- ITS FALSE NEIGHBOUR: 'it returns false'. Refute it at one input. -/
def fnInt64ReadsItsOwnWritingWrong : ChangeSpec := { name := "fnInt64ReadsItsOwnWriting", fn := fun _ => fun
  | [d1, d2, d3, d4] => { results := [.lit (.bool false)], args := [d1, d2, d3, d4] }
  | _ => none }
def FnInt64ReadsItsOwnWritingWrongFalsely : Prop := fnInt64ReadsItsOwnWritingRow.holds Try.pinned (OpenSpec.ofChange fnInt64ReadsItsOwnWritingWrong)

end Rows
end Go.Proofs.Qxb6603796a
