/-
  No cell of these rows narrows 'for every input' (looked for: loops, veiled, ifaces, maps, wideKeys, modest, calm, conditions, laid).
  DERIVED. THE GIVEN ROWS OF THIS SEAT. 7 by the template 'for every input the law returns true; each argument reads behind the call as it read before'; 0 by the template 'total and deterministic' (their statements: Qxb6601697aTotals.lean).
  GIVEN WITH THE SEED: the statements are not yours to turn. If you find one false, say at which input.
  Laid BY PROGRAM, IN A SANDBOX (cutbox-rows.mjs): the forced cells as the released guide's own fill.sh prints them over the translation b24a1187cbf3b668… (all of the seat's roots in one cut). By AI agents, Wed Nov 11 2026. No macro, syntax, notation, axiom, sorry.
-/
import Derived.Test.Qxb6601697aChecked
import GoSem.Claim
import GoSem.ClaimJoined
import GoSem.ClaimMapViews
import Derived.JoinedTies
import Derived.KernelRfl
namespace Go.Proofs.Qxb6601697a
/- THE CELL 'sum', in the pinned program and in every row, IS THE sha256 OF THE DUMP (.gsa) THAT Qxb6601697aProg.lean LOADS. Nothing in Lean hashes anything: it is a label: what it is worth is what the hold of that sum in a sandbox is worth. -/
noncomputable def Try.pinned : Pinned := { name := "qxb6601697a", sum := "b24a1187cbf3b66898a29c43d3414d0a89a154a4edd26427b09efd3f19c972c8", checked := Try.checked }
namespace Rows
def none {H : Type} : Left H := { results := [], args := [] }

/-- 'zzlaws_pkg_provider_b1.FnSkipSpaceSpec': WHATEVER THE INPUT: true; the input reads as it did. -/
def fnSkipSpaceSpecSpec : ChangeSpec := { name := "fnSkipSpaceSpec", fn := fun _ => fun
  | [d1, d2] => { results := [.lit (.bool true)], args := [d1, d2] }
  | _ => none }
def fnSkipSpaceSpecRow : OpenClaim := { program := "qxb6601697a", sum := "b24a1187cbf3b66898a29c43d3414d0a89a154a4edd26427b09efd3f19c972c8", func := "example.com/dovekie/dovekie/zzlaws_pkg_provider_b1.FnSkipSpaceSpec", spec := "fnSkipSpaceSpec", apart := false }
def FnSkipSpaceSpecSaid : Prop := fnSkipSpaceSpecRow.holds Try.pinned (OpenSpec.ofChange fnSkipSpaceSpecSpec)

/-- ITS FALSE NEIGHBOUR: 'it returns false'. Refute it at one input. -/
def fnSkipSpaceSpecWrong : ChangeSpec := { name := "fnSkipSpaceSpec", fn := fun _ => fun
  | [d1, d2] => { results := [.lit (.bool false)], args := [d1, d2] }
  | _ => none }
def FnSkipSpaceSpecWrongFalsely : Prop := fnSkipSpaceSpecRow.holds Try.pinned (OpenSpec.ofChange fnSkipSpaceSpecWrong)

/-- 'zzlaws_pkg_provider_b1.FnSkipSpaceSettles': WHATEVER THE INPUT: true; the input reads as it did. -/
def fnSkipSpaceSettlesSpec : ChangeSpec := { name := "fnSkipSpaceSettles", fn := fun _ => fun
  | [d1, d2] => { results := [.lit (.bool true)], args := [d1, d2] }
  | _ => none }
def fnSkipSpaceSettlesRow : OpenClaim := { program := "qxb6601697a", sum := "b24a1187cbf3b66898a29c43d3414d0a89a154a4edd26427b09efd3f19c972c8", func := "example.com/dovekie/dovekie/zzlaws_pkg_provider_b1.FnSkipSpaceSettles", spec := "fnSkipSpaceSettles", apart := false }
def FnSkipSpaceSettlesSaid : Prop := fnSkipSpaceSettlesRow.holds Try.pinned (OpenSpec.ofChange fnSkipSpaceSettlesSpec)

/-- ITS FALSE NEIGHBOUR: 'it returns false'. Refute it at one input. -/
def fnSkipSpaceSettlesWrong : ChangeSpec := { name := "fnSkipSpaceSettles", fn := fun _ => fun
  | [d1, d2] => { results := [.lit (.bool false)], args := [d1, d2] }
  | _ => none }
def FnSkipSpaceSettlesWrongFalsely : Prop := fnSkipSpaceSettlesRow.holds Try.pinned (OpenSpec.ofChange fnSkipSpaceSettlesWrong)

/-- 'zzlaws_pkg_provider_b1.FnStringEndMatchesGrammar': WHATEVER THE INPUT: true; the input reads as it did. -/
def fnStringEndMatchesGrammarSpec : ChangeSpec := { name := "fnStringEndMatchesGrammar", fn := fun _ => fun
  | [d1, d2] => { results := [.lit (.bool true)], args := [d1, d2] }
  | _ => none }
def fnStringEndMatchesGrammarRow : OpenClaim := { program := "qxb6601697a", sum := "b24a1187cbf3b66898a29c43d3414d0a89a154a4edd26427b09efd3f19c972c8", func := "example.com/dovekie/dovekie/zzlaws_pkg_provider_b1.FnStringEndMatchesGrammar", spec := "fnStringEndMatchesGrammar", apart := false }
def FnStringEndMatchesGrammarSaid : Prop := fnStringEndMatchesGrammarRow.holds Try.pinned (OpenSpec.ofChange fnStringEndMatchesGrammarSpec)

/-- ITS FALSE NEIGHBOUR: 'it returns false'. Refute it at one input. -/
def fnStringEndMatchesGrammarWrong : ChangeSpec := { name := "fnStringEndMatchesGrammar", fn := fun _ => fun
  | [d1, d2] => { results := [.lit (.bool false)], args := [d1, d2] }
  | _ => none }
def FnStringEndMatchesGrammarWrongFalsely : Prop := fnStringEndMatchesGrammarRow.holds Try.pinned (OpenSpec.ofChange fnStringEndMatchesGrammarWrong)

/-- 'zzlaws_pkg_provider_b1.FnStringEndReadsOnlyItsToken': WHATEVER THE INPUT: true; the input reads as it did. -/
def fnStringEndReadsOnlyItsTokenSpec : ChangeSpec := { name := "fnStringEndReadsOnlyItsToken", fn := fun _ => fun
  | [d1, d2] => { results := [.lit (.bool true)], args := [d1, d2] }
  | _ => none }
def fnStringEndReadsOnlyItsTokenRow : OpenClaim := { program := "qxb6601697a", sum := "b24a1187cbf3b66898a29c43d3414d0a89a154a4edd26427b09efd3f19c972c8", func := "example.com/dovekie/dovekie/zzlaws_pkg_provider_b1.FnStringEndReadsOnlyItsToken", spec := "fnStringEndReadsOnlyItsToken", apart := false }
def FnStringEndReadsOnlyItsTokenSaid : Prop := fnStringEndReadsOnlyItsTokenRow.holds Try.pinned (OpenSpec.ofChange fnStringEndReadsOnlyItsTokenSpec)

/-- ITS FALSE NEIGHBOUR: 'it returns false'. Refute it at one input. -/
def fnStringEndReadsOnlyItsTokenWrong : ChangeSpec := { name := "fnStringEndReadsOnlyItsToken", fn := fun _ => fun
  | [d1, d2] => { results := [.lit (.bool false)], args := [d1, d2] }
  | _ => none }
def FnStringEndReadsOnlyItsTokenWrongFalsely : Prop := fnStringEndReadsOnlyItsTokenRow.holds Try.pinned (OpenSpec.ofChange fnStringEndReadsOnlyItsTokenWrong)

/-- 'zzlaws_pkg_provider_b1.FnValueEndMatchesGrammar': WHATEVER THE INPUT: true; the input reads as it did. -/
def fnValueEndMatchesGrammarSpec : ChangeSpec := { name := "fnValueEndMatchesGrammar", fn := fun _ => fun
  | [d1, d2] => { results := [.lit (.bool true)], args := [d1, d2] }
  | _ => none }
def fnValueEndMatchesGrammarRow : OpenClaim := { program := "qxb6601697a", sum := "b24a1187cbf3b66898a29c43d3414d0a89a154a4edd26427b09efd3f19c972c8", func := "example.com/dovekie/dovekie/zzlaws_pkg_provider_b1.FnValueEndMatchesGrammar", spec := "fnValueEndMatchesGrammar", inPlace := ["internal/bytealg.IndexByteString", "internal/bytealg.IndexString"], recurses := true, named := ["internal/bytealg.MaxLen"], apart := false }
def FnValueEndMatchesGrammarSaid : Prop := fnValueEndMatchesGrammarRow.holds Try.pinned (OpenSpec.ofChange fnValueEndMatchesGrammarSpec)

/-- ITS FALSE NEIGHBOUR: 'it returns false'. Refute it at one input. -/
def fnValueEndMatchesGrammarWrong : ChangeSpec := { name := "fnValueEndMatchesGrammar", fn := fun _ => fun
  | [d1, d2] => { results := [.lit (.bool false)], args := [d1, d2] }
  | _ => none }
def FnValueEndMatchesGrammarWrongFalsely : Prop := fnValueEndMatchesGrammarRow.holds Try.pinned (OpenSpec.ofChange fnValueEndMatchesGrammarWrong)

/-- 'zzlaws_pkg_provider_b1.FnValueEndReadsOnlyItsValue': WHATEVER THE INPUT: true; the input reads as it did. -/
def fnValueEndReadsOnlyItsValueSpec : ChangeSpec := { name := "fnValueEndReadsOnlyItsValue", fn := fun _ => fun
  | [d1, d2] => { results := [.lit (.bool true)], args := [d1, d2] }
  | _ => none }
def fnValueEndReadsOnlyItsValueRow : OpenClaim := { program := "qxb6601697a", sum := "b24a1187cbf3b66898a29c43d3414d0a89a154a4edd26427b09efd3f19c972c8", func := "example.com/dovekie/dovekie/zzlaws_pkg_provider_b1.FnValueEndReadsOnlyItsValue", spec := "fnValueEndReadsOnlyItsValue", inPlace := ["internal/bytealg.IndexByteString", "internal/bytealg.IndexString"], recurses := true, named := ["internal/bytealg.MaxLen"], apart := false }
def FnValueEndReadsOnlyItsValueSaid : Prop := fnValueEndReadsOnlyItsValueRow.holds Try.pinned (OpenSpec.ofChange fnValueEndReadsOnlyItsValueSpec)

/-- ITS FALSE NEIGHBOUR: 'it returns false'. Refute it at one input. -/
def fnValueEndReadsOnlyItsValueWrong : ChangeSpec := { name := "fnValueEndReadsOnlyItsValue", fn := fun _ => fun
  | [d1, d2] => { results := [.lit (.bool false)], args := [d1, d2] }
  | _ => none }
def FnValueEndReadsOnlyItsValueWrongFalsely : Prop := fnValueEndReadsOnlyItsValueRow.holds Try.pinned (OpenSpec.ofChange fnValueEndReadsOnlyItsValueWrong)

/-- 'zzlaws_pkg_provider_b1.FnValueEndAgreesWithMemberWalk': WHATEVER THE INPUT: true; the input reads as it did. -/
def fnValueEndAgreesWithMemberWalkSpec : ChangeSpec := { name := "fnValueEndAgreesWithMemberWalk", fn := fun _ => fun
  | [d1, d2] => { results := [.lit (.bool true)], args := [d1, d2] }
  | _ => none }
def fnValueEndAgreesWithMemberWalkRow : OpenClaim := { program := "qxb6601697a", sum := "b24a1187cbf3b66898a29c43d3414d0a89a154a4edd26427b09efd3f19c972c8", func := "example.com/dovekie/dovekie/zzlaws_pkg_provider_b1.FnValueEndAgreesWithMemberWalk", spec := "fnValueEndAgreesWithMemberWalk", inPlace := ["internal/bytealg.IndexByteString", "internal/bytealg.IndexString"], recurses := true, named := ["internal/bytealg.MaxLen"], apart := false }
def FnValueEndAgreesWithMemberWalkSaid : Prop := fnValueEndAgreesWithMemberWalkRow.holds Try.pinned (OpenSpec.ofChange fnValueEndAgreesWithMemberWalkSpec)

/-- ITS FALSE NEIGHBOUR: 'it returns false'. Refute it at one input. -/
def fnValueEndAgreesWithMemberWalkWrong : ChangeSpec := { name := "fnValueEndAgreesWithMemberWalk", fn := fun _ => fun
  | [d1, d2] => { results := [.lit (.bool false)], args := [d1, d2] }
  | _ => none }
def FnValueEndAgreesWithMemberWalkWrongFalsely : Prop := fnValueEndAgreesWithMemberWalkRow.holds Try.pinned (OpenSpec.ofChange fnValueEndAgreesWithMemberWalkWrong)

end Rows
end Go.Proofs.Qxb6601697a
