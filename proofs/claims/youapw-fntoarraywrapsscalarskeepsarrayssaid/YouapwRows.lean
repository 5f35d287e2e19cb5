/-
  No cell of these rows narrows 'for every input' (looked for: loops, veiled, ifaces, maps, wideKeys, modest, calm, conditions, laid).
  DERIVED. THE GIVEN ROWS OF THIS SEAT. 4 by the template 'for every input the law returns true; each argument reads behind the call as it read before'; 0 by the template 'total and deterministic' (their statements: YouapwTotals.lean).
  GIVEN WITH THE SEED: the statements are not yours to turn. If you find one false, say at which input.
  Laid BY PROGRAM, IN A SANDBOX (cutbox-rows.mjs): the forced cells as the released guide's own fill.sh prints them over the translation 16c59ffabefed4f6… (all of the seat's roots in one cut). By AI agents, Wed Nov 11 2026. No macro, syntax, notation, axiom, sorry.
-/
import Derived.Test.YouapwChecked
import GoSem.Claim
import GoSem.ClaimJoined
import GoSem.ClaimMapViews
import Derived.JoinedTies
import Derived.KernelRfl
namespace Go.Proofs.Youapw
/- THE CELL 'sum', in the pinned program and in every row, IS THE sha256 OF THE DUMP (.gsa) THAT YouapwProg.lean LOADS. Nothing in Lean hashes anything: it is a label: what it is worth is what the hold of that sum in a sandbox is worth. -/
noncomputable def Uapg.pinned : Pinned := { name := "youapw", sum := "16c59ffabefed4f61b0aa3ceb866eba010d4eac45aae9f11b1f4d7f0bd0a9889", checked := Uapg.checked }
namespace Rows
def none {H : Type} : Left H := { results := [], args := [] }

/-- 'zzlaws_root_b10.FnToArrayWrapsScalarsKeepsArrays': WHATEVER THE INPUT: true; the input reads as it did. -/
def fnToArrayWrapsScalarsKeepsArraysSpec : ChangeSpec := { name := "fnToArrayWrapsScalarsKeepsArrays", fn := fun _ => fun
  | [d1, d2, d3] => { results := [.lit (.bool true)], args := [d1, d2, d3] }
  | _ => none }
def fnToArrayWrapsScalarsKeepsArraysRow : OpenClaim := { program := "youapw", sum := "16c59ffabefed4f61b0aa3ceb866eba010d4eac45aae9f11b1f4d7f0bd0a9889", func := "github.com/jmespath/go-jmespath/zzlaws_root_b10.FnToArrayWrapsScalarsKeepsArrays", spec := "fnToArrayWrapsScalarsKeepsArrays", inPlace := ["math.Float64bits"], apart := false }
def FnToArrayWrapsScalarsKeepsArraysSaid : Prop := fnToArrayWrapsScalarsKeepsArraysRow.holds Uapg.pinned (OpenSpec.ofChange fnToArrayWrapsScalarsKeepsArraysSpec)

/-- ITS FALSE NEIGHBOUR: 'it returns false'. Refute it at one input. -/
def fnToArrayWrapsScalarsKeepsArraysWrong : ChangeSpec := { name := "fnToArrayWrapsScalarsKeepsArrays", fn := fun _ => fun
  | [d1, d2, d3] => { results := [.lit (.bool false)], args := [d1, d2, d3] }
  | _ => none }
def FnToArrayWrapsScalarsKeepsArraysWrongFalsely : Prop := fnToArrayWrapsScalarsKeepsArraysRow.holds Uapg.pinned (OpenSpec.ofChange fnToArrayWrapsScalarsKeepsArraysWrong)

/-- 'zzlaws_root_b10.FnToArrayIdempotent': WHATEVER THE INPUT: true; the input reads as it did. -/
def fnToArrayIdempotentSpec : ChangeSpec := { name := "fnToArrayIdempotent", fn := fun _ => fun
  | [d1, d2] => { results := [.lit (.bool true)], args := [d1, d2] }
  | _ => none }
def fnToArrayIdempotentRow : OpenClaim := { program := "youapw", sum := "16c59ffabefed4f61b0aa3ceb866eba010d4eac45aae9f11b1f4d7f0bd0a9889", func := "github.com/jmespath/go-jmespath/zzlaws_root_b10.FnToArrayIdempotent", spec := "fnToArrayIdempotent", apart := false }
def FnToArrayIdempotentSaid : Prop := fnToArrayIdempotentRow.holds Uapg.pinned (OpenSpec.ofChange fnToArrayIdempotentSpec)

/-- ITS FALSE NEIGHBOUR: 'it returns false'. Refute it at one input. -/
def fnToArrayIdempotentWrong : ChangeSpec := { name := "fnToArrayIdempotent", fn := fun _ => fun
  | [d1, d2] => { results := [.lit (.bool false)], args := [d1, d2] }
  | _ => none }
def FnToArrayIdempotentWrongFalsely : Prop := fnToArrayIdempotentRow.holds Uapg.pinned (OpenSpec.ofChange fnToArrayIdempotentWrong)

/-- 'zzlaws_root_b10.FnNotNullFirstPresent': WHATEVER THE INPUT: true; the input reads as it did. -/
def fnNotNullFirstPresentSpec : ChangeSpec := { name := "fnNotNullFirstPresent", fn := fun _ => fun
  | [d1, d2] => { results := [.lit (.bool true)], args := [d1, d2] }
  | _ => none }
def fnNotNullFirstPresentRow : OpenClaim := { program := "youapw", sum := "16c59ffabefed4f61b0aa3ceb866eba010d4eac45aae9f11b1f4d7f0bd0a9889", func := "github.com/jmespath/go-jmespath/zzlaws_root_b10.FnNotNullFirstPresent", spec := "fnNotNullFirstPresent", apart := false }
def FnNotNullFirstPresentSaid : Prop := fnNotNullFirstPresentRow.holds Uapg.pinned (OpenSpec.ofChange fnNotNullFirstPresentSpec)

/-- ITS FALSE NEIGHBOUR: 'it returns false'. Refute it at one input. -/
def fnNotNullFirstPresentWrong : ChangeSpec := { name := "fnNotNullFirstPresent", fn := fun _ => fun
  | [d1, d2] => { results := [.lit (.bool false)], args := [d1, d2] }
  | _ => none }
def FnNotNullFirstPresentWrongFalsely : Prop := fnNotNullFirstPresentRow.holds Uapg.pinned (OpenSpec.ofChange fnNotNullFirstPresentWrong)

/-- 'zzlaws_root_b10.FnNotNullPrefixNullsIgnored': WHATEVER THE INPUT: true; the input reads as it did. -/
def fnNotNullPrefixNullsIgnoredSpec : ChangeSpec := { name := "fnNotNullPrefixNullsIgnored", fn := fun _ => fun
  | [d1, d2, d3] => { results := [.lit (.bool true)], args := [d1, d2, d3] }
  | _ => none }
def fnNotNullPrefixNullsIgnoredRow : OpenClaim := { program := "youapw", sum := "16c59ffabefed4f61b0aa3ceb866eba010d4eac45aae9f11b1f4d7f0bd0a9889", func := "github.com/jmespath/go-jmespath/zzlaws_root_b10.FnNotNullPrefixNullsIgnored", spec := "fnNotNullPrefixNullsIgnored", apart := false }
def FnNotNullPrefixNullsIgnoredSaid : Prop := fnNotNullPrefixNullsIgnoredRow.holds Uapg.pinned (OpenSpec.ofChange fnNotNullPrefixNullsIgnoredSpec)

/-- ITS FALSE NEIGHBOUR: 'it returns false'. Refute it at one input. -/
def fnNotNullPrefixNullsIgnoredWrong : ChangeSpec := { name := "fnNotNullPrefixNullsIgnored", fn := fun _ => fun
  | [d1, d2, d3] => { results := [.lit (.bool false)], args := [d1, d2, d3] }
  | _ => none }
def FnNotNullPrefixNullsIgnoredWrongFalsely : Prop := fnNotNullPrefixNullsIgnoredRow.holds Uapg.pinned (OpenSpec.ofChange fnNotNullPrefixNullsIgnoredWrong)

end Rows
end Go.Proofs.Youapw
