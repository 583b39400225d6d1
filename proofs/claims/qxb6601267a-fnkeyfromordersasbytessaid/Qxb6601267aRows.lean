/-
  No cell of these rows narrows 'for every input' (looked for: loops, veiled, ifaces, maps, wideKeys, modest, calm, conditions, laid).
  DERIVED. THE GIVEN ROWS OF THIS SEAT. 5 by the template 'for every input the law returns true; each argument reads behind the call as it read before'; 0 by the template 'total and deterministic' (their statements: Qxb6601267aTotals.lean).
  GIVEN WITH THE SEED: the statements are not yours to turn. If you find one false, say at which input.
  Laid BY PROGRAM, IN A SANDBOX (cutbox-rows.mjs): the forced cells as the released guide's own fill.sh prints them over the translation 271285886563818c… (all of the seat's roots in one cut). By AI agents, Wed Nov 11 2026. No macro, syntax, notation, axiom, sorry.
-/
import Derived.Test.Qxb6601267aChecked
import GoSem.Claim
import GoSem.ClaimJoined
import GoSem.ClaimMapViews
import Derived.JoinedTies
import Derived.KernelRfl
namespace Go.Proofs.Qxb6601267a
/- THE CELL 'sum', in the pinned program and in every row, IS THE sha256 OF THE DUMP (.gsa) THAT Qxb6601267aProg.lean LOADS. Nothing in Lean hashes anything: it is a label: what it is worth is what the hold of that sum in a sandbox is worth. -/
noncomputable def Try.pinned : Pinned := { name := "qxb6601267a", sum := "271285886563818c7f6f8822f1fd32ef713cece31e1286bbf5e1b432c3ce0324", checked := Try.checked }
namespace Rows
def none {H : Type} : Left H := { results := [], args := [] }

/-- 'zzlaws_internal_registry_b1.FnEscapeIDSpec': WHATEVER THE INPUT: true; the input reads as it did. -/
def fnEscapeIDSpecSpec : ChangeSpec := { name := "fnEscapeIDSpec", fn := fun _ => fun
  | [d] => { results := [.lit (.bool true)], args := [d] }
  | _ => none }
def fnEscapeIDSpecRow : OpenClaim := { program := "qxb6601267a", sum := "271285886563818c7f6f8822f1fd32ef713cece31e1286bbf5e1b432c3ce0324", func := "example.com/outfitter/outfitter/zzlaws_internal_registry_b1.FnEscapeIDSpec", spec := "fnEscapeIDSpec", apart := false }
def FnEscapeIDSpecSaid : Prop := fnEscapeIDSpecRow.holds Try.pinned (OpenSpec.ofChange fnEscapeIDSpecSpec)

/-- ITS FALSE NEIGHBOUR: 'it returns false'. Refute it at one input. -/
def fnEscapeIDSpecWrong : ChangeSpec := { name := "fnEscapeIDSpec", fn := fun _ => fun
  | [d] => { results := [.lit (.bool false)], args := [d] }
  | _ => none }
def FnEscapeIDSpecWrongFalsely : Prop := fnEscapeIDSpecRow.holds Try.pinned (OpenSpec.ofChange fnEscapeIDSpecWrong)

/-- 'zzlaws_internal_registry_b1.FnEscapeIDConcat': WHATEVER THE INPUT: true; the input reads as it did. -/
def fnEscapeIDConcatSpec : ChangeSpec := { name := "fnEscapeIDConcat", fn := fun _ => fun
  | [d1, d2] => { results := [.lit (.bool true)], args := [d1, d2] }
  | _ => none }
def fnEscapeIDConcatRow : OpenClaim := { program := "qxb6601267a", sum := "271285886563818c7f6f8822f1fd32ef713cece31e1286bbf5e1b432c3ce0324", func := "example.com/outfitter/outfitter/zzlaws_internal_registry_b1.FnEscapeIDConcat", spec := "fnEscapeIDConcat", apart := false }
def FnEscapeIDConcatSaid : Prop := fnEscapeIDConcatRow.holds Try.pinned (OpenSpec.ofChange fnEscapeIDConcatSpec)

/-- ITS FALSE NEIGHBOUR: 'it returns false'. Refute it at one input. -/
def fnEscapeIDConcatWrong : ChangeSpec := { name := "fnEscapeIDConcat", fn := fun _ => fun
  | [d1, d2] => { results := [.lit (.bool false)], args := [d1, d2] }
  | _ => none }
def FnEscapeIDConcatWrongFalsely : Prop := fnEscapeIDConcatRow.holds Try.pinned (OpenSpec.ofChange fnEscapeIDConcatWrong)

/-- 'zzlaws_internal_registry_b1.FnEscapeIDInjective': WHATEVER THE INPUT: true; the input reads as it did. -/
def fnEscapeIDInjectiveSpec : ChangeSpec := { name := "fnEscapeIDInjective", fn := fun _ => fun
  | [d1, d2] => { results := [.lit (.bool true)], args := [d1, d2] }
  | _ => none }
def fnEscapeIDInjectiveRow : OpenClaim := { program := "qxb6601267a", sum := "271285886563818c7f6f8822f1fd32ef713cece31e1286bbf5e1b432c3ce0324", func := "example.com/outfitter/outfitter/zzlaws_internal_registry_b1.FnEscapeIDInjective", spec := "fnEscapeIDInjective", apart := false }
def FnEscapeIDInjectiveSaid : Prop := fnEscapeIDInjectiveRow.holds Try.pinned (OpenSpec.ofChange fnEscapeIDInjectiveSpec)

/-- ITS FALSE NEIGHBOUR: 'it returns false'. Refute it at one input. -/
def fnEscapeIDInjectiveWrong : ChangeSpec := { name := "fnEscapeIDInjective", fn := fun _ => fun
  | [d1, d2] => { results := [.lit (.bool false)], args := [d1, d2] }
  | _ => none }
def FnEscapeIDInjectiveWrongFalsely : Prop := fnEscapeIDInjectiveRow.holds Try.pinned (OpenSpec.ofChange fnEscapeIDInjectiveWrong)

/-- 'zzlaws_internal_registry_b1.FnKeyFromSpec': WHATEVER THE INPUT: true; the input reads as it did. -/
def fnKeyFromSpecSpec : ChangeSpec := { name := "fnKeyFromSpec", fn := fun _ => fun
  | [d1, d2, d3, d4, d5, d6] => { results := [.lit (.bool true)], args := [d1, d2, d3, d4, d5, d6] }
  | _ => none }
def fnKeyFromSpecRow : OpenClaim := { program := "qxb6601267a", sum := "271285886563818c7f6f8822f1fd32ef713cece31e1286bbf5e1b432c3ce0324", func := "example.com/outfitter/outfitter/zzlaws_internal_registry_b1.FnKeyFromSpec", spec := "fnKeyFromSpec", apart := false }
def FnKeyFromSpecSaid : Prop := fnKeyFromSpecRow.holds Try.pinned (OpenSpec.ofChange fnKeyFromSpecSpec)

/-- ITS FALSE NEIGHBOUR: 'it returns false'. Refute it at one input. -/
def fnKeyFromSpecWrong : ChangeSpec := { name := "fnKeyFromSpec", fn := fun _ => fun
  | [d1, d2, d3, d4, d5, d6] => { results := [.lit (.bool false)], args := [d1, d2, d3, d4, d5, d6] }
  | _ => none }
def FnKeyFromSpecWrongFalsely : Prop := fnKeyFromSpecRow.holds Try.pinned (OpenSpec.ofChange fnKeyFromSpecWrong)

/-- 'zzlaws_internal_registry_b1.FnKeyFromOrdersAsBytes': WHATEVER THE INPUT: true; the input reads as it did. -/
def fnKeyFromOrdersAsBytesSpec : ChangeSpec := { name := "fnKeyFromOrdersAsBytes", fn := fun _ => fun
  | [d1, d2, d3] => { results := [.lit (.bool true)], args := [d1, d2, d3] }
  | _ => none }
def fnKeyFromOrdersAsBytesRow : OpenClaim := { program := "qxb6601267a", sum := "271285886563818c7f6f8822f1fd32ef713cece31e1286bbf5e1b432c3ce0324", func := "example.com/outfitter/outfitter/zzlaws_internal_registry_b1.FnKeyFromOrdersAsBytes", spec := "fnKeyFromOrdersAsBytes", apart := false }
def FnKeyFromOrdersAsBytesSaid : Prop := fnKeyFromOrdersAsBytesRow.holds Try.pinned (OpenSpec.ofChange fnKeyFromOrdersAsBytesSpec)

/-- ITS FALSE NEIGHBOUR: 'it returns false'. Refute it at one input. -/
def fnKeyFromOrdersAsBytesWrong : ChangeSpec := { name := "fnKeyFromOrdersAsBytes", fn := fun _ => fun
  | [d1, d2, d3] => { results := [.lit (.bool false)], args := [d1, d2, d3] }
  | _ => none }
def FnKeyFromOrdersAsBytesWrongFalsely : Prop := fnKeyFromOrdersAsBytesRow.holds Try.pinned (OpenSpec.ofChange fnKeyFromOrdersAsBytesWrong)

end Rows
end Go.Proofs.Qxb6601267a
