/-
  No cell of these rows narrows 'for every input' (looked for: loops, veiled, ifaces, maps, wideKeys, modest, calm, conditions, laid).
  DERIVED. THE GIVEN ROWS OF THIS SEAT. 6 by the template 'for every input the law returns true; each argument reads behind the call as it read before'; 0 by the template 'total and deterministic' (their statements: Qxb6601764aTotals.lean).
  GIVEN WITH THE SEED: the statements are not yours to turn. If you find one false, say at which input.
  Laid BY PROGRAM, IN A SANDBOX (cutbox-rows.mjs): the forced cells as the released guide's own fill.sh prints them over the translation 60f7714ef3a4d262… (all of the seat's roots in one cut). By AI agents, Wed Nov 11 2026. No macro, syntax, notation, axiom, sorry.
-/
import Derived.Test.Qxb6601764aChecked
import GoSem.Claim
import GoSem.ClaimJoined
import GoSem.ClaimMapViews
import Derived.JoinedTies
import Derived.KernelRfl
namespace Go.Proofs.Qxb6601764a
/- THE CELL 'sum', in the pinned program and in every row, IS THE sha256 OF THE DUMP (.gsa) THAT Qxb6601764aProg.lean LOADS. Nothing in Lean hashes anything: it is a label: what it is worth is what the hold of that sum in a sandbox is worth. -/
noncomputable def Try.pinned : Pinned := { name := "qxb6601764a", sum := "60f7714ef3a4d262f08c54edef9bdb8238480fe78f86f6bb9031b49e634bd8f3", checked := Try.checked }
namespace Rows
def none {H : Type} : Left H := { results := [], args := [] }

/-- 'zzlaws_terms_b1.FnOpenValuesModel': WHATEVER THE INPUT: true; the input reads as it did. -/
def fnOpenValuesModelSpec : ChangeSpec := { name := "fnOpenValuesModel", fn := fun _ => fun
  | [d] => { results := [.lit (.bool true)], args := [d] }
  | _ => none }
def fnOpenValuesModelRow : OpenClaim := { program := "qxb6601764a", sum := "60f7714ef3a4d262f08c54edef9bdb8238480fe78f86f6bb9031b49e634bd8f3", func := "example.com/tuoguan/tuoguan/zzlaws_terms_b1.FnOpenValuesModel", spec := "fnOpenValuesModel", apart := false }
def FnOpenValuesModelSaid : Prop := fnOpenValuesModelRow.holds Try.pinned (OpenSpec.ofChange fnOpenValuesModelSpec)

/-- ITS FALSE NEIGHBOUR: 'it returns false'. Refute it at one input. -/
def fnOpenValuesModelWrong : ChangeSpec := { name := "fnOpenValuesModel", fn := fun _ => fun
  | [d] => { results := [.lit (.bool false)], args := [d] }
  | _ => none }
def FnOpenValuesModelWrongFalsely : Prop := fnOpenValuesModelRow.holds Try.pinned (OpenSpec.ofChange fnOpenValuesModelWrong)

/-- 'zzlaws_terms_b1.FnOpenValuesPrefix': WHATEVER THE INPUT: true; the input reads as it did. -/
def fnOpenValuesPrefixSpec : ChangeSpec := { name := "fnOpenValuesPrefix", fn := fun _ => fun
  | [d1, d2] => { results := [.lit (.bool true)], args := [d1, d2] }
  | _ => none }
def fnOpenValuesPrefixRow : OpenClaim := { program := "qxb6601764a", sum := "60f7714ef3a4d262f08c54edef9bdb8238480fe78f86f6bb9031b49e634bd8f3", func := "example.com/tuoguan/tuoguan/zzlaws_terms_b1.FnOpenValuesPrefix", spec := "fnOpenValuesPrefix", apart := false }
def FnOpenValuesPrefixSaid : Prop := fnOpenValuesPrefixRow.holds Try.pinned (OpenSpec.ofChange fnOpenValuesPrefixSpec)

/-- ITS FALSE NEIGHBOUR: 'it returns false'. Refute it at one input. -/
def fnOpenValuesPrefixWrong : ChangeSpec := { name := "fnOpenValuesPrefix", fn := fun _ => fun
  | [d1, d2] => { results := [.lit (.bool false)], args := [d1, d2] }
  | _ => none }
def FnOpenValuesPrefixWrongFalsely : Prop := fnOpenValuesPrefixRow.holds Try.pinned (OpenSpec.ofChange fnOpenValuesPrefixWrong)

/-- 'zzlaws_terms_b1.FnOpenValuesBlankLine': WHATEVER THE INPUT: true; the input reads as it did. -/
def fnOpenValuesBlankLineSpec : ChangeSpec := { name := "fnOpenValuesBlankLine", fn := fun _ => fun
  | [d1, d2] => { results := [.lit (.bool true)], args := [d1, d2] }
  | _ => none }
def fnOpenValuesBlankLineRow : OpenClaim := { program := "qxb6601764a", sum := "60f7714ef3a4d262f08c54edef9bdb8238480fe78f86f6bb9031b49e634bd8f3", func := "example.com/tuoguan/tuoguan/zzlaws_terms_b1.FnOpenValuesBlankLine", spec := "fnOpenValuesBlankLine", apart := false }
def FnOpenValuesBlankLineSaid : Prop := fnOpenValuesBlankLineRow.holds Try.pinned (OpenSpec.ofChange fnOpenValuesBlankLineSpec)

/-- ITS FALSE NEIGHBOUR: 'it returns false'. Refute it at one input. -/
def fnOpenValuesBlankLineWrong : ChangeSpec := { name := "fnOpenValuesBlankLine", fn := fun _ => fun
  | [d1, d2] => { results := [.lit (.bool false)], args := [d1, d2] }
  | _ => none }
def FnOpenValuesBlankLineWrongFalsely : Prop := fnOpenValuesBlankLineRow.holds Try.pinned (OpenSpec.ofChange fnOpenValuesBlankLineWrong)

/-- 'zzlaws_terms_b1.FnStringEndModel': WHATEVER THE INPUT: true; the input reads as it did. -/
def fnStringEndModelSpec : ChangeSpec := { name := "fnStringEndModel", fn := fun _ => fun
  | [d1, d2] => { results := [.lit (.bool true)], args := [d1, d2] }
  | _ => none }
def fnStringEndModelRow : OpenClaim := { program := "qxb6601764a", sum := "60f7714ef3a4d262f08c54edef9bdb8238480fe78f86f6bb9031b49e634bd8f3", func := "example.com/tuoguan/tuoguan/zzlaws_terms_b1.FnStringEndModel", spec := "fnStringEndModel", apart := false }
def FnStringEndModelSaid : Prop := fnStringEndModelRow.holds Try.pinned (OpenSpec.ofChange fnStringEndModelSpec)

/-- ITS FALSE NEIGHBOUR: 'it returns false'. Refute it at one input. -/
def fnStringEndModelWrong : ChangeSpec := { name := "fnStringEndModel", fn := fun _ => fun
  | [d1, d2] => { results := [.lit (.bool false)], args := [d1, d2] }
  | _ => none }
def FnStringEndModelWrongFalsely : Prop := fnStringEndModelRow.holds Try.pinned (OpenSpec.ofChange fnStringEndModelWrong)

/-- 'zzlaws_terms_b1.FnStringEndLocal': WHATEVER THE INPUT: true; the input reads as it did. -/
def fnStringEndLocalSpec : ChangeSpec := { name := "fnStringEndLocal", fn := fun _ => fun
  | [d1, d2, d3] => { results := [.lit (.bool true)], args := [d1, d2, d3] }
  | _ => none }
def fnStringEndLocalRow : OpenClaim := { program := "qxb6601764a", sum := "60f7714ef3a4d262f08c54edef9bdb8238480fe78f86f6bb9031b49e634bd8f3", func := "example.com/tuoguan/tuoguan/zzlaws_terms_b1.FnStringEndLocal", spec := "fnStringEndLocal", apart := false }
def FnStringEndLocalSaid : Prop := fnStringEndLocalRow.holds Try.pinned (OpenSpec.ofChange fnStringEndLocalSpec)

/-- ITS FALSE NEIGHBOUR: 'it returns false'. Refute it at one input. -/
def fnStringEndLocalWrong : ChangeSpec := { name := "fnStringEndLocal", fn := fun _ => fun
  | [d1, d2, d3] => { results := [.lit (.bool false)], args := [d1, d2, d3] }
  | _ => none }
def FnStringEndLocalWrongFalsely : Prop := fnStringEndLocalRow.holds Try.pinned (OpenSpec.ofChange fnStringEndLocalWrong)

/-- 'zzlaws_terms_b1.FnMultiLineEndModel': WHATEVER THE INPUT: true; the input reads as it did. -/
def fnMultiLineEndModelSpec : ChangeSpec := { name := "fnMultiLineEndModel", fn := fun _ => fun
  | [d1, d2, d3] => { results := [.lit (.bool true)], args := [d1, d2, d3] }
  | _ => none }
def fnMultiLineEndModelRow : OpenClaim := { program := "qxb6601764a", sum := "60f7714ef3a4d262f08c54edef9bdb8238480fe78f86f6bb9031b49e634bd8f3", func := "example.com/tuoguan/tuoguan/zzlaws_terms_b1.FnMultiLineEndModel", spec := "fnMultiLineEndModel", apart := false }
def FnMultiLineEndModelSaid : Prop := fnMultiLineEndModelRow.holds Try.pinned (OpenSpec.ofChange fnMultiLineEndModelSpec)

/-- ITS FALSE NEIGHBOUR: 'it returns false'. Refute it at one input. -/
def fnMultiLineEndModelWrong : ChangeSpec := { name := "fnMultiLineEndModel", fn := fun _ => fun
  | [d1, d2, d3] => { results := [.lit (.bool false)], args := [d1, d2, d3] }
  | _ => none }
def FnMultiLineEndModelWrongFalsely : Prop := fnMultiLineEndModelRow.holds Try.pinned (OpenSpec.ofChange fnMultiLineEndModelWrong)

end Rows
end Go.Proofs.Qxb6601764a
