/-
  No cell of these rows narrows 'for every input' (looked for: loops, veiled, ifaces, maps, wideKeys, modest, calm, conditions, laid).
  DERIVED. THE GIVEN ROWS OF THIS SEAT. 4 by the template 'for every input the law returns true; each argument reads behind the call as it read before'; 0 by the template 'total and deterministic' (their statements: Qxb6605287aTotals.lean).
  GIVEN WITH THE SEED: the statements are not yours to turn. If you find one false, say at which input.
  Laid BY PROGRAM, IN A SANDBOX (cutbox-rows.mjs): the forced cells as the released guide's own fill.sh prints them over the translation c8f3930f4adc08c0… (all of the seat's roots in one cut). By AI agents, Wed Nov 11 2026. No macro, syntax, notation, axiom, sorry.
-/
import Derived.Test.Qxb6605287aChecked
import GoSem.Claim
import GoSem.ClaimJoined
import GoSem.ClaimMapViews
import Derived.JoinedTies
import Derived.KernelRfl
namespace Go.Proofs.Qxb6605287a
/- THE CELL 'sum', in the pinned program and in every row, IS THE sha256 OF THE DUMP (.gsa) THAT Qxb6605287aProg.lean LOADS. Nothing in Lean hashes anything: it is a label: what it is worth is what the hold of that sum in a sandbox is worth. -/
noncomputable def Try.pinned : Pinned := { name := "qxb6605287a", sum := "c8f3930f4adc08c0e96b85af996b35601510c8f63d1c2a39be0a972e34e91aca", checked := Try.checked }
namespace Rows
def none {H : Type} : Left H := { results := [], args := [] }

/-- 'zzlaws_schema_b1.FnHex4MatchesPositionalModel': WHATEVER THE INPUT: true; the input reads as it did. -/
def fnHex4MatchesPositionalModelSpec : ChangeSpec := { name := "fnHex4MatchesPositionalModel", fn := fun _ => fun
  | [d] => { results := [.lit (.bool true)], args := [d] }
  | _ => none }
def fnHex4MatchesPositionalModelRow : OpenClaim := { program := "qxb6605287a", sum := "c8f3930f4adc08c0e96b85af996b35601510c8f63d1c2a39be0a972e34e91aca", func := "example.com/sanction/sanction/zzlaws_schema_b1.FnHex4MatchesPositionalModel", spec := "fnHex4MatchesPositionalModel", apart := false }
def FnHex4MatchesPositionalModelSaid : Prop := fnHex4MatchesPositionalModelRow.holds Try.pinned (OpenSpec.ofChange fnHex4MatchesPositionalModelSpec)

/-- ITS FALSE NEIGHBOUR: 'it returns false'. Refute it at one input. -/
def fnHex4MatchesPositionalModelWrong : ChangeSpec := { name := "fnHex4MatchesPositionalModel", fn := fun _ => fun
  | [d] => { results := [.lit (.bool false)], args := [d] }
  | _ => none }
def FnHex4MatchesPositionalModelWrongFalsely : Prop := fnHex4MatchesPositionalModelRow.holds Try.pinned (OpenSpec.ofChange fnHex4MatchesPositionalModelWrong)

/-- 'zzlaws_schema_b1.FnHex4ReadsFourDigitsItWrote': WHATEVER THE INPUT: true; the input reads as it did. -/
def fnHex4ReadsFourDigitsItWroteSpec : ChangeSpec := { name := "fnHex4ReadsFourDigitsItWrote", fn := fun _ => fun
  | [d1, d2, d3] => { results := [.lit (.bool true)], args := [d1, d2, d3] }
  | _ => none }
def fnHex4ReadsFourDigitsItWroteRow : OpenClaim := { program := "qxb6605287a", sum := "c8f3930f4adc08c0e96b85af996b35601510c8f63d1c2a39be0a972e34e91aca", func := "example.com/sanction/sanction/zzlaws_schema_b1.FnHex4ReadsFourDigitsItWrote", spec := "fnHex4ReadsFourDigitsItWrote", apart := false }
def FnHex4ReadsFourDigitsItWroteSaid : Prop := fnHex4ReadsFourDigitsItWroteRow.holds Try.pinned (OpenSpec.ofChange fnHex4ReadsFourDigitsItWroteSpec)

/-- ITS FALSE NEIGHBOUR: 'it returns false'. Refute it at one input. -/
def fnHex4ReadsFourDigitsItWroteWrong : ChangeSpec := { name := "fnHex4ReadsFourDigitsItWrote", fn := fun _ => fun
  | [d1, d2, d3] => { results := [.lit (.bool false)], args := [d1, d2, d3] }
  | _ => none }
def FnHex4ReadsFourDigitsItWroteWrongFalsely : Prop := fnHex4ReadsFourDigitsItWroteRow.holds Try.pinned (OpenSpec.ofChange fnHex4ReadsFourDigitsItWroteWrong)

/-- 'zzlaws_schema_b1.FnNumberMatchesRightToLeftModel': WHATEVER THE INPUT: true; the input reads as it did. -/
def fnNumberMatchesRightToLeftModelSpec : ChangeSpec := { name := "fnNumberMatchesRightToLeftModel", fn := fun _ => fun
  | [d1, d2, d3, d4, d5] => { results := [.lit (.bool true)], args := [d1, d2, d3, d4, d5] }
  | _ => none }
def fnNumberMatchesRightToLeftModelRow : OpenClaim := { program := "qxb6605287a", sum := "c8f3930f4adc08c0e96b85af996b35601510c8f63d1c2a39be0a972e34e91aca", func := "example.com/sanction/sanction/zzlaws_schema_b1.FnNumberMatchesRightToLeftModel", spec := "fnNumberMatchesRightToLeftModel", apart := false }
def FnNumberMatchesRightToLeftModelSaid : Prop := fnNumberMatchesRightToLeftModelRow.holds Try.pinned (OpenSpec.ofChange fnNumberMatchesRightToLeftModelSpec)

/-- ITS FALSE NEIGHBOUR: 'it returns false'. Refute it at one input. -/
def fnNumberMatchesRightToLeftModelWrong : ChangeSpec := { name := "fnNumberMatchesRightToLeftModel", fn := fun _ => fun
  | [d1, d2, d3, d4, d5] => { results := [.lit (.bool false)], args := [d1, d2, d3, d4, d5] }
  | _ => none }
def FnNumberMatchesRightToLeftModelWrongFalsely : Prop := fnNumberMatchesRightToLeftModelRow.holds Try.pinned (OpenSpec.ofChange fnNumberMatchesRightToLeftModelWrong)

/-- 'zzlaws_schema_b1.FnNumberReadsZeroPaddedDigits': WHATEVER THE INPUT: true; the input reads as it did. -/
def fnNumberReadsZeroPaddedDigitsSpec : ChangeSpec := { name := "fnNumberReadsZeroPaddedDigits", fn := fun _ => fun
  | [d1, d2, d3, d4, d5] => { results := [.lit (.bool true)], args := [d1, d2, d3, d4, d5] }
  | _ => none }
def fnNumberReadsZeroPaddedDigitsRow : OpenClaim := { program := "qxb6605287a", sum := "c8f3930f4adc08c0e96b85af996b35601510c8f63d1c2a39be0a972e34e91aca", func := "example.com/sanction/sanction/zzlaws_schema_b1.FnNumberReadsZeroPaddedDigits", spec := "fnNumberReadsZeroPaddedDigits", apart := false }
def FnNumberReadsZeroPaddedDigitsSaid : Prop := fnNumberReadsZeroPaddedDigitsRow.holds Try.pinned (OpenSpec.ofChange fnNumberReadsZeroPaddedDigitsSpec)

/-- ITS FALSE NEIGHBOUR: 'it returns false'. Refute it at one input. -/
def fnNumberReadsZeroPaddedDigitsWrong : ChangeSpec := { name := "fnNumberReadsZeroPaddedDigits", fn := fun _ => fun
  | [d1, d2, d3, d4, d5] => { results := [.lit (.bool false)], args := [d1, d2, d3, d4, d5] }
  | _ => none }
def FnNumberReadsZeroPaddedDigitsWrongFalsely : Prop := fnNumberReadsZeroPaddedDigitsRow.holds Try.pinned (OpenSpec.ofChange fnNumberReadsZeroPaddedDigitsWrong)

end Rows
end Go.Proofs.Qxb6605287a
