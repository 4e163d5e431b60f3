/-
  No cell of these rows narrows 'for every input' (looked for: loops, veiled, ifaces, maps, wideKeys, modest, calm, conditions, laid).
  DERIVED. THE GIVEN ROWS OF THIS SEAT. 5 by the template 'for every input the law returns true; each argument reads behind the call as it read before'; 0 by the template 'total and deterministic' (their statements: Qxb6621704aTotals.lean).
  GIVEN WITH THE SEED: the statements are not yours to turn. If you find one false, say at which input.
  Laid BY PROGRAM, IN A SANDBOX (cutbox-rows.mjs): the forced cells as the released guide's own fill.sh prints them over the translation bcd816e6cdab1cb1… (all of the seat's roots in one cut). By AI agents, Wed Nov 11 2026. No macro, syntax, notation, axiom, sorry.
-/
import Derived.Test.Qxb6621704aChecked
import GoSem.Claim
import GoSem.ClaimJoined
import GoSem.ClaimMapViews
import Derived.JoinedTies
import Derived.KernelRfl
namespace Go.Proofs.Qxb6621704a
/- THE CELL 'sum', in the pinned program and in every row, IS THE sha256 OF THE DUMP (.gsa) THAT Qxb6621704aProg.lean LOADS. Nothing in Lean hashes anything: it is a label: what it is worth is what the hold of that sum in a sandbox is worth. -/
noncomputable def Try.pinned : Pinned := { name := "qxb6621704a", sum := "bcd816e6cdab1cb12317946aa4280bbe43ccd9b5b0f18ce66ae8f1658589f555", checked := Try.checked }
namespace Rows
def none {H : Type} : Left H := { results := [], args := [] }

/-- 'zzlaws_jsonscan_b1.FnStringEndMatchesQuoteParity': WHATEVER THE INPUT: true; the input reads as it did. -/
def fnStringEndMatchesQuoteParitySpec : ChangeSpec := { name := "fnStringEndMatchesQuoteParity", fn := fun _ => fun
  | [d1, d2] => { results := [.lit (.bool true)], args := [d1, d2] }
  | _ => none }
def fnStringEndMatchesQuoteParityRow : OpenClaim := { program := "qxb6621704a", sum := "bcd816e6cdab1cb12317946aa4280bbe43ccd9b5b0f18ce66ae8f1658589f555", func := "example.com/coxswain/coxswain/zzlaws_jsonscan_b1.FnStringEndMatchesQuoteParity", spec := "fnStringEndMatchesQuoteParity", apart := false }
def FnStringEndMatchesQuoteParitySaid : Prop := fnStringEndMatchesQuoteParityRow.holds Try.pinned (OpenSpec.ofChange fnStringEndMatchesQuoteParitySpec)

/-- ITS FALSE NEIGHBOUR: 'it returns false'. Refute it at one input. -/
def fnStringEndMatchesQuoteParityWrong : ChangeSpec := { name := "fnStringEndMatchesQuoteParity", fn := fun _ => fun
  | [d1, d2] => { results := [.lit (.bool false)], args := [d1, d2] }
  | _ => none }
def FnStringEndMatchesQuoteParityWrongFalsely : Prop := fnStringEndMatchesQuoteParityRow.holds Try.pinned (OpenSpec.ofChange fnStringEndMatchesQuoteParityWrong)

/-- 'zzlaws_jsonscan_b1.FnStringEndShiftAndExtend': WHATEVER THE INPUT: true; the input reads as it did. -/
def fnStringEndShiftAndExtendSpec : ChangeSpec := { name := "fnStringEndShiftAndExtend", fn := fun _ => fun
  | [d1, d2, d3, d4] => { results := [.lit (.bool true)], args := [d1, d2, d3, d4] }
  | _ => none }
def fnStringEndShiftAndExtendRow : OpenClaim := { program := "qxb6621704a", sum := "bcd816e6cdab1cb12317946aa4280bbe43ccd9b5b0f18ce66ae8f1658589f555", func := "example.com/coxswain/coxswain/zzlaws_jsonscan_b1.FnStringEndShiftAndExtend", spec := "fnStringEndShiftAndExtend", apart := false }
def FnStringEndShiftAndExtendSaid : Prop := fnStringEndShiftAndExtendRow.holds Try.pinned (OpenSpec.ofChange fnStringEndShiftAndExtendSpec)

/-- ITS FALSE NEIGHBOUR: 'it returns false'. Refute it at one input. -/
def fnStringEndShiftAndExtendWrong : ChangeSpec := { name := "fnStringEndShiftAndExtend", fn := fun _ => fun
  | [d1, d2, d3, d4] => { results := [.lit (.bool false)], args := [d1, d2, d3, d4] }
  | _ => none }
def FnStringEndShiftAndExtendWrongFalsely : Prop := fnStringEndShiftAndExtendRow.holds Try.pinned (OpenSpec.ofChange fnStringEndShiftAndExtendWrong)

/-- 'zzlaws_jsonscan_b1.FnValueEndMatchesBracketMachine': WHATEVER THE INPUT: true; the input reads as it did. -/
def fnValueEndMatchesBracketMachineSpec : ChangeSpec := { name := "fnValueEndMatchesBracketMachine", fn := fun _ => fun
  | [d1, d2] => { results := [.lit (.bool true)], args := [d1, d2] }
  | _ => none }
def fnValueEndMatchesBracketMachineRow : OpenClaim := { program := "qxb6621704a", sum := "bcd816e6cdab1cb12317946aa4280bbe43ccd9b5b0f18ce66ae8f1658589f555", func := "example.com/coxswain/coxswain/zzlaws_jsonscan_b1.FnValueEndMatchesBracketMachine", spec := "fnValueEndMatchesBracketMachine", apart := false }
def FnValueEndMatchesBracketMachineSaid : Prop := fnValueEndMatchesBracketMachineRow.holds Try.pinned (OpenSpec.ofChange fnValueEndMatchesBracketMachineSpec)

/-- ITS FALSE NEIGHBOUR: 'it returns false'. Refute it at one input. -/
def fnValueEndMatchesBracketMachineWrong : ChangeSpec := { name := "fnValueEndMatchesBracketMachine", fn := fun _ => fun
  | [d1, d2] => { results := [.lit (.bool false)], args := [d1, d2] }
  | _ => none }
def FnValueEndMatchesBracketMachineWrongFalsely : Prop := fnValueEndMatchesBracketMachineRow.holds Try.pinned (OpenSpec.ofChange fnValueEndMatchesBracketMachineWrong)

/-- 'zzlaws_jsonscan_b1.FnValueEndShiftAndExtend': WHATEVER THE INPUT: true; the input reads as it did. -/
def fnValueEndShiftAndExtendSpec : ChangeSpec := { name := "fnValueEndShiftAndExtend", fn := fun _ => fun
  | [d1, d2, d3, d4] => { results := [.lit (.bool true)], args := [d1, d2, d3, d4] }
  | _ => none }
def fnValueEndShiftAndExtendRow : OpenClaim := { program := "qxb6621704a", sum := "bcd816e6cdab1cb12317946aa4280bbe43ccd9b5b0f18ce66ae8f1658589f555", func := "example.com/coxswain/coxswain/zzlaws_jsonscan_b1.FnValueEndShiftAndExtend", spec := "fnValueEndShiftAndExtend", apart := false }
def FnValueEndShiftAndExtendSaid : Prop := fnValueEndShiftAndExtendRow.holds Try.pinned (OpenSpec.ofChange fnValueEndShiftAndExtendSpec)

/-- ITS FALSE NEIGHBOUR: 'it returns false'. Refute it at one input. -/
def fnValueEndShiftAndExtendWrong : ChangeSpec := { name := "fnValueEndShiftAndExtend", fn := fun _ => fun
  | [d1, d2, d3, d4] => { results := [.lit (.bool false)], args := [d1, d2, d3, d4] }
  | _ => none }
def FnValueEndShiftAndExtendWrongFalsely : Prop := fnValueEndShiftAndExtendRow.holds Try.pinned (OpenSpec.ofChange fnValueEndShiftAndExtendWrong)

/-- 'zzlaws_jsonscan_b1.FnHexRuneIsItsFourDigits': WHATEVER THE INPUT: true; the input reads as it did. -/
def fnHexRuneIsItsFourDigitsSpec : ChangeSpec := { name := "fnHexRuneIsItsFourDigits", fn := fun _ => fun
  | [d] => { results := [.lit (.bool true)], args := [d] }
  | _ => none }
def fnHexRuneIsItsFourDigitsRow : OpenClaim := { program := "qxb6621704a", sum := "bcd816e6cdab1cb12317946aa4280bbe43ccd9b5b0f18ce66ae8f1658589f555", func := "example.com/coxswain/coxswain/zzlaws_jsonscan_b1.FnHexRuneIsItsFourDigits", spec := "fnHexRuneIsItsFourDigits", apart := false }
def FnHexRuneIsItsFourDigitsSaid : Prop := fnHexRuneIsItsFourDigitsRow.holds Try.pinned (OpenSpec.ofChange fnHexRuneIsItsFourDigitsSpec)

/-- ITS FALSE NEIGHBOUR: 'it returns false'. Refute it at one input. -/
def fnHexRuneIsItsFourDigitsWrong : ChangeSpec := { name := "fnHexRuneIsItsFourDigits", fn := fun _ => fun
  | [d] => { results := [.lit (.bool false)], args := [d] }
  | _ => none }
def FnHexRuneIsItsFourDigitsWrongFalsely : Prop := fnHexRuneIsItsFourDigitsRow.holds Try.pinned (OpenSpec.ofChange fnHexRuneIsItsFourDigitsWrong)

end Rows
end Go.Proofs.Qxb6621704a
