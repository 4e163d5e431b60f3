/-
  No cell of these rows narrows 'for every input' (looked for: loops, veiled, ifaces, maps, wideKeys, modest, calm, conditions, laid).
  DERIVED. THE GIVEN ROWS OF THIS SEAT. 4 by the template 'for every input the law returns true; each argument reads behind the call as it read before'; 0 by the template 'total and deterministic' (their statements: Qxb6619470aTotals.lean).
  GIVEN WITH THE SEED: the statements are not yours to turn. If you find one false, say at which input.
  Laid BY PROGRAM, IN A SANDBOX (cutbox-rows.mjs): the forced cells as the released guide's own fill.sh prints them over the translation 7369d1520dc55547… (all of the seat's roots in one cut). By AI agents, Wed Nov 11 2026. No macro, syntax, notation, axiom, sorry.
-/
import Derived.Test.Qxb6619470aChecked
import GoSem.Claim
import GoSem.ClaimJoined
import GoSem.ClaimMapViews
import Derived.JoinedTies
import Derived.KernelRfl
namespace Go.Proofs.Qxb6619470a
/- THE CELL 'sum', in the pinned program and in every row, IS THE sha256 OF THE DUMP (.gsa) THAT Qxb6619470aProg.lean LOADS. Nothing in Lean hashes anything: it is a label: what it is worth is what the hold of that sum in a sandbox is worth. -/
noncomputable def Try.pinned : Pinned := { name := "qxb6619470a", sum := "7369d1520dc5554740a071f36d2683fde37edea3e2cb53389449261974bd3756", checked := Try.checked }
namespace Rows
def none {H : Type} : Left H := { results := [], args := [] }

/-- 'zzlaws_king_b1.FnReceiversAreSendTargets': WHATEVER THE INPUT: true; the input reads as it did. -/
def fnReceiversAreSendTargetsSpec : ChangeSpec := { name := "fnReceiversAreSendTargets", fn := fun _ => fun
  | [d1, d2, d3, d4] => { results := [.lit (.bool true)], args := [d1, d2, d3, d4] }
  | _ => none }
def fnReceiversAreSendTargetsRow : OpenClaim := { program := "qxb6619470a", sum := "7369d1520dc5554740a071f36d2683fde37edea3e2cb53389449261974bd3756", func := "example.com/pulsecord/pulsecord/zzlaws_king_b1.FnReceiversAreSendTargets", spec := "fnReceiversAreSendTargets", recurses := true, apart := false }
def FnReceiversAreSendTargetsSaid : Prop := fnReceiversAreSendTargetsRow.holds Try.pinned (OpenSpec.ofChange fnReceiversAreSendTargetsSpec)

/-- ITS FALSE NEIGHBOUR: 'it returns false'. Refute it at one input. -/
def fnReceiversAreSendTargetsWrong : ChangeSpec := { name := "fnReceiversAreSendTargets", fn := fun _ => fun
  | [d1, d2, d3, d4] => { results := [.lit (.bool false)], args := [d1, d2, d3, d4] }
  | _ => none }
def FnReceiversAreSendTargetsWrongFalsely : Prop := fnReceiversAreSendTargetsRow.holds Try.pinned (OpenSpec.ofChange fnReceiversAreSendTargetsWrong)

/-- 'zzlaws_king_b1.FnReceiversKingRotates': WHATEVER THE INPUT: true; the input reads as it did. -/
def fnReceiversKingRotatesSpec : ChangeSpec := { name := "fnReceiversKingRotates", fn := fun _ => fun
  | [d1, d2] => { results := [.lit (.bool true)], args := [d1, d2] }
  | _ => none }
def fnReceiversKingRotatesRow : OpenClaim := { program := "qxb6619470a", sum := "7369d1520dc5554740a071f36d2683fde37edea3e2cb53389449261974bd3756", func := "example.com/pulsecord/pulsecord/zzlaws_king_b1.FnReceiversKingRotates", spec := "fnReceiversKingRotates", apart := false }
def FnReceiversKingRotatesSaid : Prop := fnReceiversKingRotatesRow.holds Try.pinned (OpenSpec.ofChange fnReceiversKingRotatesSpec)

/-- ITS FALSE NEIGHBOUR: 'it returns false'. Refute it at one input. -/
def fnReceiversKingRotatesWrong : ChangeSpec := { name := "fnReceiversKingRotates", fn := fun _ => fun
  | [d1, d2] => { results := [.lit (.bool false)], args := [d1, d2] }
  | _ => none }
def FnReceiversKingRotatesWrongFalsely : Prop := fnReceiversKingRotatesRow.holds Try.pinned (OpenSpec.ofChange fnReceiversKingRotatesWrong)

/-- 'zzlaws_king_b1.FnSendSettlesThenSends': WHATEVER THE INPUT: true; the input reads as it did. -/
def fnSendSettlesThenSendsSpec : ChangeSpec := { name := "fnSendSettlesThenSends", fn := fun _ => fun
  | [d1, d2, d3, d4, d5, d6, d7, d8, d9, d10, d11] => { results := [.lit (.bool true)], args := [d1, d2, d3, d4, d5, d6, d7, d8, d9, d10, d11] }
  | _ => none }
def fnSendSettlesThenSendsRow : OpenClaim := { program := "qxb6619470a", sum := "7369d1520dc5554740a071f36d2683fde37edea3e2cb53389449261974bd3756", func := "example.com/pulsecord/pulsecord/zzlaws_king_b1.FnSendSettlesThenSends", spec := "fnSendSettlesThenSends", recurses := true, apart := false }
def FnSendSettlesThenSendsSaid : Prop := fnSendSettlesThenSendsRow.holds Try.pinned (OpenSpec.ofChange fnSendSettlesThenSendsSpec)

/-- ITS FALSE NEIGHBOUR: 'it returns false'. Refute it at one input. -/
def fnSendSettlesThenSendsWrong : ChangeSpec := { name := "fnSendSettlesThenSends", fn := fun _ => fun
  | [d1, d2, d3, d4, d5, d6, d7, d8, d9, d10, d11] => { results := [.lit (.bool false)], args := [d1, d2, d3, d4, d5, d6, d7, d8, d9, d10, d11] }
  | _ => none }
def FnSendSettlesThenSendsWrongFalsely : Prop := fnSendSettlesThenSendsRow.holds Try.pinned (OpenSpec.ofChange fnSendSettlesThenSendsWrong)

/-- 'zzlaws_king_b1.FnSettleCountsAsSpecified': WHATEVER THE INPUT: true; the input reads as it did. -/
def fnSettleCountsAsSpecifiedSpec : ChangeSpec := { name := "fnSettleCountsAsSpecified", fn := fun _ => fun
  | [d1, d2, d3, d4, d5, d6, d7, d8, d9, d10, d11] => { results := [.lit (.bool true)], args := [d1, d2, d3, d4, d5, d6, d7, d8, d9, d10, d11] }
  | _ => none }
def fnSettleCountsAsSpecifiedRow : OpenClaim := { program := "qxb6619470a", sum := "7369d1520dc5554740a071f36d2683fde37edea3e2cb53389449261974bd3756", func := "example.com/pulsecord/pulsecord/zzlaws_king_b1.FnSettleCountsAsSpecified", spec := "fnSettleCountsAsSpecified", recurses := true, apart := false }
def FnSettleCountsAsSpecifiedSaid : Prop := fnSettleCountsAsSpecifiedRow.holds Try.pinned (OpenSpec.ofChange fnSettleCountsAsSpecifiedSpec)

/-- ITS FALSE NEIGHBOUR: 'it returns false'. Refute it at one input. -/
def fnSettleCountsAsSpecifiedWrong : ChangeSpec := { name := "fnSettleCountsAsSpecified", fn := fun _ => fun
  | [d1, d2, d3, d4, d5, d6, d7, d8, d9, d10, d11] => { results := [.lit (.bool false)], args := [d1, d2, d3, d4, d5, d6, d7, d8, d9, d10, d11] }
  | _ => none }
def FnSettleCountsAsSpecifiedWrongFalsely : Prop := fnSettleCountsAsSpecifiedRow.holds Try.pinned (OpenSpec.ofChange fnSettleCountsAsSpecifiedWrong)

end Rows
end Go.Proofs.Qxb6619470a
