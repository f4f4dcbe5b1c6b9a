/-
  No cell of these rows narrows 'for every input' (looked for: loops, veiled, ifaces, maps, wideKeys, modest, calm, conditions, laid).
  DERIVED. THE GIVEN ROWS OF THIS SEAT. 6 by the template 'for every input the law returns true; each argument reads behind the call as it read before'; 0 by the template 'total and deterministic' (their statements: Qxb6600943aModsTotals.lean).
  GIVEN WITH THE SEED: the statements are not yours to turn. If you find one false, say at which input.
  Laid BY PROGRAM, IN A SANDBOX (cutbox-rows.mjs): the forced cells as the released guide's own fill.sh prints them over the translation bffca19d345a252d… (all of the seat's roots in one cut). By AI agents, Wed Nov 11 2026. No macro, syntax, notation, axiom, sorry.
-/
import Derived.Test.Qxb6600943aModsChecked
import GoSem.Claim
import GoSem.ClaimJoined
import GoSem.ClaimMapViews
import Derived.JoinedTies
import Derived.KernelRfl
namespace Go.Proofs.Qxb6600943aMods
/- THE CELL 'sum', in the pinned program and in every row, IS THE sha256 OF THE DUMP (.gsa) THAT Qxb6600943aModsProg.lean LOADS. Nothing in Lean hashes anything: it is a label: what it is worth is what the hold of that sum in a sandbox is worth. -/
noncomputable def Trym.pinned : Pinned := { name := "qxb6600943amods", sum := "bffca19d345a252d0f2947f315e973335a4dbe5ab759d0ca2f5af3578b2eaf97", checked := Trym.checked }
namespace Rows
def none {H : Type} : Left H := { results := [], args := [] }

/-- 'zzlaws_internal_schedule_b1.FnOfVictimsIdempotentAndNeverTimedOut': WHATEVER THE INPUT: true; the input reads as it did. -/
def fnOfVictimsIdempotentAndNeverTimedOutSpec : ChangeSpec := { name := "fnOfVictimsIdempotentAndNeverTimedOut", fn := fun _ => fun
  | [d] => { results := [.lit (.bool true)], args := [d] }
  | _ => none }
def fnOfVictimsIdempotentAndNeverTimedOutRow : OpenClaim := { program := "qxb6600943amods", sum := "bffca19d345a252d0f2947f315e973335a4dbe5ab759d0ca2f5af3578b2eaf97", func := "example.com/podquorum/podquorum/zzlaws_internal_schedule_b1.FnOfVictimsIdempotentAndNeverTimedOut", spec := "fnOfVictimsIdempotentAndNeverTimedOut", make := .lifted ["publicsums"], apart := false }
def FnOfVictimsIdempotentAndNeverTimedOutSaid : Prop := fnOfVictimsIdempotentAndNeverTimedOutRow.holds Trym.pinned (OpenSpec.ofChange fnOfVictimsIdempotentAndNeverTimedOutSpec)

/-- ITS FALSE NEIGHBOUR: 'it returns false'. Refute it at one input. -/
def fnOfVictimsIdempotentAndNeverTimedOutWrong : ChangeSpec := { name := "fnOfVictimsIdempotentAndNeverTimedOut", fn := fun _ => fun
  | [d] => { results := [.lit (.bool false)], args := [d] }
  | _ => none }
def FnOfVictimsIdempotentAndNeverTimedOutWrongFalsely : Prop := fnOfVictimsIdempotentAndNeverTimedOutRow.holds Trym.pinned (OpenSpec.ofChange fnOfVictimsIdempotentAndNeverTimedOutWrong)

/-- 'zzlaws_internal_schedule_b1.FnUniteIsBitwiseUnion': WHATEVER THE INPUT: true; the input reads as it did. -/
def fnUniteIsBitwiseUnionSpec : ChangeSpec := { name := "fnUniteIsBitwiseUnion", fn := fun _ => fun
  | [d1, d2] => { results := [.lit (.bool true)], args := [d1, d2] }
  | _ => none }
def fnUniteIsBitwiseUnionRow : OpenClaim := { program := "qxb6600943amods", sum := "bffca19d345a252d0f2947f315e973335a4dbe5ab759d0ca2f5af3578b2eaf97", func := "example.com/podquorum/podquorum/zzlaws_internal_schedule_b1.FnUniteIsBitwiseUnion", spec := "fnUniteIsBitwiseUnion", make := .lifted ["publicsums"], apart := false }
def FnUniteIsBitwiseUnionSaid : Prop := fnUniteIsBitwiseUnionRow.holds Trym.pinned (OpenSpec.ofChange fnUniteIsBitwiseUnionSpec)

/-- ITS FALSE NEIGHBOUR: 'it returns false'. Refute it at one input. -/
def fnUniteIsBitwiseUnionWrong : ChangeSpec := { name := "fnUniteIsBitwiseUnion", fn := fun _ => fun
  | [d1, d2] => { results := [.lit (.bool false)], args := [d1, d2] }
  | _ => none }
def FnUniteIsBitwiseUnionWrongFalsely : Prop := fnUniteIsBitwiseUnionRow.holds Trym.pinned (OpenSpec.ofChange fnUniteIsBitwiseUnionWrong)

/-- 'zzlaws_internal_schedule_b1.FnUniteCommutesAndIsIdempotent': WHATEVER THE INPUT: true; the input reads as it did. -/
def fnUniteCommutesAndIsIdempotentSpec : ChangeSpec := { name := "fnUniteCommutesAndIsIdempotent", fn := fun _ => fun
  | [d1, d2] => { results := [.lit (.bool true)], args := [d1, d2] }
  | _ => none }
def fnUniteCommutesAndIsIdempotentRow : OpenClaim := { program := "qxb6600943amods", sum := "bffca19d345a252d0f2947f315e973335a4dbe5ab759d0ca2f5af3578b2eaf97", func := "example.com/podquorum/podquorum/zzlaws_internal_schedule_b1.FnUniteCommutesAndIsIdempotent", spec := "fnUniteCommutesAndIsIdempotent", make := .lifted ["publicsums"], apart := false }
def FnUniteCommutesAndIsIdempotentSaid : Prop := fnUniteCommutesAndIsIdempotentRow.holds Trym.pinned (OpenSpec.ofChange fnUniteCommutesAndIsIdempotentSpec)

/-- ITS FALSE NEIGHBOUR: 'it returns false'. Refute it at one input. -/
def fnUniteCommutesAndIsIdempotentWrong : ChangeSpec := { name := "fnUniteCommutesAndIsIdempotent", fn := fun _ => fun
  | [d1, d2] => { results := [.lit (.bool false)], args := [d1, d2] }
  | _ => none }
def FnUniteCommutesAndIsIdempotentWrongFalsely : Prop := fnUniteCommutesAndIsIdempotentRow.holds Trym.pinned (OpenSpec.ofChange fnUniteCommutesAndIsIdempotentWrong)

/-- 'zzlaws_internal_schedule_b1.FnUniteShiftedMatchesBitModel': WHATEVER THE INPUT: true; the input reads as it did. -/
def fnUniteShiftedMatchesBitModelSpec : ChangeSpec := { name := "fnUniteShiftedMatchesBitModel", fn := fun _ => fun
  | [d1, d2, d3, d4] => { results := [.lit (.bool true)], args := [d1, d2, d3, d4] }
  | _ => none }
def fnUniteShiftedMatchesBitModelRow : OpenClaim := { program := "qxb6600943amods", sum := "bffca19d345a252d0f2947f315e973335a4dbe5ab759d0ca2f5af3578b2eaf97", func := "example.com/podquorum/podquorum/zzlaws_internal_schedule_b1.FnUniteShiftedMatchesBitModel", spec := "fnUniteShiftedMatchesBitModel", make := .lifted ["publicsums"], apart := false }
def FnUniteShiftedMatchesBitModelSaid : Prop := fnUniteShiftedMatchesBitModelRow.holds Trym.pinned (OpenSpec.ofChange fnUniteShiftedMatchesBitModelSpec)

/-- ITS FALSE NEIGHBOUR: 'it returns false'. Refute it at one input. -/
def fnUniteShiftedMatchesBitModelWrong : ChangeSpec := { name := "fnUniteShiftedMatchesBitModel", fn := fun _ => fun
  | [d1, d2, d3, d4] => { results := [.lit (.bool false)], args := [d1, d2, d3, d4] }
  | _ => none }
def FnUniteShiftedMatchesBitModelWrongFalsely : Prop := fnUniteShiftedMatchesBitModelRow.holds Trym.pinned (OpenSpec.ofChange fnUniteShiftedMatchesBitModelWrong)

/-- 'zzlaws_internal_schedule_b1.FnUniteShiftedTwiceGrowsNothing': WHATEVER THE INPUT: true; the input reads as it did. -/
def fnUniteShiftedTwiceGrowsNothingSpec : ChangeSpec := { name := "fnUniteShiftedTwiceGrowsNothing", fn := fun _ => fun
  | [d1, d2, d3, d4] => { results := [.lit (.bool true)], args := [d1, d2, d3, d4] }
  | _ => none }
def fnUniteShiftedTwiceGrowsNothingRow : OpenClaim := { program := "qxb6600943amods", sum := "bffca19d345a252d0f2947f315e973335a4dbe5ab759d0ca2f5af3578b2eaf97", func := "example.com/podquorum/podquorum/zzlaws_internal_schedule_b1.FnUniteShiftedTwiceGrowsNothing", spec := "fnUniteShiftedTwiceGrowsNothing", make := .lifted ["publicsums"], apart := false }
def FnUniteShiftedTwiceGrowsNothingSaid : Prop := fnUniteShiftedTwiceGrowsNothingRow.holds Trym.pinned (OpenSpec.ofChange fnUniteShiftedTwiceGrowsNothingSpec)

/-- ITS FALSE NEIGHBOUR: 'it returns false'. Refute it at one input. -/
def fnUniteShiftedTwiceGrowsNothingWrong : ChangeSpec := { name := "fnUniteShiftedTwiceGrowsNothing", fn := fun _ => fun
  | [d1, d2, d3, d4] => { results := [.lit (.bool false)], args := [d1, d2, d3, d4] }
  | _ => none }
def FnUniteShiftedTwiceGrowsNothingWrongFalsely : Prop := fnUniteShiftedTwiceGrowsNothingRow.holds Trym.pinned (OpenSpec.ofChange fnUniteShiftedTwiceGrowsNothingWrong)

/-- 'zzlaws_internal_schedule_b1.FnUniteShiftedZeroShiftFullMaskIsUnite': WHATEVER THE INPUT: true; the input reads as it did. -/
def fnUniteShiftedZeroShiftFullMaskIsUniteSpec : ChangeSpec := { name := "fnUniteShiftedZeroShiftFullMaskIsUnite", fn := fun _ => fun
  | [d1, d2] => { results := [.lit (.bool true)], args := [d1, d2] }
  | _ => none }
def fnUniteShiftedZeroShiftFullMaskIsUniteRow : OpenClaim := { program := "qxb6600943amods", sum := "bffca19d345a252d0f2947f315e973335a4dbe5ab759d0ca2f5af3578b2eaf97", func := "example.com/podquorum/podquorum/zzlaws_internal_schedule_b1.FnUniteShiftedZeroShiftFullMaskIsUnite", spec := "fnUniteShiftedZeroShiftFullMaskIsUnite", make := .lifted ["publicsums"], apart := false }
def FnUniteShiftedZeroShiftFullMaskIsUniteSaid : Prop := fnUniteShiftedZeroShiftFullMaskIsUniteRow.holds Trym.pinned (OpenSpec.ofChange fnUniteShiftedZeroShiftFullMaskIsUniteSpec)

/-- ITS FALSE NEIGHBOUR: 'it returns false'. Refute it at one input. -/
def fnUniteShiftedZeroShiftFullMaskIsUniteWrong : ChangeSpec := { name := "fnUniteShiftedZeroShiftFullMaskIsUnite", fn := fun _ => fun
  | [d1, d2] => { results := [.lit (.bool false)], args := [d1, d2] }
  | _ => none }
def FnUniteShiftedZeroShiftFullMaskIsUniteWrongFalsely : Prop := fnUniteShiftedZeroShiftFullMaskIsUniteRow.holds Trym.pinned (OpenSpec.ofChange fnUniteShiftedZeroShiftFullMaskIsUniteWrong)

end Rows
end Go.Proofs.Qxb6600943aMods
