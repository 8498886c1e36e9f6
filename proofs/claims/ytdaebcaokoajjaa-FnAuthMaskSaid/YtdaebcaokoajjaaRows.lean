/-
  No cell of these rows narrows 'for every input' (looked for: loops, veiled, ifaces, maps, wideKeys, modest, calm, conditions, laid).
  DERIVED. THE GIVEN ROWS OF THIS SEAT. 20 by the template 'for every input the law returns true; each argument reads behind the call as it read before'; 0 by the template 'total and deterministic' (their statements: YtdaebcaokoajjaaTotals.lean).
  GIVEN WITH THE SEED: the statements are not yours to turn. If you find one false, say at which input.
  Laid BY PROGRAM, IN A SANDBOX (cutbox-rows.mjs): the forced cells as the released guide's own fill.sh prints them over the translation 0eed2118611739ef… (all of the seat's roots in one cut). By AI agents, Wed Nov 11 2026. No macro, syntax, notation, axiom, sorry.
-/
import Derived.Test.YtdaebcaokoajjaaChecked
import GoSem.Claim
import GoSem.ClaimJoined
import GoSem.ClaimMapViews
import Derived.JoinedTies
import Derived.KernelRfl
namespace Go.Proofs.Ytdaebcaokoajjaa
/- THE CELL 'sum', in the pinned program and in every row, IS THE sha256 OF THE DUMP (.gsa) THAT YtdaebcaokoajjaaProg.lean LOADS. Nothing in Lean hashes anything: it is a label: what it is worth is what the hold of that sum in a sandbox is worth. -/
noncomputable def Try.pinned : Pinned := { name := "ytdaebcaokoajjaa", sum := "0eed2118611739ef7e3c93906771d100df918dcf0d8938e99567ec3460910b2c", checked := Try.checked }
namespace Rows
def none {H : Type} : Left H := { results := [], args := [] }

/-- 'laws.FnCarrylessIs': WHATEVER THE INPUT: true; the input reads as it did. -/
def fnCarrylessIsSpec : ChangeSpec := { name := "fnCarrylessIs", fn := fun _ => fun
  | [d1, d2] => { results := [.lit (.bool true)], args := [d1, d2] }
  | _ => none }
def fnCarrylessIsRow : OpenClaim := { program := "ytdaebcaokoajjaa", sum := "0eed2118611739ef7e3c93906771d100df918dcf0d8938e99567ec3460910b2c", func := "loop.example/pub-g03026/laws.FnCarrylessIs", spec := "fnCarrylessIs", apart := false }
def FnCarrylessIsSaid : Prop := fnCarrylessIsRow.holds Try.pinned (OpenSpec.ofChange fnCarrylessIsSpec)

/-- ITS FALSE NEIGHBOUR: 'it returns false'. Refute it at one input. -/
def fnCarrylessIsWrong : ChangeSpec := { name := "fnCarrylessIs", fn := fun _ => fun
  | [d1, d2] => { results := [.lit (.bool false)], args := [d1, d2] }
  | _ => none }
def FnCarrylessIsWrongFalsely : Prop := fnCarrylessIsRow.holds Try.pinned (OpenSpec.ofChange fnCarrylessIsWrong)

/-- 'laws.FnCarrylessRing': WHATEVER THE INPUT: true; the input reads as it did. -/
def fnCarrylessRingSpec : ChangeSpec := { name := "fnCarrylessRing", fn := fun _ => fun
  | [d1, d2, d3] => { results := [.lit (.bool true)], args := [d1, d2, d3] }
  | _ => none }
def fnCarrylessRingRow : OpenClaim := { program := "ytdaebcaokoajjaa", sum := "0eed2118611739ef7e3c93906771d100df918dcf0d8938e99567ec3460910b2c", func := "loop.example/pub-g03026/laws.FnCarrylessRing", spec := "fnCarrylessRing", apart := false }
def FnCarrylessRingSaid : Prop := fnCarrylessRingRow.holds Try.pinned (OpenSpec.ofChange fnCarrylessRingSpec)

/-- ITS FALSE NEIGHBOUR: 'it returns false'. Refute it at one input. -/
def fnCarrylessRingWrong : ChangeSpec := { name := "fnCarrylessRing", fn := fun _ => fun
  | [d1, d2, d3] => { results := [.lit (.bool false)], args := [d1, d2, d3] }
  | _ => none }
def FnCarrylessRingWrongFalsely : Prop := fnCarrylessRingRow.holds Try.pinned (OpenSpec.ofChange fnCarrylessRingWrong)

/-- 'laws.FnAssociates': WHATEVER THE INPUT: true; the input reads as it did. -/
def fnAssociatesSpec : ChangeSpec := { name := "fnAssociates", fn := fun _ => fun
  | [d1, d2, d3] => { results := [.lit (.bool true)], args := [d1, d2, d3] }
  | _ => none }
def fnAssociatesRow : OpenClaim := { program := "ytdaebcaokoajjaa", sum := "0eed2118611739ef7e3c93906771d100df918dcf0d8938e99567ec3460910b2c", func := "loop.example/pub-g03026/laws.FnAssociates", spec := "fnAssociates", unfollowed := true, recurses := true, apart := false }
def FnAssociatesSaid : Prop := fnAssociatesRow.holds Try.pinned (OpenSpec.ofChange fnAssociatesSpec)

/-- ITS FALSE NEIGHBOUR: 'it returns false'. Refute it at one input. -/
def fnAssociatesWrong : ChangeSpec := { name := "fnAssociates", fn := fun _ => fun
  | [d1, d2, d3] => { results := [.lit (.bool false)], args := [d1, d2, d3] }
  | _ => none }
def FnAssociatesWrongFalsely : Prop := fnAssociatesRow.holds Try.pinned (OpenSpec.ofChange fnAssociatesWrong)

/-- 'laws.FnCommutes': WHATEVER THE INPUT: true; the input reads as it did. -/
def fnCommutesSpec : ChangeSpec := { name := "fnCommutes", fn := fun _ => fun
  | [d1, d2] => { results := [.lit (.bool true)], args := [d1, d2] }
  | _ => none }
def fnCommutesRow : OpenClaim := { program := "ytdaebcaokoajjaa", sum := "0eed2118611739ef7e3c93906771d100df918dcf0d8938e99567ec3460910b2c", func := "loop.example/pub-g03026/laws.FnCommutes", spec := "fnCommutes", unfollowed := true, recurses := true, apart := false }
def FnCommutesSaid : Prop := fnCommutesRow.holds Try.pinned (OpenSpec.ofChange fnCommutesSpec)

/-- ITS FALSE NEIGHBOUR: 'it returns false'. Refute it at one input. -/
def fnCommutesWrong : ChangeSpec := { name := "fnCommutes", fn := fun _ => fun
  | [d1, d2] => { results := [.lit (.bool false)], args := [d1, d2] }
  | _ => none }
def FnCommutesWrongFalsely : Prop := fnCommutesRow.holds Try.pinned (OpenSpec.ofChange fnCommutesWrong)

/-- 'laws.FnDistributes': WHATEVER THE INPUT: true; the input reads as it did. -/
def fnDistributesSpec : ChangeSpec := { name := "fnDistributes", fn := fun _ => fun
  | [d1, d2, d3] => { results := [.lit (.bool true)], args := [d1, d2, d3] }
  | _ => none }
def fnDistributesRow : OpenClaim := { program := "ytdaebcaokoajjaa", sum := "0eed2118611739ef7e3c93906771d100df918dcf0d8938e99567ec3460910b2c", func := "loop.example/pub-g03026/laws.FnDistributes", spec := "fnDistributes", unfollowed := true, recurses := true, apart := false }
def FnDistributesSaid : Prop := fnDistributesRow.holds Try.pinned (OpenSpec.ofChange fnDistributesSpec)

/-- ITS FALSE NEIGHBOUR: 'it returns false'. Refute it at one input. -/
def fnDistributesWrong : ChangeSpec := { name := "fnDistributes", fn := fun _ => fun
  | [d1, d2, d3] => { results := [.lit (.bool false)], args := [d1, d2, d3] }
  | _ => none }
def FnDistributesWrongFalsely : Prop := fnDistributesRow.holds Try.pinned (OpenSpec.ofChange fnDistributesWrong)

/-- 'laws.FnNoDivisors': WHATEVER THE INPUT: true; the input reads as it did. -/
def fnNoDivisorsSpec : ChangeSpec := { name := "fnNoDivisors", fn := fun _ => fun
  | [d1, d2] => { results := [.lit (.bool true)], args := [d1, d2] }
  | _ => none }
def fnNoDivisorsRow : OpenClaim := { program := "ytdaebcaokoajjaa", sum := "0eed2118611739ef7e3c93906771d100df918dcf0d8938e99567ec3460910b2c", func := "loop.example/pub-g03026/laws.FnNoDivisors", spec := "fnNoDivisors", unfollowed := true, recurses := true, apart := false }
def FnNoDivisorsSaid : Prop := fnNoDivisorsRow.holds Try.pinned (OpenSpec.ofChange fnNoDivisorsSpec)

/-- ITS FALSE NEIGHBOUR: 'it returns false'. Refute it at one input. -/
def fnNoDivisorsWrong : ChangeSpec := { name := "fnNoDivisors", fn := fun _ => fun
  | [d1, d2] => { results := [.lit (.bool false)], args := [d1, d2] }
  | _ => none }
def FnNoDivisorsWrongFalsely : Prop := fnNoDivisorsRow.holds Try.pinned (OpenSpec.ofChange fnNoDivisorsWrong)

/-- 'laws.FnOne': WHATEVER THE INPUT: true; the input reads as it did. -/
def fnOneSpec : ChangeSpec := { name := "fnOne", fn := fun _ => fun
  | [d] => { results := [.lit (.bool true)], args := [d] }
  | _ => none }
def fnOneRow : OpenClaim := { program := "ytdaebcaokoajjaa", sum := "0eed2118611739ef7e3c93906771d100df918dcf0d8938e99567ec3460910b2c", func := "loop.example/pub-g03026/laws.FnOne", spec := "fnOne", unfollowed := true, recurses := true, apart := false }
def FnOneSaid : Prop := fnOneRow.holds Try.pinned (OpenSpec.ofChange fnOneSpec)

/-- ITS FALSE NEIGHBOUR: 'it returns false'. Refute it at one input. -/
def fnOneWrong : ChangeSpec := { name := "fnOne", fn := fun _ => fun
  | [d] => { results := [.lit (.bool false)], args := [d] }
  | _ => none }
def FnOneWrongFalsely : Prop := fnOneRow.holds Try.pinned (OpenSpec.ofChange fnOneWrong)

/-- 'laws.FnProductIs': WHATEVER THE INPUT: true; the input reads as it did. -/
def fnProductIsSpec : ChangeSpec := { name := "fnProductIs", fn := fun _ => fun
  | [d1, d2] => { results := [.lit (.bool true)], args := [d1, d2] }
  | _ => none }
def fnProductIsRow : OpenClaim := { program := "ytdaebcaokoajjaa", sum := "0eed2118611739ef7e3c93906771d100df918dcf0d8938e99567ec3460910b2c", func := "loop.example/pub-g03026/laws.FnProductIs", spec := "fnProductIs", unfollowed := true, recurses := true, apart := false }
def FnProductIsSaid : Prop := fnProductIsRow.holds Try.pinned (OpenSpec.ofChange fnProductIsSpec)

/-- ITS FALSE NEIGHBOUR: 'it returns false'. Refute it at one input. -/
def fnProductIsWrong : ChangeSpec := { name := "fnProductIs", fn := fun _ => fun
  | [d1, d2] => { results := [.lit (.bool false)], args := [d1, d2] }
  | _ => none }
def FnProductIsWrongFalsely : Prop := fnProductIsRow.holds Try.pinned (OpenSpec.ofChange fnProductIsWrong)

/-- 'laws.FnSquares': WHATEVER THE INPUT: true; the input reads as it did. -/
def fnSquaresSpec : ChangeSpec := { name := "fnSquares", fn := fun _ => fun
  | [d1, d2] => { results := [.lit (.bool true)], args := [d1, d2] }
  | _ => none }
def fnSquaresRow : OpenClaim := { program := "ytdaebcaokoajjaa", sum := "0eed2118611739ef7e3c93906771d100df918dcf0d8938e99567ec3460910b2c", func := "loop.example/pub-g03026/laws.FnSquares", spec := "fnSquares", unfollowed := true, recurses := true, apart := false }
def FnSquaresSaid : Prop := fnSquaresRow.holds Try.pinned (OpenSpec.ofChange fnSquaresSpec)

/-- ITS FALSE NEIGHBOUR: 'it returns false'. Refute it at one input. -/
def fnSquaresWrong : ChangeSpec := { name := "fnSquares", fn := fun _ => fun
  | [d1, d2] => { results := [.lit (.bool false)], args := [d1, d2] }
  | _ => none }
def FnSquaresWrongFalsely : Prop := fnSquaresRow.holds Try.pinned (OpenSpec.ofChange fnSquaresWrong)

/-- 'laws.FnFilledUp': WHATEVER THE INPUT: true; the input reads as it did. -/
def fnFilledUpSpec : ChangeSpec := { name := "fnFilledUp", fn := fun _ => fun
  | [d1, d2, d3] => { results := [.lit (.bool true)], args := [d1, d2, d3] }
  | _ => none }
def fnFilledUpRow : OpenClaim := { program := "ytdaebcaokoajjaa", sum := "0eed2118611739ef7e3c93906771d100df918dcf0d8938e99567ec3460910b2c", func := "loop.example/pub-g03026/laws.FnFilledUp", spec := "fnFilledUp", unfollowed := true, recurses := true, apart := false }
def FnFilledUpSaid : Prop := fnFilledUpRow.holds Try.pinned (OpenSpec.ofChange fnFilledUpSpec)

/-- ITS FALSE NEIGHBOUR: 'it returns false'. Refute it at one input. -/
def fnFilledUpWrong : ChangeSpec := { name := "fnFilledUp", fn := fun _ => fun
  | [d1, d2, d3] => { results := [.lit (.bool false)], args := [d1, d2, d3] }
  | _ => none }
def FnFilledUpWrongFalsely : Prop := fnFilledUpRow.holds Try.pinned (OpenSpec.ofChange fnFilledUpWrong)

/-- 'laws.FnHashIs': WHATEVER THE INPUT: true; the input reads as it did. -/
def fnHashIsSpec : ChangeSpec := { name := "fnHashIs", fn := fun _ => fun
  | [d1, d2] => { results := [.lit (.bool true)], args := [d1, d2] }
  | _ => none }
def fnHashIsRow : OpenClaim := { program := "ytdaebcaokoajjaa", sum := "0eed2118611739ef7e3c93906771d100df918dcf0d8938e99567ec3460910b2c", func := "loop.example/pub-g03026/laws.FnHashIs", spec := "fnHashIs", unfollowed := true, recurses := true, apart := false }
def FnHashIsSaid : Prop := fnHashIsRow.holds Try.pinned (OpenSpec.ofChange fnHashIsSpec)

/-- ITS FALSE NEIGHBOUR: 'it returns false'. Refute it at one input. -/
def fnHashIsWrong : ChangeSpec := { name := "fnHashIs", fn := fun _ => fun
  | [d1, d2] => { results := [.lit (.bool false)], args := [d1, d2] }
  | _ => none }
def FnHashIsWrongFalsely : Prop := fnHashIsRow.holds Try.pinned (OpenSpec.ofChange fnHashIsWrong)

/-- 'laws.FnHashNothing': WHATEVER THE INPUT: true; the input reads as it did. -/
def fnHashNothingSpec : ChangeSpec := { name := "fnHashNothing", fn := fun _ => fun
  | [d1, d2] => { results := [.lit (.bool true)], args := [d1, d2] }
  | _ => none }
def fnHashNothingRow : OpenClaim := { program := "ytdaebcaokoajjaa", sum := "0eed2118611739ef7e3c93906771d100df918dcf0d8938e99567ec3460910b2c", func := "loop.example/pub-g03026/laws.FnHashNothing", spec := "fnHashNothing", unfollowed := true, recurses := true, apart := false }
def FnHashNothingSaid : Prop := fnHashNothingRow.holds Try.pinned (OpenSpec.ofChange fnHashNothingSpec)

/-- ITS FALSE NEIGHBOUR: 'it returns false'. Refute it at one input. -/
def fnHashNothingWrong : ChangeSpec := { name := "fnHashNothing", fn := fun _ => fun
  | [d1, d2] => { results := [.lit (.bool false)], args := [d1, d2] }
  | _ => none }
def FnHashNothingWrongFalsely : Prop := fnHashNothingRow.holds Try.pinned (OpenSpec.ofChange fnHashNothingWrong)

/-- 'laws.FnHashSum': WHATEVER THE INPUT: true; the input reads as it did. -/
def fnHashSumSpec : ChangeSpec := { name := "fnHashSum", fn := fun _ => fun
  | [d1, d2, d3] => { results := [.lit (.bool true)], args := [d1, d2, d3] }
  | _ => none }
def fnHashSumRow : OpenClaim := { program := "ytdaebcaokoajjaa", sum := "0eed2118611739ef7e3c93906771d100df918dcf0d8938e99567ec3460910b2c", func := "loop.example/pub-g03026/laws.FnHashSum", spec := "fnHashSum", unfollowed := true, recurses := true, apart := false }
def FnHashSumSaid : Prop := fnHashSumRow.holds Try.pinned (OpenSpec.ofChange fnHashSumSpec)

/-- ITS FALSE NEIGHBOUR: 'it returns false'. Refute it at one input. -/
def fnHashSumWrong : ChangeSpec := { name := "fnHashSum", fn := fun _ => fun
  | [d1, d2, d3] => { results := [.lit (.bool false)], args := [d1, d2, d3] }
  | _ => none }
def FnHashSumWrongFalsely : Prop := fnHashSumRow.holds Try.pinned (OpenSpec.ofChange fnHashSumWrong)

/-- 'laws.FnJoined': WHATEVER THE INPUT: true; the input reads as it did. -/
def fnJoinedSpec : ChangeSpec := { name := "fnJoined", fn := fun _ => fun
  | [d1, d2, d3] => { results := [.lit (.bool true)], args := [d1, d2, d3] }
  | _ => none }
def fnJoinedRow : OpenClaim := { program := "ytdaebcaokoajjaa", sum := "0eed2118611739ef7e3c93906771d100df918dcf0d8938e99567ec3460910b2c", func := "loop.example/pub-g03026/laws.FnJoined", spec := "fnJoined", unfollowed := true, recurses := true, apart := false }
def FnJoinedSaid : Prop := fnJoinedRow.holds Try.pinned (OpenSpec.ofChange fnJoinedSpec)

/-- ITS FALSE NEIGHBOUR: 'it returns false'. Refute it at one input. -/
def fnJoinedWrong : ChangeSpec := { name := "fnJoined", fn := fun _ => fun
  | [d1, d2, d3] => { results := [.lit (.bool false)], args := [d1, d2, d3] }
  | _ => none }
def FnJoinedWrongFalsely : Prop := fnJoinedRow.holds Try.pinned (OpenSpec.ofChange fnJoinedWrong)

/-- 'laws.FnUpdateIs': WHATEVER THE INPUT: true; the input reads as it did. -/
def fnUpdateIsSpec : ChangeSpec := { name := "fnUpdateIs", fn := fun _ => fun
  | [d1, d2, d3] => { results := [.lit (.bool true)], args := [d1, d2, d3] }
  | _ => none }
def fnUpdateIsRow : OpenClaim := { program := "ytdaebcaokoajjaa", sum := "0eed2118611739ef7e3c93906771d100df918dcf0d8938e99567ec3460910b2c", func := "loop.example/pub-g03026/laws.FnUpdateIs", spec := "fnUpdateIs", unfollowed := true, recurses := true, apart := false }
def FnUpdateIsSaid : Prop := fnUpdateIsRow.holds Try.pinned (OpenSpec.ofChange fnUpdateIsSpec)

/-- ITS FALSE NEIGHBOUR: 'it returns false'. Refute it at one input. -/
def fnUpdateIsWrong : ChangeSpec := { name := "fnUpdateIs", fn := fun _ => fun
  | [d1, d2, d3] => { results := [.lit (.bool false)], args := [d1, d2, d3] }
  | _ => none }
def FnUpdateIsWrongFalsely : Prop := fnUpdateIsRow.holds Try.pinned (OpenSpec.ofChange fnUpdateIsWrong)

/-- 'laws.FnHashBlock': WHATEVER THE INPUT: true; the input reads as it did. -/
def fnHashBlockSpec : ChangeSpec := { name := "fnHashBlock", fn := fun _ => fun
  | [d1, d2] => { results := [.lit (.bool true)], args := [d1, d2] }
  | _ => none }
def fnHashBlockRow : OpenClaim := { program := "ytdaebcaokoajjaa", sum := "0eed2118611739ef7e3c93906771d100df918dcf0d8938e99567ec3460910b2c", func := "loop.example/pub-g03026/laws.FnHashBlock", spec := "fnHashBlock", unfollowed := true, recurses := true, apart := false }
def FnHashBlockSaid : Prop := fnHashBlockRow.holds Try.pinned (OpenSpec.ofChange fnHashBlockSpec)

/-- ITS FALSE NEIGHBOUR: 'it returns false'. Refute it at one input. -/
def fnHashBlockWrong : ChangeSpec := { name := "fnHashBlock", fn := fun _ => fun
  | [d1, d2] => { results := [.lit (.bool false)], args := [d1, d2] }
  | _ => none }
def FnHashBlockWrongFalsely : Prop := fnHashBlockRow.holds Try.pinned (OpenSpec.ofChange fnHashBlockWrong)

/-- 'laws.FnHorner': WHATEVER THE INPUT: true; the input reads as it did. -/
def fnHornerSpec : ChangeSpec := { name := "fnHorner", fn := fun _ => fun
  | [d1, d2, d3] => { results := [.lit (.bool true)], args := [d1, d2, d3] }
  | _ => none }
def fnHornerRow : OpenClaim := { program := "ytdaebcaokoajjaa", sum := "0eed2118611739ef7e3c93906771d100df918dcf0d8938e99567ec3460910b2c", func := "loop.example/pub-g03026/laws.FnHorner", spec := "fnHorner", unfollowed := true, recurses := true, apart := false }
def FnHornerSaid : Prop := fnHornerRow.holds Try.pinned (OpenSpec.ofChange fnHornerSpec)

/-- ITS FALSE NEIGHBOUR: 'it returns false'. Refute it at one input. -/
def fnHornerWrong : ChangeSpec := { name := "fnHorner", fn := fun _ => fun
  | [d1, d2, d3] => { results := [.lit (.bool false)], args := [d1, d2, d3] }
  | _ => none }
def FnHornerWrongFalsely : Prop := fnHornerRow.holds Try.pinned (OpenSpec.ofChange fnHornerWrong)

/-- 'laws.FnFirstCounterIs': WHATEVER THE INPUT: true; the input reads as it did. -/
def fnFirstCounterIsSpec : ChangeSpec := { name := "fnFirstCounterIs", fn := fun _ => fun
  | [d1, d2] => { results := [.lit (.bool true)], args := [d1, d2] }
  | _ => none }
def fnFirstCounterIsRow : OpenClaim := { program := "ytdaebcaokoajjaa", sum := "0eed2118611739ef7e3c93906771d100df918dcf0d8938e99567ec3460910b2c", func := "loop.example/pub-g03026/laws.FnFirstCounterIs", spec := "fnFirstCounterIs", unfollowed := true, recurses := true, apart := false }
def FnFirstCounterIsSaid : Prop := fnFirstCounterIsRow.holds Try.pinned (OpenSpec.ofChange fnFirstCounterIsSpec)

/-- ITS FALSE NEIGHBOUR: 'it returns false'. Refute it at one input. -/
def fnFirstCounterIsWrong : ChangeSpec := { name := "fnFirstCounterIs", fn := fun _ => fun
  | [d1, d2] => { results := [.lit (.bool false)], args := [d1, d2] }
  | _ => none }
def FnFirstCounterIsWrongFalsely : Prop := fnFirstCounterIsRow.holds Try.pinned (OpenSpec.ofChange fnFirstCounterIsWrong)

/-- 'laws.FnAuthIs': WHATEVER THE INPUT: true; the input reads as it did. -/
def fnAuthIsSpec : ChangeSpec := { name := "fnAuthIs", fn := fun _ => fun
  | [d1, d2, d3, d4] => { results := [.lit (.bool true)], args := [d1, d2, d3, d4] }
  | _ => none }
def fnAuthIsRow : OpenClaim := { program := "ytdaebcaokoajjaa", sum := "0eed2118611739ef7e3c93906771d100df918dcf0d8938e99567ec3460910b2c", func := "loop.example/pub-g03026/laws.FnAuthIs", spec := "fnAuthIs", unfollowed := true, recurses := true, apart := false }
def FnAuthIsSaid : Prop := fnAuthIsRow.holds Try.pinned (OpenSpec.ofChange fnAuthIsSpec)

/-- ITS FALSE NEIGHBOUR: 'it returns false'. Refute it at one input. -/
def fnAuthIsWrong : ChangeSpec := { name := "fnAuthIs", fn := fun _ => fun
  | [d1, d2, d3, d4] => { results := [.lit (.bool false)], args := [d1, d2, d3, d4] }
  | _ => none }
def FnAuthIsWrongFalsely : Prop := fnAuthIsRow.holds Try.pinned (OpenSpec.ofChange fnAuthIsWrong)

/-- 'laws.FnAuthMask': WHATEVER THE INPUT: true; the input reads as it did. -/
def fnAuthMaskSpec : ChangeSpec := { name := "fnAuthMask", fn := fun _ => fun
  | [d1, d2, d3, d4] => { results := [.lit (.bool true)], args := [d1, d2, d3, d4] }
  | _ => none }
def fnAuthMaskRow : OpenClaim := { program := "ytdaebcaokoajjaa", sum := "0eed2118611739ef7e3c93906771d100df918dcf0d8938e99567ec3460910b2c", func := "loop.example/pub-g03026/laws.FnAuthMask", spec := "fnAuthMask", unfollowed := true, recurses := true, apart := false }
def FnAuthMaskSaid : Prop := fnAuthMaskRow.holds Try.pinned (OpenSpec.ofChange fnAuthMaskSpec)

/-- ITS FALSE NEIGHBOUR: 'it returns false'. Refute it at one input. -/
def fnAuthMaskWrong : ChangeSpec := { name := "fnAuthMask", fn := fun _ => fun
  | [d1, d2, d3, d4] => { results := [.lit (.bool false)], args := [d1, d2, d3, d4] }
  | _ => none }
def FnAuthMaskWrongFalsely : Prop := fnAuthMaskRow.holds Try.pinned (OpenSpec.ofChange fnAuthMaskWrong)

/- THE SECOND FORM. 'bulk': how many values and letters a reading holds, each counted each time it is reached (what is shared counts as often as it is met; a slice's spare places count too). A statement '..UptoSaid' is the law's where the arguments, and the package variables that the reading takes, are together of bulk at most 1048576: NARROWER than '..Said'. Prove '..Said' where nothing that the law and all that it calls make is longer than what came in: it says more and counts as full. Else prove '..UptoSaid'. A law counts once. -/
mutual
def uptoBulk {H : Type} : DataW H → Nat
  | .lit (.string bytes) => bytes.length + 1
  | .lit _ => 1
  | .nil => 1
  | .ptr d => uptoBulk d + 1
  | .slice elems spare => uptoBulkAll elems + uptoBulkAll spare + 1
  | .agg parts => uptoBulkAll parts + 1
  | .iface _ d => uptoBulk d + 1
  | .map entries => uptoBulkEntries entries + 1
  | .held _ => 1
def uptoBulkAll {H : Type} : List (DataW H) → Nat
  | [] => 0
  | d :: r => uptoBulk d + uptoBulkAll r
def uptoBulkEntries {H : Type} : List (Lit × DataW H) → Nat
  | [] => 0
  | x :: r => uptoBulkEntry x + uptoBulkEntries r
def uptoBulkEntry {H : Type} : Lit × DataW H → Nat
  | (.string bytes, d) => bytes.length + uptoBulk d + 1
  | (_, d) => uptoBulk d + 1
 end
def uptoSmall : (H : Type) → List (DataW H) → Bool := fun _ ds => decide (uptoBulkAll ds ≤ 1048576)
def OpenSpec.upto (s : _root_.Go.ChangeSpec) : _root_.Go.OpenSpec := { _root_.Go.OpenSpec.ofChange s with cond := some uptoSmall }

/-- 'laws.FnCarrylessIs', WHERE WHAT IT READS IS OF BULK AT MOST 1048576: true; the input reads as it did. -/
def fnCarrylessIsUptoRow : OpenClaim := { program := "ytdaebcaokoajjaa", sum := "0eed2118611739ef7e3c93906771d100df918dcf0d8938e99567ec3460910b2c", func := "loop.example/pub-g03026/laws.FnCarrylessIs", spec := "fnCarrylessIs", apart := false, narrowed := true }
def FnCarrylessIsUptoSaid : Prop := fnCarrylessIsUptoRow.holds Try.pinned (OpenSpec.upto fnCarrylessIsSpec)

/-- 'laws.FnCarrylessRing', WHERE WHAT IT READS IS OF BULK AT MOST 1048576: true; the input reads as it did. -/
def fnCarrylessRingUptoRow : OpenClaim := { program := "ytdaebcaokoajjaa", sum := "0eed2118611739ef7e3c93906771d100df918dcf0d8938e99567ec3460910b2c", func := "loop.example/pub-g03026/laws.FnCarrylessRing", spec := "fnCarrylessRing", apart := false, narrowed := true }
def FnCarrylessRingUptoSaid : Prop := fnCarrylessRingUptoRow.holds Try.pinned (OpenSpec.upto fnCarrylessRingSpec)

/-- 'laws.FnAssociates', WHERE WHAT IT READS IS OF BULK AT MOST 1048576: true; the input reads as it did. -/
def fnAssociatesUptoRow : OpenClaim := { program := "ytdaebcaokoajjaa", sum := "0eed2118611739ef7e3c93906771d100df918dcf0d8938e99567ec3460910b2c", func := "loop.example/pub-g03026/laws.FnAssociates", spec := "fnAssociates", unfollowed := true, recurses := true, apart := false, narrowed := true }
def FnAssociatesUptoSaid : Prop := fnAssociatesUptoRow.holds Try.pinned (OpenSpec.upto fnAssociatesSpec)

/-- 'laws.FnCommutes', WHERE WHAT IT READS IS OF BULK AT MOST 1048576: true; the input reads as it did. -/
def fnCommutesUptoRow : OpenClaim := { program := "ytdaebcaokoajjaa", sum := "0eed2118611739ef7e3c93906771d100df918dcf0d8938e99567ec3460910b2c", func := "loop.example/pub-g03026/laws.FnCommutes", spec := "fnCommutes", unfollowed := true, recurses := true, apart := false, narrowed := true }
def FnCommutesUptoSaid : Prop := fnCommutesUptoRow.holds Try.pinned (OpenSpec.upto fnCommutesSpec)

/-- 'laws.FnDistributes', WHERE WHAT IT READS IS OF BULK AT MOST 1048576: true; the input reads as it did. -/
def fnDistributesUptoRow : OpenClaim := { program := "ytdaebcaokoajjaa", sum := "0eed2118611739ef7e3c93906771d100df918dcf0d8938e99567ec3460910b2c", func := "loop.example/pub-g03026/laws.FnDistributes", spec := "fnDistributes", unfollowed := true, recurses := true, apart := false, narrowed := true }
def FnDistributesUptoSaid : Prop := fnDistributesUptoRow.holds Try.pinned (OpenSpec.upto fnDistributesSpec)

/-- 'laws.FnNoDivisors', WHERE WHAT IT READS IS OF BULK AT MOST 1048576: true; the input reads as it did. -/
def fnNoDivisorsUptoRow : OpenClaim := { program := "ytdaebcaokoajjaa", sum := "0eed2118611739ef7e3c93906771d100df918dcf0d8938e99567ec3460910b2c", func := "loop.example/pub-g03026/laws.FnNoDivisors", spec := "fnNoDivisors", unfollowed := true, recurses := true, apart := false, narrowed := true }
def FnNoDivisorsUptoSaid : Prop := fnNoDivisorsUptoRow.holds Try.pinned (OpenSpec.upto fnNoDivisorsSpec)

/-- 'laws.FnOne', WHERE WHAT IT READS IS OF BULK AT MOST 1048576: true; the input reads as it did. -/
def fnOneUptoRow : OpenClaim := { program := "ytdaebcaokoajjaa", sum := "0eed2118611739ef7e3c93906771d100df918dcf0d8938e99567ec3460910b2c", func := "loop.example/pub-g03026/laws.FnOne", spec := "fnOne", unfollowed := true, recurses := true, apart := false, narrowed := true }
def FnOneUptoSaid : Prop := fnOneUptoRow.holds Try.pinned (OpenSpec.upto fnOneSpec)

/-- 'laws.FnProductIs', WHERE WHAT IT READS IS OF BULK AT MOST 1048576: true; the input reads as it did. -/
def fnProductIsUptoRow : OpenClaim := { program := "ytdaebcaokoajjaa", sum := "0eed2118611739ef7e3c93906771d100df918dcf0d8938e99567ec3460910b2c", func := "loop.example/pub-g03026/laws.FnProductIs", spec := "fnProductIs", unfollowed := true, recurses := true, apart := false, narrowed := true }
def FnProductIsUptoSaid : Prop := fnProductIsUptoRow.holds Try.pinned (OpenSpec.upto fnProductIsSpec)

/-- 'laws.FnSquares', WHERE WHAT IT READS IS OF BULK AT MOST 1048576: true; the input reads as it did. -/
def fnSquaresUptoRow : OpenClaim := { program := "ytdaebcaokoajjaa", sum := "0eed2118611739ef7e3c93906771d100df918dcf0d8938e99567ec3460910b2c", func := "loop.example/pub-g03026/laws.FnSquares", spec := "fnSquares", unfollowed := true, recurses := true, apart := false, narrowed := true }
def FnSquaresUptoSaid : Prop := fnSquaresUptoRow.holds Try.pinned (OpenSpec.upto fnSquaresSpec)

/-- 'laws.FnFilledUp', WHERE WHAT IT READS IS OF BULK AT MOST 1048576: true; the input reads as it did. -/
def fnFilledUpUptoRow : OpenClaim := { program := "ytdaebcaokoajjaa", sum := "0eed2118611739ef7e3c93906771d100df918dcf0d8938e99567ec3460910b2c", func := "loop.example/pub-g03026/laws.FnFilledUp", spec := "fnFilledUp", unfollowed := true, recurses := true, apart := false, narrowed := true }
def FnFilledUpUptoSaid : Prop := fnFilledUpUptoRow.holds Try.pinned (OpenSpec.upto fnFilledUpSpec)

/-- 'laws.FnHashIs', WHERE WHAT IT READS IS OF BULK AT MOST 1048576: true; the input reads as it did. -/
def fnHashIsUptoRow : OpenClaim := { program := "ytdaebcaokoajjaa", sum := "0eed2118611739ef7e3c93906771d100df918dcf0d8938e99567ec3460910b2c", func := "loop.example/pub-g03026/laws.FnHashIs", spec := "fnHashIs", unfollowed := true, recurses := true, apart := false, narrowed := true }
def FnHashIsUptoSaid : Prop := fnHashIsUptoRow.holds Try.pinned (OpenSpec.upto fnHashIsSpec)

/-- 'laws.FnHashNothing', WHERE WHAT IT READS IS OF BULK AT MOST 1048576: true; the input reads as it did. -/
def fnHashNothingUptoRow : OpenClaim := { program := "ytdaebcaokoajjaa", sum := "0eed2118611739ef7e3c93906771d100df918dcf0d8938e99567ec3460910b2c", func := "loop.example/pub-g03026/laws.FnHashNothing", spec := "fnHashNothing", unfollowed := true, recurses := true, apart := false, narrowed := true }
def FnHashNothingUptoSaid : Prop := fnHashNothingUptoRow.holds Try.pinned (OpenSpec.upto fnHashNothingSpec)

/-- 'laws.FnHashSum', WHERE WHAT IT READS IS OF BULK AT MOST 1048576: true; the input reads as it did. -/
def fnHashSumUptoRow : OpenClaim := { program := "ytdaebcaokoajjaa", sum := "0eed2118611739ef7e3c93906771d100df918dcf0d8938e99567ec3460910b2c", func := "loop.example/pub-g03026/laws.FnHashSum", spec := "fnHashSum", unfollowed := true, recurses := true, apart := false, narrowed := true }
def FnHashSumUptoSaid : Prop := fnHashSumUptoRow.holds Try.pinned (OpenSpec.upto fnHashSumSpec)

/-- 'laws.FnJoined', WHERE WHAT IT READS IS OF BULK AT MOST 1048576: true; the input reads as it did. -/
def fnJoinedUptoRow : OpenClaim := { program := "ytdaebcaokoajjaa", sum := "0eed2118611739ef7e3c93906771d100df918dcf0d8938e99567ec3460910b2c", func := "loop.example/pub-g03026/laws.FnJoined", spec := "fnJoined", unfollowed := true, recurses := true, apart := false, narrowed := true }
def FnJoinedUptoSaid : Prop := fnJoinedUptoRow.holds Try.pinned (OpenSpec.upto fnJoinedSpec)

/-- 'laws.FnUpdateIs', WHERE WHAT IT READS IS OF BULK AT MOST 1048576: true; the input reads as it did. -/
def fnUpdateIsUptoRow : OpenClaim := { program := "ytdaebcaokoajjaa", sum := "0eed2118611739ef7e3c93906771d100df918dcf0d8938e99567ec3460910b2c", func := "loop.example/pub-g03026/laws.FnUpdateIs", spec := "fnUpdateIs", unfollowed := true, recurses := true, apart := false, narrowed := true }
def FnUpdateIsUptoSaid : Prop := fnUpdateIsUptoRow.holds Try.pinned (OpenSpec.upto fnUpdateIsSpec)

/-- 'laws.FnHashBlock', WHERE WHAT IT READS IS OF BULK AT MOST 1048576: true; the input reads as it did. -/
def fnHashBlockUptoRow : OpenClaim := { program := "ytdaebcaokoajjaa", sum := "0eed2118611739ef7e3c93906771d100df918dcf0d8938e99567ec3460910b2c", func := "loop.example/pub-g03026/laws.FnHashBlock", spec := "fnHashBlock", unfollowed := true, recurses := true, apart := false, narrowed := true }
def FnHashBlockUptoSaid : Prop := fnHashBlockUptoRow.holds Try.pinned (OpenSpec.upto fnHashBlockSpec)

/-- 'laws.FnHorner', WHERE WHAT IT READS IS OF BULK AT MOST 1048576: true; the input reads as it did. -/
def fnHornerUptoRow : OpenClaim := { program := "ytdaebcaokoajjaa", sum := "0eed2118611739ef7e3c93906771d100df918dcf0d8938e99567ec3460910b2c", func := "loop.example/pub-g03026/laws.FnHorner", spec := "fnHorner", unfollowed := true, recurses := true, apart := false, narrowed := true }
def FnHornerUptoSaid : Prop := fnHornerUptoRow.holds Try.pinned (OpenSpec.upto fnHornerSpec)

/-- 'laws.FnFirstCounterIs', WHERE WHAT IT READS IS OF BULK AT MOST 1048576: true; the input reads as it did. -/
def fnFirstCounterIsUptoRow : OpenClaim := { program := "ytdaebcaokoajjaa", sum := "0eed2118611739ef7e3c93906771d100df918dcf0d8938e99567ec3460910b2c", func := "loop.example/pub-g03026/laws.FnFirstCounterIs", spec := "fnFirstCounterIs", unfollowed := true, recurses := true, apart := false, narrowed := true }
def FnFirstCounterIsUptoSaid : Prop := fnFirstCounterIsUptoRow.holds Try.pinned (OpenSpec.upto fnFirstCounterIsSpec)

/-- 'laws.FnAuthIs', WHERE WHAT IT READS IS OF BULK AT MOST 1048576: true; the input reads as it did. -/
def fnAuthIsUptoRow : OpenClaim := { program := "ytdaebcaokoajjaa", sum := "0eed2118611739ef7e3c93906771d100df918dcf0d8938e99567ec3460910b2c", func := "loop.example/pub-g03026/laws.FnAuthIs", spec := "fnAuthIs", unfollowed := true, recurses := true, apart := false, narrowed := true }
def FnAuthIsUptoSaid : Prop := fnAuthIsUptoRow.holds Try.pinned (OpenSpec.upto fnAuthIsSpec)

/-- 'laws.FnAuthMask', WHERE WHAT IT READS IS OF BULK AT MOST 1048576: true; the input reads as it did. -/
def fnAuthMaskUptoRow : OpenClaim := { program := "ytdaebcaokoajjaa", sum := "0eed2118611739ef7e3c93906771d100df918dcf0d8938e99567ec3460910b2c", func := "loop.example/pub-g03026/laws.FnAuthMask", spec := "fnAuthMask", unfollowed := true, recurses := true, apart := false, narrowed := true }
def FnAuthMaskUptoSaid : Prop := fnAuthMaskUptoRow.holds Try.pinned (OpenSpec.upto fnAuthMaskSpec)

end Rows
end Go.Proofs.Ytdaebcaokoajjaa
