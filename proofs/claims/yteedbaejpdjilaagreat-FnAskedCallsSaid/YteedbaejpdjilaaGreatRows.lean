/-
  NARROWER THAN 'FOR EVERY INPUT', by the rows' own cells (each row's printed sentence says how): FnAskedCalls: loops · FnAskedReached: loops · FnNoReturn: loops · FnCaseKinds: loops · FnNoReturnGraph: loops · FnClauseKinds: loops · FnConditionLast: loops · FnEntry: loops · FnFirst: loops · FnForKinds: loops · FnIfKinds: loops · FnIndex: loops · FnKinds: loops · FnLive: loops · FnLiveEnd: loops · FnLiveLeaf: loops · FnNothingElse: loops · FnPostKind: loops · FnRangeKinds: loops · FnReturnEnds: loops · FnSequence: loops · FnStands: loops · FnStopEnds: loops · FnSuccs: loops · FnTwoWays: loops · FnUnreachable: loops.
  DERIVED. THE GIVEN ROWS OF THIS SEAT. 26 by the template 'for every input the law returns true; each argument reads behind the call as it read before'; 0 by the template 'total and deterministic' (their statements: YteedbaejpdjilaaGreatTotals.lean).
  GIVEN WITH THE SEED: the statements are not yours to turn. If you find one false, say at which input.
  Laid BY PROGRAM, IN A SANDBOX (cutbox-rows.mjs): the forced cells as the released guide's own fill.sh prints them over the translation 23c9bde00e830396… (all of the seat's roots in one cut). By AI agents, Wed Nov 11 2026. No macro, syntax, notation, axiom, sorry.
-/
import Derived.Test.YteedbaejpdjilaaGreatChecked
import GoSem.Claim
import GoSem.ClaimJoined
import GoSem.ClaimMapViews
import Derived.JoinedTies
import Derived.KernelRfl
namespace Go.Proofs.YteedbaejpdjilaaGreat
/- THE CELL 'sum', in the pinned program and in every row, IS THE sha256 OF THE DUMP (.gsa) THAT YteedbaejpdjilaaGreatProg.lean LOADS. Nothing in Lean hashes anything: it is a label: what it is worth is what the hold of that sum in a sandbox is worth. -/
noncomputable def Tryz.pinned : Pinned := { name := "yteedbaejpdjilaagreat", sum := "23c9bde00e830396a01d7cdb165240ecd891a23f968d1c19df5000b29e555f87", checked := Tryz.checked }
namespace Rows
def none {H : Type} : Left H := { results := [], args := [] }

/-- 'laws.FnAskedCalls': WHATEVER THE INPUT: true; the input reads as it did. -/
def fnAskedCallsSpec : ChangeSpec := { name := "fnAskedCalls", fn := fun _ => fun
  | [d] => { results := [.lit (.bool true)], args := [d] }
  | _ => none }
def fnAskedCallsRow : OpenClaim := { program := "yteedbaejpdjilaagreat", sum := "23c9bde00e830396a01d7cdb165240ecd891a23f968d1c19df5000b29e555f87", func := "cfg/laws.FnAskedCalls", spec := "fnAskedCalls", unfollowed := true, recurses := true, loops := true, apart := false }
def FnAskedCallsSaid : Prop := fnAskedCallsRow.holds Tryz.pinned (OpenSpec.ofChange fnAskedCallsSpec)

/-- ITS FALSE NEIGHBOUR: 'it returns false'. Refute it at one input. -/
def fnAskedCallsWrong : ChangeSpec := { name := "fnAskedCalls", fn := fun _ => fun
  | [d] => { results := [.lit (.bool false)], args := [d] }
  | _ => none }
def FnAskedCallsWrongFalsely : Prop := fnAskedCallsRow.holds Tryz.pinned (OpenSpec.ofChange fnAskedCallsWrong)

/-- 'laws.FnAskedReached': WHATEVER THE INPUT: true; the input reads as it did. -/
def fnAskedReachedSpec : ChangeSpec := { name := "fnAskedReached", fn := fun _ => fun
  | [d] => { results := [.lit (.bool true)], args := [d] }
  | _ => none }
def fnAskedReachedRow : OpenClaim := { program := "yteedbaejpdjilaagreat", sum := "23c9bde00e830396a01d7cdb165240ecd891a23f968d1c19df5000b29e555f87", func := "cfg/laws.FnAskedReached", spec := "fnAskedReached", unfollowed := true, recurses := true, loops := true, apart := false }
def FnAskedReachedSaid : Prop := fnAskedReachedRow.holds Tryz.pinned (OpenSpec.ofChange fnAskedReachedSpec)

/-- ITS FALSE NEIGHBOUR: 'it returns false'. Refute it at one input. -/
def fnAskedReachedWrong : ChangeSpec := { name := "fnAskedReached", fn := fun _ => fun
  | [d] => { results := [.lit (.bool false)], args := [d] }
  | _ => none }
def FnAskedReachedWrongFalsely : Prop := fnAskedReachedRow.holds Tryz.pinned (OpenSpec.ofChange fnAskedReachedWrong)

/-- 'laws.FnNoReturn': WHATEVER THE INPUT: true; the input reads as it did. -/
def fnNoReturnSpec : ChangeSpec := { name := "fnNoReturn", fn := fun _ => fun
  | [d] => { results := [.lit (.bool true)], args := [d] }
  | _ => none }
def fnNoReturnRow : OpenClaim := { program := "yteedbaejpdjilaagreat", sum := "23c9bde00e830396a01d7cdb165240ecd891a23f968d1c19df5000b29e555f87", func := "cfg/laws.FnNoReturn", spec := "fnNoReturn", unfollowed := true, recurses := true, loops := true, apart := false }
def FnNoReturnSaid : Prop := fnNoReturnRow.holds Tryz.pinned (OpenSpec.ofChange fnNoReturnSpec)

/-- ITS FALSE NEIGHBOUR: 'it returns false'. Refute it at one input. -/
def fnNoReturnWrong : ChangeSpec := { name := "fnNoReturn", fn := fun _ => fun
  | [d] => { results := [.lit (.bool false)], args := [d] }
  | _ => none }
def FnNoReturnWrongFalsely : Prop := fnNoReturnRow.holds Tryz.pinned (OpenSpec.ofChange fnNoReturnWrong)

/-- 'laws.FnCaseKinds': WHATEVER THE INPUT: true; the input reads as it did. -/
def fnCaseKindsSpec : ChangeSpec := { name := "fnCaseKinds", fn := fun _ => fun
  | [d1, d2] => { results := [.lit (.bool true)], args := [d1, d2] }
  | _ => none }
def fnCaseKindsRow : OpenClaim := { program := "yteedbaejpdjilaagreat", sum := "23c9bde00e830396a01d7cdb165240ecd891a23f968d1c19df5000b29e555f87", func := "cfg/laws.FnCaseKinds", spec := "fnCaseKinds", unfollowed := true, recurses := true, loops := true, apart := false }
def FnCaseKindsSaid : Prop := fnCaseKindsRow.holds Tryz.pinned (OpenSpec.ofChange fnCaseKindsSpec)

/-- ITS FALSE NEIGHBOUR: 'it returns false'. Refute it at one input. -/
def fnCaseKindsWrong : ChangeSpec := { name := "fnCaseKinds", fn := fun _ => fun
  | [d1, d2] => { results := [.lit (.bool false)], args := [d1, d2] }
  | _ => none }
def FnCaseKindsWrongFalsely : Prop := fnCaseKindsRow.holds Tryz.pinned (OpenSpec.ofChange fnCaseKindsWrong)

/-- 'laws.FnNoReturnGraph': WHATEVER THE INPUT: true; the input reads as it did. -/
def fnNoReturnGraphSpec : ChangeSpec := { name := "fnNoReturnGraph", fn := fun _ => fun
  | [d] => { results := [.lit (.bool true)], args := [d] }
  | _ => none }
def fnNoReturnGraphRow : OpenClaim := { program := "yteedbaejpdjilaagreat", sum := "23c9bde00e830396a01d7cdb165240ecd891a23f968d1c19df5000b29e555f87", func := "cfg/laws.FnNoReturnGraph", spec := "fnNoReturnGraph", unfollowed := true, recurses := true, loops := true, apart := false }
def FnNoReturnGraphSaid : Prop := fnNoReturnGraphRow.holds Tryz.pinned (OpenSpec.ofChange fnNoReturnGraphSpec)

/-- ITS FALSE NEIGHBOUR: 'it returns false'. Refute it at one input. -/
def fnNoReturnGraphWrong : ChangeSpec := { name := "fnNoReturnGraph", fn := fun _ => fun
  | [d] => { results := [.lit (.bool false)], args := [d] }
  | _ => none }
def FnNoReturnGraphWrongFalsely : Prop := fnNoReturnGraphRow.holds Tryz.pinned (OpenSpec.ofChange fnNoReturnGraphWrong)

/-- 'laws.FnClauseKinds': WHATEVER THE INPUT: true; the input reads as it did. -/
def fnClauseKindsSpec : ChangeSpec := { name := "fnClauseKinds", fn := fun _ => fun
  | [d1, d2] => { results := [.lit (.bool true)], args := [d1, d2] }
  | _ => none }
def fnClauseKindsRow : OpenClaim := { program := "yteedbaejpdjilaagreat", sum := "23c9bde00e830396a01d7cdb165240ecd891a23f968d1c19df5000b29e555f87", func := "cfg/laws.FnClauseKinds", spec := "fnClauseKinds", unfollowed := true, recurses := true, loops := true, apart := false }
def FnClauseKindsSaid : Prop := fnClauseKindsRow.holds Tryz.pinned (OpenSpec.ofChange fnClauseKindsSpec)

/-- ITS FALSE NEIGHBOUR: 'it returns false'. Refute it at one input. -/
def fnClauseKindsWrong : ChangeSpec := { name := "fnClauseKinds", fn := fun _ => fun
  | [d1, d2] => { results := [.lit (.bool false)], args := [d1, d2] }
  | _ => none }
def FnClauseKindsWrongFalsely : Prop := fnClauseKindsRow.holds Tryz.pinned (OpenSpec.ofChange fnClauseKindsWrong)

/-- 'laws.FnConditionLast': WHATEVER THE INPUT: true; the input reads as it did. -/
def fnConditionLastSpec : ChangeSpec := { name := "fnConditionLast", fn := fun _ => fun
  | [d1, d2] => { results := [.lit (.bool true)], args := [d1, d2] }
  | _ => none }
def fnConditionLastRow : OpenClaim := { program := "yteedbaejpdjilaagreat", sum := "23c9bde00e830396a01d7cdb165240ecd891a23f968d1c19df5000b29e555f87", func := "cfg/laws.FnConditionLast", spec := "fnConditionLast", unfollowed := true, recurses := true, loops := true, apart := false }
def FnConditionLastSaid : Prop := fnConditionLastRow.holds Tryz.pinned (OpenSpec.ofChange fnConditionLastSpec)

/-- ITS FALSE NEIGHBOUR: 'it returns false'. Refute it at one input. -/
def fnConditionLastWrong : ChangeSpec := { name := "fnConditionLast", fn := fun _ => fun
  | [d1, d2] => { results := [.lit (.bool false)], args := [d1, d2] }
  | _ => none }
def FnConditionLastWrongFalsely : Prop := fnConditionLastRow.holds Tryz.pinned (OpenSpec.ofChange fnConditionLastWrong)

/-- 'laws.FnEntry': WHATEVER THE INPUT: true; the input reads as it did. -/
def fnEntrySpec : ChangeSpec := { name := "fnEntry", fn := fun _ => fun
  | [d] => { results := [.lit (.bool true)], args := [d] }
  | _ => none }
def fnEntryRow : OpenClaim := { program := "yteedbaejpdjilaagreat", sum := "23c9bde00e830396a01d7cdb165240ecd891a23f968d1c19df5000b29e555f87", func := "cfg/laws.FnEntry", spec := "fnEntry", unfollowed := true, recurses := true, loops := true, apart := false }
def FnEntrySaid : Prop := fnEntryRow.holds Tryz.pinned (OpenSpec.ofChange fnEntrySpec)

/-- ITS FALSE NEIGHBOUR: 'it returns false'. Refute it at one input. -/
def fnEntryWrong : ChangeSpec := { name := "fnEntry", fn := fun _ => fun
  | [d] => { results := [.lit (.bool false)], args := [d] }
  | _ => none }
def FnEntryWrongFalsely : Prop := fnEntryRow.holds Tryz.pinned (OpenSpec.ofChange fnEntryWrong)

/-- 'laws.FnFirst': WHATEVER THE INPUT: true; the input reads as it did. -/
def fnFirstSpec : ChangeSpec := { name := "fnFirst", fn := fun _ => fun
  | [d] => { results := [.lit (.bool true)], args := [d] }
  | _ => none }
def fnFirstRow : OpenClaim := { program := "yteedbaejpdjilaagreat", sum := "23c9bde00e830396a01d7cdb165240ecd891a23f968d1c19df5000b29e555f87", func := "cfg/laws.FnFirst", spec := "fnFirst", unfollowed := true, recurses := true, loops := true, apart := false }
def FnFirstSaid : Prop := fnFirstRow.holds Tryz.pinned (OpenSpec.ofChange fnFirstSpec)

/-- ITS FALSE NEIGHBOUR: 'it returns false'. Refute it at one input. -/
def fnFirstWrong : ChangeSpec := { name := "fnFirst", fn := fun _ => fun
  | [d] => { results := [.lit (.bool false)], args := [d] }
  | _ => none }
def FnFirstWrongFalsely : Prop := fnFirstRow.holds Tryz.pinned (OpenSpec.ofChange fnFirstWrong)

/-- 'laws.FnForKinds': WHATEVER THE INPUT: true; the input reads as it did. -/
def fnForKindsSpec : ChangeSpec := { name := "fnForKinds", fn := fun _ => fun
  | [d1, d2] => { results := [.lit (.bool true)], args := [d1, d2] }
  | _ => none }
def fnForKindsRow : OpenClaim := { program := "yteedbaejpdjilaagreat", sum := "23c9bde00e830396a01d7cdb165240ecd891a23f968d1c19df5000b29e555f87", func := "cfg/laws.FnForKinds", spec := "fnForKinds", unfollowed := true, recurses := true, loops := true, apart := false }
def FnForKindsSaid : Prop := fnForKindsRow.holds Tryz.pinned (OpenSpec.ofChange fnForKindsSpec)

/-- ITS FALSE NEIGHBOUR: 'it returns false'. Refute it at one input. -/
def fnForKindsWrong : ChangeSpec := { name := "fnForKinds", fn := fun _ => fun
  | [d1, d2] => { results := [.lit (.bool false)], args := [d1, d2] }
  | _ => none }
def FnForKindsWrongFalsely : Prop := fnForKindsRow.holds Tryz.pinned (OpenSpec.ofChange fnForKindsWrong)

/-- 'laws.FnIfKinds': WHATEVER THE INPUT: true; the input reads as it did. -/
def fnIfKindsSpec : ChangeSpec := { name := "fnIfKinds", fn := fun _ => fun
  | [d1, d2] => { results := [.lit (.bool true)], args := [d1, d2] }
  | _ => none }
def fnIfKindsRow : OpenClaim := { program := "yteedbaejpdjilaagreat", sum := "23c9bde00e830396a01d7cdb165240ecd891a23f968d1c19df5000b29e555f87", func := "cfg/laws.FnIfKinds", spec := "fnIfKinds", unfollowed := true, recurses := true, loops := true, apart := false }
def FnIfKindsSaid : Prop := fnIfKindsRow.holds Tryz.pinned (OpenSpec.ofChange fnIfKindsSpec)

/-- ITS FALSE NEIGHBOUR: 'it returns false'. Refute it at one input. -/
def fnIfKindsWrong : ChangeSpec := { name := "fnIfKinds", fn := fun _ => fun
  | [d1, d2] => { results := [.lit (.bool false)], args := [d1, d2] }
  | _ => none }
def FnIfKindsWrongFalsely : Prop := fnIfKindsRow.holds Tryz.pinned (OpenSpec.ofChange fnIfKindsWrong)

/-- 'laws.FnIndex': WHATEVER THE INPUT: true; the input reads as it did. -/
def fnIndexSpec : ChangeSpec := { name := "fnIndex", fn := fun _ => fun
  | [d] => { results := [.lit (.bool true)], args := [d] }
  | _ => none }
def fnIndexRow : OpenClaim := { program := "yteedbaejpdjilaagreat", sum := "23c9bde00e830396a01d7cdb165240ecd891a23f968d1c19df5000b29e555f87", func := "cfg/laws.FnIndex", spec := "fnIndex", unfollowed := true, recurses := true, loops := true, apart := false }
def FnIndexSaid : Prop := fnIndexRow.holds Tryz.pinned (OpenSpec.ofChange fnIndexSpec)

/-- ITS FALSE NEIGHBOUR: 'it returns false'. Refute it at one input. -/
def fnIndexWrong : ChangeSpec := { name := "fnIndex", fn := fun _ => fun
  | [d] => { results := [.lit (.bool false)], args := [d] }
  | _ => none }
def FnIndexWrongFalsely : Prop := fnIndexRow.holds Tryz.pinned (OpenSpec.ofChange fnIndexWrong)

/-- 'laws.FnKinds': WHATEVER THE INPUT: true; the input reads as it did. -/
def fnKindsSpec : ChangeSpec := { name := "fnKinds", fn := fun _ => fun
  | [d] => { results := [.lit (.bool true)], args := [d] }
  | _ => none }
def fnKindsRow : OpenClaim := { program := "yteedbaejpdjilaagreat", sum := "23c9bde00e830396a01d7cdb165240ecd891a23f968d1c19df5000b29e555f87", func := "cfg/laws.FnKinds", spec := "fnKinds", unfollowed := true, recurses := true, loops := true, apart := false }
def FnKindsSaid : Prop := fnKindsRow.holds Tryz.pinned (OpenSpec.ofChange fnKindsSpec)

/-- ITS FALSE NEIGHBOUR: 'it returns false'. Refute it at one input. -/
def fnKindsWrong : ChangeSpec := { name := "fnKinds", fn := fun _ => fun
  | [d] => { results := [.lit (.bool false)], args := [d] }
  | _ => none }
def FnKindsWrongFalsely : Prop := fnKindsRow.holds Tryz.pinned (OpenSpec.ofChange fnKindsWrong)

/-- 'laws.FnLive': WHATEVER THE INPUT: true; the input reads as it did. -/
def fnLiveSpec : ChangeSpec := { name := "fnLive", fn := fun _ => fun
  | [d] => { results := [.lit (.bool true)], args := [d] }
  | _ => none }
def fnLiveRow : OpenClaim := { program := "yteedbaejpdjilaagreat", sum := "23c9bde00e830396a01d7cdb165240ecd891a23f968d1c19df5000b29e555f87", func := "cfg/laws.FnLive", spec := "fnLive", unfollowed := true, recurses := true, loops := true, apart := false }
def FnLiveSaid : Prop := fnLiveRow.holds Tryz.pinned (OpenSpec.ofChange fnLiveSpec)

/-- ITS FALSE NEIGHBOUR: 'it returns false'. Refute it at one input. -/
def fnLiveWrong : ChangeSpec := { name := "fnLive", fn := fun _ => fun
  | [d] => { results := [.lit (.bool false)], args := [d] }
  | _ => none }
def FnLiveWrongFalsely : Prop := fnLiveRow.holds Tryz.pinned (OpenSpec.ofChange fnLiveWrong)

/-- 'laws.FnLiveEnd': WHATEVER THE INPUT: true; the input reads as it did. -/
def fnLiveEndSpec : ChangeSpec := { name := "fnLiveEnd", fn := fun _ => fun
  | [d] => { results := [.lit (.bool true)], args := [d] }
  | _ => none }
def fnLiveEndRow : OpenClaim := { program := "yteedbaejpdjilaagreat", sum := "23c9bde00e830396a01d7cdb165240ecd891a23f968d1c19df5000b29e555f87", func := "cfg/laws.FnLiveEnd", spec := "fnLiveEnd", unfollowed := true, recurses := true, loops := true, apart := false }
def FnLiveEndSaid : Prop := fnLiveEndRow.holds Tryz.pinned (OpenSpec.ofChange fnLiveEndSpec)

/-- ITS FALSE NEIGHBOUR: 'it returns false'. Refute it at one input. -/
def fnLiveEndWrong : ChangeSpec := { name := "fnLiveEnd", fn := fun _ => fun
  | [d] => { results := [.lit (.bool false)], args := [d] }
  | _ => none }
def FnLiveEndWrongFalsely : Prop := fnLiveEndRow.holds Tryz.pinned (OpenSpec.ofChange fnLiveEndWrong)

/-- 'laws.FnLiveLeaf': WHATEVER THE INPUT: true; the input reads as it did. -/
def fnLiveLeafSpec : ChangeSpec := { name := "fnLiveLeaf", fn := fun _ => fun
  | [d1, d2] => { results := [.lit (.bool true)], args := [d1, d2] }
  | _ => none }
def fnLiveLeafRow : OpenClaim := { program := "yteedbaejpdjilaagreat", sum := "23c9bde00e830396a01d7cdb165240ecd891a23f968d1c19df5000b29e555f87", func := "cfg/laws.FnLiveLeaf", spec := "fnLiveLeaf", unfollowed := true, recurses := true, loops := true, apart := false }
def FnLiveLeafSaid : Prop := fnLiveLeafRow.holds Tryz.pinned (OpenSpec.ofChange fnLiveLeafSpec)

/-- ITS FALSE NEIGHBOUR: 'it returns false'. Refute it at one input. -/
def fnLiveLeafWrong : ChangeSpec := { name := "fnLiveLeaf", fn := fun _ => fun
  | [d1, d2] => { results := [.lit (.bool false)], args := [d1, d2] }
  | _ => none }
def FnLiveLeafWrongFalsely : Prop := fnLiveLeafRow.holds Tryz.pinned (OpenSpec.ofChange fnLiveLeafWrong)

/-- 'laws.FnNothingElse': WHATEVER THE INPUT: true; the input reads as it did. -/
def fnNothingElseSpec : ChangeSpec := { name := "fnNothingElse", fn := fun _ => fun
  | [d] => { results := [.lit (.bool true)], args := [d] }
  | _ => none }
def fnNothingElseRow : OpenClaim := { program := "yteedbaejpdjilaagreat", sum := "23c9bde00e830396a01d7cdb165240ecd891a23f968d1c19df5000b29e555f87", func := "cfg/laws.FnNothingElse", spec := "fnNothingElse", unfollowed := true, recurses := true, loops := true, apart := false }
def FnNothingElseSaid : Prop := fnNothingElseRow.holds Tryz.pinned (OpenSpec.ofChange fnNothingElseSpec)

/-- ITS FALSE NEIGHBOUR: 'it returns false'. Refute it at one input. -/
def fnNothingElseWrong : ChangeSpec := { name := "fnNothingElse", fn := fun _ => fun
  | [d] => { results := [.lit (.bool false)], args := [d] }
  | _ => none }
def FnNothingElseWrongFalsely : Prop := fnNothingElseRow.holds Tryz.pinned (OpenSpec.ofChange fnNothingElseWrong)

/-- 'laws.FnPostKind': WHATEVER THE INPUT: true; the input reads as it did. -/
def fnPostKindSpec : ChangeSpec := { name := "fnPostKind", fn := fun _ => fun
  | [d1, d2] => { results := [.lit (.bool true)], args := [d1, d2] }
  | _ => none }
def fnPostKindRow : OpenClaim := { program := "yteedbaejpdjilaagreat", sum := "23c9bde00e830396a01d7cdb165240ecd891a23f968d1c19df5000b29e555f87", func := "cfg/laws.FnPostKind", spec := "fnPostKind", unfollowed := true, recurses := true, loops := true, apart := false }
def FnPostKindSaid : Prop := fnPostKindRow.holds Tryz.pinned (OpenSpec.ofChange fnPostKindSpec)

/-- ITS FALSE NEIGHBOUR: 'it returns false'. Refute it at one input. -/
def fnPostKindWrong : ChangeSpec := { name := "fnPostKind", fn := fun _ => fun
  | [d1, d2] => { results := [.lit (.bool false)], args := [d1, d2] }
  | _ => none }
def FnPostKindWrongFalsely : Prop := fnPostKindRow.holds Tryz.pinned (OpenSpec.ofChange fnPostKindWrong)

/-- 'laws.FnRangeKinds': WHATEVER THE INPUT: true; the input reads as it did. -/
def fnRangeKindsSpec : ChangeSpec := { name := "fnRangeKinds", fn := fun _ => fun
  | [d1, d2] => { results := [.lit (.bool true)], args := [d1, d2] }
  | _ => none }
def fnRangeKindsRow : OpenClaim := { program := "yteedbaejpdjilaagreat", sum := "23c9bde00e830396a01d7cdb165240ecd891a23f968d1c19df5000b29e555f87", func := "cfg/laws.FnRangeKinds", spec := "fnRangeKinds", unfollowed := true, recurses := true, loops := true, apart := false }
def FnRangeKindsSaid : Prop := fnRangeKindsRow.holds Tryz.pinned (OpenSpec.ofChange fnRangeKindsSpec)

/-- ITS FALSE NEIGHBOUR: 'it returns false'. Refute it at one input. -/
def fnRangeKindsWrong : ChangeSpec := { name := "fnRangeKinds", fn := fun _ => fun
  | [d1, d2] => { results := [.lit (.bool false)], args := [d1, d2] }
  | _ => none }
def FnRangeKindsWrongFalsely : Prop := fnRangeKindsRow.holds Tryz.pinned (OpenSpec.ofChange fnRangeKindsWrong)

/-- 'laws.FnReturnEnds': WHATEVER THE INPUT: true; the input reads as it did. -/
def fnReturnEndsSpec : ChangeSpec := { name := "fnReturnEnds", fn := fun _ => fun
  | [d] => { results := [.lit (.bool true)], args := [d] }
  | _ => none }
def fnReturnEndsRow : OpenClaim := { program := "yteedbaejpdjilaagreat", sum := "23c9bde00e830396a01d7cdb165240ecd891a23f968d1c19df5000b29e555f87", func := "cfg/laws.FnReturnEnds", spec := "fnReturnEnds", unfollowed := true, recurses := true, loops := true, apart := false }
def FnReturnEndsSaid : Prop := fnReturnEndsRow.holds Tryz.pinned (OpenSpec.ofChange fnReturnEndsSpec)

/-- ITS FALSE NEIGHBOUR: 'it returns false'. Refute it at one input. -/
def fnReturnEndsWrong : ChangeSpec := { name := "fnReturnEnds", fn := fun _ => fun
  | [d] => { results := [.lit (.bool false)], args := [d] }
  | _ => none }
def FnReturnEndsWrongFalsely : Prop := fnReturnEndsRow.holds Tryz.pinned (OpenSpec.ofChange fnReturnEndsWrong)

/-- 'laws.FnSequence': WHATEVER THE INPUT: true; the input reads as it did. -/
def fnSequenceSpec : ChangeSpec := { name := "fnSequence", fn := fun _ => fun
  | [d] => { results := [.lit (.bool true)], args := [d] }
  | _ => none }
def fnSequenceRow : OpenClaim := { program := "yteedbaejpdjilaagreat", sum := "23c9bde00e830396a01d7cdb165240ecd891a23f968d1c19df5000b29e555f87", func := "cfg/laws.FnSequence", spec := "fnSequence", unfollowed := true, recurses := true, loops := true, apart := false }
def FnSequenceSaid : Prop := fnSequenceRow.holds Tryz.pinned (OpenSpec.ofChange fnSequenceSpec)

/-- ITS FALSE NEIGHBOUR: 'it returns false'. Refute it at one input. -/
def fnSequenceWrong : ChangeSpec := { name := "fnSequence", fn := fun _ => fun
  | [d] => { results := [.lit (.bool false)], args := [d] }
  | _ => none }
def FnSequenceWrongFalsely : Prop := fnSequenceRow.holds Tryz.pinned (OpenSpec.ofChange fnSequenceWrong)

/-- 'laws.FnStands': WHATEVER THE INPUT: true; the input reads as it did. -/
def fnStandsSpec : ChangeSpec := { name := "fnStands", fn := fun _ => fun
  | [d1, d2] => { results := [.lit (.bool true)], args := [d1, d2] }
  | _ => none }
def fnStandsRow : OpenClaim := { program := "yteedbaejpdjilaagreat", sum := "23c9bde00e830396a01d7cdb165240ecd891a23f968d1c19df5000b29e555f87", func := "cfg/laws.FnStands", spec := "fnStands", unfollowed := true, recurses := true, loops := true, apart := false }
def FnStandsSaid : Prop := fnStandsRow.holds Tryz.pinned (OpenSpec.ofChange fnStandsSpec)

/-- ITS FALSE NEIGHBOUR: 'it returns false'. Refute it at one input. -/
def fnStandsWrong : ChangeSpec := { name := "fnStands", fn := fun _ => fun
  | [d1, d2] => { results := [.lit (.bool false)], args := [d1, d2] }
  | _ => none }
def FnStandsWrongFalsely : Prop := fnStandsRow.holds Tryz.pinned (OpenSpec.ofChange fnStandsWrong)

/-- 'laws.FnStopEnds': WHATEVER THE INPUT: true; the input reads as it did. -/
def fnStopEndsSpec : ChangeSpec := { name := "fnStopEnds", fn := fun _ => fun
  | [d1, d2] => { results := [.lit (.bool true)], args := [d1, d2] }
  | _ => none }
def fnStopEndsRow : OpenClaim := { program := "yteedbaejpdjilaagreat", sum := "23c9bde00e830396a01d7cdb165240ecd891a23f968d1c19df5000b29e555f87", func := "cfg/laws.FnStopEnds", spec := "fnStopEnds", unfollowed := true, recurses := true, loops := true, apart := false }
def FnStopEndsSaid : Prop := fnStopEndsRow.holds Tryz.pinned (OpenSpec.ofChange fnStopEndsSpec)

/-- ITS FALSE NEIGHBOUR: 'it returns false'. Refute it at one input. -/
def fnStopEndsWrong : ChangeSpec := { name := "fnStopEnds", fn := fun _ => fun
  | [d1, d2] => { results := [.lit (.bool false)], args := [d1, d2] }
  | _ => none }
def FnStopEndsWrongFalsely : Prop := fnStopEndsRow.holds Tryz.pinned (OpenSpec.ofChange fnStopEndsWrong)

/-- 'laws.FnSuccs': WHATEVER THE INPUT: true; the input reads as it did. -/
def fnSuccsSpec : ChangeSpec := { name := "fnSuccs", fn := fun _ => fun
  | [d] => { results := [.lit (.bool true)], args := [d] }
  | _ => none }
def fnSuccsRow : OpenClaim := { program := "yteedbaejpdjilaagreat", sum := "23c9bde00e830396a01d7cdb165240ecd891a23f968d1c19df5000b29e555f87", func := "cfg/laws.FnSuccs", spec := "fnSuccs", unfollowed := true, recurses := true, loops := true, apart := false }
def FnSuccsSaid : Prop := fnSuccsRow.holds Tryz.pinned (OpenSpec.ofChange fnSuccsSpec)

/-- ITS FALSE NEIGHBOUR: 'it returns false'. Refute it at one input. -/
def fnSuccsWrong : ChangeSpec := { name := "fnSuccs", fn := fun _ => fun
  | [d] => { results := [.lit (.bool false)], args := [d] }
  | _ => none }
def FnSuccsWrongFalsely : Prop := fnSuccsRow.holds Tryz.pinned (OpenSpec.ofChange fnSuccsWrong)

/-- 'laws.FnTwoWays': WHATEVER THE INPUT: true; the input reads as it did. -/
def fnTwoWaysSpec : ChangeSpec := { name := "fnTwoWays", fn := fun _ => fun
  | [d] => { results := [.lit (.bool true)], args := [d] }
  | _ => none }
def fnTwoWaysRow : OpenClaim := { program := "yteedbaejpdjilaagreat", sum := "23c9bde00e830396a01d7cdb165240ecd891a23f968d1c19df5000b29e555f87", func := "cfg/laws.FnTwoWays", spec := "fnTwoWays", unfollowed := true, recurses := true, loops := true, apart := false }
def FnTwoWaysSaid : Prop := fnTwoWaysRow.holds Tryz.pinned (OpenSpec.ofChange fnTwoWaysSpec)

/-- ITS FALSE NEIGHBOUR: 'it returns false'. Refute it at one input. -/
def fnTwoWaysWrong : ChangeSpec := { name := "fnTwoWays", fn := fun _ => fun
  | [d] => { results := [.lit (.bool false)], args := [d] }
  | _ => none }
def FnTwoWaysWrongFalsely : Prop := fnTwoWaysRow.holds Tryz.pinned (OpenSpec.ofChange fnTwoWaysWrong)

/-- 'laws.FnUnreachable': WHATEVER THE INPUT: true; the input reads as it did. -/
def fnUnreachableSpec : ChangeSpec := { name := "fnUnreachable", fn := fun _ => fun
  | [d] => { results := [.lit (.bool true)], args := [d] }
  | _ => none }
def fnUnreachableRow : OpenClaim := { program := "yteedbaejpdjilaagreat", sum := "23c9bde00e830396a01d7cdb165240ecd891a23f968d1c19df5000b29e555f87", func := "cfg/laws.FnUnreachable", spec := "fnUnreachable", unfollowed := true, recurses := true, loops := true, apart := false }
def FnUnreachableSaid : Prop := fnUnreachableRow.holds Tryz.pinned (OpenSpec.ofChange fnUnreachableSpec)

/-- ITS FALSE NEIGHBOUR: 'it returns false'. Refute it at one input. -/
def fnUnreachableWrong : ChangeSpec := { name := "fnUnreachable", fn := fun _ => fun
  | [d] => { results := [.lit (.bool false)], args := [d] }
  | _ => none }
def FnUnreachableWrongFalsely : Prop := fnUnreachableRow.holds Tryz.pinned (OpenSpec.ofChange fnUnreachableWrong)

/- THE SECOND FORM. 'bulk': how many values and letters a reading holds, each counted each time it is reached (what is shared counts as often as it is met; a slice's spare places count too). A statement '..UptoSaid' is the law's where the arguments, and the package variables that the reading takes, are together of bulk at most 1048576: NARROWER than '..Said'. Prove '..Said' where nothing that the law and all that it calls make is longer than what came in: it says more and counts as full. Else prove '..UptoSaid'. A law counts once. -/
mutual
def uptoBulk {H : Type} : DataW H → Nat
  | .lit (.string bytes) => bytes.length + 1
  | .lit _ => 1
  | .nil => 1
  | .ptr d => uptoBulk d + 1
  | .slice elems spare => uptoBulkAll elems + uptoBulkAll spare + 1
  | .agg parts => uptoBulkAll parts + 1
  | .iface _ d => uptoBulk d + 1
  | .map entries => uptoBulkEntries entries + 1
  | .held _ => 1
def uptoBulkAll {H : Type} : List (DataW H) → Nat
  | [] => 0
  | d :: r => uptoBulk d + uptoBulkAll r
def uptoBulkEntries {H : Type} : List (Lit × DataW H) → Nat
  | [] => 0
  | x :: r => uptoBulkEntry x + uptoBulkEntries r
def uptoBulkEntry {H : Type} : Lit × DataW H → Nat
  | (.string bytes, d) => bytes.length + uptoBulk d + 1
  | (_, d) => uptoBulk d + 1
 end
def uptoSmall : (H : Type) → List (DataW H) → Bool := fun _ ds => decide (uptoBulkAll ds ≤ 1048576)
def OpenSpec.upto (s : _root_.Go.ChangeSpec) : _root_.Go.OpenSpec := { _root_.Go.OpenSpec.ofChange s with cond := some uptoSmall }

/-- 'laws.FnAskedCalls', WHERE WHAT IT READS IS OF BULK AT MOST 1048576: true; the input reads as it did. -/
def fnAskedCallsUptoRow : OpenClaim := { program := "yteedbaejpdjilaagreat", sum := "23c9bde00e830396a01d7cdb165240ecd891a23f968d1c19df5000b29e555f87", func := "cfg/laws.FnAskedCalls", spec := "fnAskedCalls", unfollowed := true, recurses := true, loops := true, apart := false, narrowed := true }
def FnAskedCallsUptoSaid : Prop := fnAskedCallsUptoRow.holds Tryz.pinned (OpenSpec.upto fnAskedCallsSpec)

/-- 'laws.FnAskedReached', WHERE WHAT IT READS IS OF BULK AT MOST 1048576: true; the input reads as it did. -/
def fnAskedReachedUptoRow : OpenClaim := { program := "yteedbaejpdjilaagreat", sum := "23c9bde00e830396a01d7cdb165240ecd891a23f968d1c19df5000b29e555f87", func := "cfg/laws.FnAskedReached", spec := "fnAskedReached", unfollowed := true, recurses := true, loops := true, apart := false, narrowed := true }
def FnAskedReachedUptoSaid : Prop := fnAskedReachedUptoRow.holds Tryz.pinned (OpenSpec.upto fnAskedReachedSpec)

/-- 'laws.FnNoReturn', WHERE WHAT IT READS IS OF BULK AT MOST 1048576: true; the input reads as it did. -/
def fnNoReturnUptoRow : OpenClaim := { program := "yteedbaejpdjilaagreat", sum := "23c9bde00e830396a01d7cdb165240ecd891a23f968d1c19df5000b29e555f87", func := "cfg/laws.FnNoReturn", spec := "fnNoReturn", unfollowed := true, recurses := true, loops := true, apart := false, narrowed := true }
def FnNoReturnUptoSaid : Prop := fnNoReturnUptoRow.holds Tryz.pinned (OpenSpec.upto fnNoReturnSpec)

/-- 'laws.FnCaseKinds', WHERE WHAT IT READS IS OF BULK AT MOST 1048576: true; the input reads as it did. -/
def fnCaseKindsUptoRow : OpenClaim := { program := "yteedbaejpdjilaagreat", sum := "23c9bde00e830396a01d7cdb165240ecd891a23f968d1c19df5000b29e555f87", func := "cfg/laws.FnCaseKinds", spec := "fnCaseKinds", unfollowed := true, recurses := true, loops := true, apart := false, narrowed := true }
def FnCaseKindsUptoSaid : Prop := fnCaseKindsUptoRow.holds Tryz.pinned (OpenSpec.upto fnCaseKindsSpec)

/-- 'laws.FnNoReturnGraph', WHERE WHAT IT READS IS OF BULK AT MOST 1048576: true; the input reads as it did. -/
def fnNoReturnGraphUptoRow : OpenClaim := { program := "yteedbaejpdjilaagreat", sum := "23c9bde00e830396a01d7cdb165240ecd891a23f968d1c19df5000b29e555f87", func := "cfg/laws.FnNoReturnGraph", spec := "fnNoReturnGraph", unfollowed := true, recurses := true, loops := true, apart := false, narrowed := true }
def FnNoReturnGraphUptoSaid : Prop := fnNoReturnGraphUptoRow.holds Tryz.pinned (OpenSpec.upto fnNoReturnGraphSpec)

/-- 'laws.FnClauseKinds', WHERE WHAT IT READS IS OF BULK AT MOST 1048576: true; the input reads as it did. -/
def fnClauseKindsUptoRow : OpenClaim := { program := "yteedbaejpdjilaagreat", sum := "23c9bde00e830396a01d7cdb165240ecd891a23f968d1c19df5000b29e555f87", func := "cfg/laws.FnClauseKinds", spec := "fnClauseKinds", unfollowed := true, recurses := true, loops := true, apart := false, narrowed := true }
def FnClauseKindsUptoSaid : Prop := fnClauseKindsUptoRow.holds Tryz.pinned (OpenSpec.upto fnClauseKindsSpec)

/-- 'laws.FnConditionLast', WHERE WHAT IT READS IS OF BULK AT MOST 1048576: true; the input reads as it did. -/
def fnConditionLastUptoRow : OpenClaim := { program := "yteedbaejpdjilaagreat", sum := "23c9bde00e830396a01d7cdb165240ecd891a23f968d1c19df5000b29e555f87", func := "cfg/laws.FnConditionLast", spec := "fnConditionLast", unfollowed := true, recurses := true, loops := true, apart := false, narrowed := true }
def FnConditionLastUptoSaid : Prop := fnConditionLastUptoRow.holds Tryz.pinned (OpenSpec.upto fnConditionLastSpec)

/-- 'laws.FnEntry', WHERE WHAT IT READS IS OF BULK AT MOST 1048576: true; the input reads as it did. -/
def fnEntryUptoRow : OpenClaim := { program := "yteedbaejpdjilaagreat", sum := "23c9bde00e830396a01d7cdb165240ecd891a23f968d1c19df5000b29e555f87", func := "cfg/laws.FnEntry", spec := "fnEntry", unfollowed := true, recurses := true, loops := true, apart := false, narrowed := true }
def FnEntryUptoSaid : Prop := fnEntryUptoRow.holds Tryz.pinned (OpenSpec.upto fnEntrySpec)

/-- 'laws.FnFirst', WHERE WHAT IT READS IS OF BULK AT MOST 1048576: true; the input reads as it did. -/
def fnFirstUptoRow : OpenClaim := { program := "yteedbaejpdjilaagreat", sum := "23c9bde00e830396a01d7cdb165240ecd891a23f968d1c19df5000b29e555f87", func := "cfg/laws.FnFirst", spec := "fnFirst", unfollowed := true, recurses := true, loops := true, apart := false, narrowed := true }
def FnFirstUptoSaid : Prop := fnFirstUptoRow.holds Tryz.pinned (OpenSpec.upto fnFirstSpec)

/-- 'laws.FnForKinds', WHERE WHAT IT READS IS OF BULK AT MOST 1048576: true; the input reads as it did. -/
def fnForKindsUptoRow : OpenClaim := { program := "yteedbaejpdjilaagreat", sum := "23c9bde00e830396a01d7cdb165240ecd891a23f968d1c19df5000b29e555f87", func := "cfg/laws.FnForKinds", spec := "fnForKinds", unfollowed := true, recurses := true, loops := true, apart := false, narrowed := true }
def FnForKindsUptoSaid : Prop := fnForKindsUptoRow.holds Tryz.pinned (OpenSpec.upto fnForKindsSpec)

/-- 'laws.FnIfKinds', WHERE WHAT IT READS IS OF BULK AT MOST 1048576: true; the input reads as it did. -/
def fnIfKindsUptoRow : OpenClaim := { program := "yteedbaejpdjilaagreat", sum := "23c9bde00e830396a01d7cdb165240ecd891a23f968d1c19df5000b29e555f87", func := "cfg/laws.FnIfKinds", spec := "fnIfKinds", unfollowed := true, recurses := true, loops := true, apart := false, narrowed := true }
def FnIfKindsUptoSaid : Prop := fnIfKindsUptoRow.holds Tryz.pinned (OpenSpec.upto fnIfKindsSpec)

/-- 'laws.FnIndex', WHERE WHAT IT READS IS OF BULK AT MOST 1048576: true; the input reads as it did. -/
def fnIndexUptoRow : OpenClaim := { program := "yteedbaejpdjilaagreat", sum := "23c9bde00e830396a01d7cdb165240ecd891a23f968d1c19df5000b29e555f87", func := "cfg/laws.FnIndex", spec := "fnIndex", unfollowed := true, recurses := true, loops := true, apart := false, narrowed := true }
def FnIndexUptoSaid : Prop := fnIndexUptoRow.holds Tryz.pinned (OpenSpec.upto fnIndexSpec)

/-- 'laws.FnKinds', WHERE WHAT IT READS IS OF BULK AT MOST 1048576: true; the input reads as it did. -/
def fnKindsUptoRow : OpenClaim := { program := "yteedbaejpdjilaagreat", sum := "23c9bde00e830396a01d7cdb165240ecd891a23f968d1c19df5000b29e555f87", func := "cfg/laws.FnKinds", spec := "fnKinds", unfollowed := true, recurses := true, loops := true, apart := false, narrowed := true }
def FnKindsUptoSaid : Prop := fnKindsUptoRow.holds Tryz.pinned (OpenSpec.upto fnKindsSpec)

/-- 'laws.FnLive', WHERE WHAT IT READS IS OF BULK AT MOST 1048576: true; the input reads as it did. -/
def fnLiveUptoRow : OpenClaim := { program := "yteedbaejpdjilaagreat", sum := "23c9bde00e830396a01d7cdb165240ecd891a23f968d1c19df5000b29e555f87", func := "cfg/laws.FnLive", spec := "fnLive", unfollowed := true, recurses := true, loops := true, apart := false, narrowed := true }
def FnLiveUptoSaid : Prop := fnLiveUptoRow.holds Tryz.pinned (OpenSpec.upto fnLiveSpec)

/-- 'laws.FnLiveEnd', WHERE WHAT IT READS IS OF BULK AT MOST 1048576: true; the input reads as it did. -/
def fnLiveEndUptoRow : OpenClaim := { program := "yteedbaejpdjilaagreat", sum := "23c9bde00e830396a01d7cdb165240ecd891a23f968d1c19df5000b29e555f87", func := "cfg/laws.FnLiveEnd", spec := "fnLiveEnd", unfollowed := true, recurses := true, loops := true, apart := false, narrowed := true }
def FnLiveEndUptoSaid : Prop := fnLiveEndUptoRow.holds Tryz.pinned (OpenSpec.upto fnLiveEndSpec)

/-- 'laws.FnLiveLeaf', WHERE WHAT IT READS IS OF BULK AT MOST 1048576: true; the input reads as it did. -/
def fnLiveLeafUptoRow : OpenClaim := { program := "yteedbaejpdjilaagreat", sum := "23c9bde00e830396a01d7cdb165240ecd891a23f968d1c19df5000b29e555f87", func := "cfg/laws.FnLiveLeaf", spec := "fnLiveLeaf", unfollowed := true, recurses := true, loops := true, apart := false, narrowed := true }
def FnLiveLeafUptoSaid : Prop := fnLiveLeafUptoRow.holds Tryz.pinned (OpenSpec.upto fnLiveLeafSpec)

/-- 'laws.FnNothingElse', WHERE WHAT IT READS IS OF BULK AT MOST 1048576: true; the input reads as it did. -/
def fnNothingElseUptoRow : OpenClaim := { program := "yteedbaejpdjilaagreat", sum := "23c9bde00e830396a01d7cdb165240ecd891a23f968d1c19df5000b29e555f87", func := "cfg/laws.FnNothingElse", spec := "fnNothingElse", unfollowed := true, recurses := true, loops := true, apart := false, narrowed := true }
def FnNothingElseUptoSaid : Prop := fnNothingElseUptoRow.holds Tryz.pinned (OpenSpec.upto fnNothingElseSpec)

/-- 'laws.FnPostKind', WHERE WHAT IT READS IS OF BULK AT MOST 1048576: true; the input reads as it did. -/
def fnPostKindUptoRow : OpenClaim := { program := "yteedbaejpdjilaagreat", sum := "23c9bde00e830396a01d7cdb165240ecd891a23f968d1c19df5000b29e555f87", func := "cfg/laws.FnPostKind", spec := "fnPostKind", unfollowed := true, recurses := true, loops := true, apart := false, narrowed := true }
def FnPostKindUptoSaid : Prop := fnPostKindUptoRow.holds Tryz.pinned (OpenSpec.upto fnPostKindSpec)

/-- 'laws.FnRangeKinds', WHERE WHAT IT READS IS OF BULK AT MOST 1048576: true; the input reads as it did. -/
def fnRangeKindsUptoRow : OpenClaim := { program := "yteedbaejpdjilaagreat", sum := "23c9bde00e830396a01d7cdb165240ecd891a23f968d1c19df5000b29e555f87", func := "cfg/laws.FnRangeKinds", spec := "fnRangeKinds", unfollowed := true, recurses := true, loops := true, apart := false, narrowed := true }
def FnRangeKindsUptoSaid : Prop := fnRangeKindsUptoRow.holds Tryz.pinned (OpenSpec.upto fnRangeKindsSpec)

/-- 'laws.FnReturnEnds', WHERE WHAT IT READS IS OF BULK AT MOST 1048576: true; the input reads as it did. -/
def fnReturnEndsUptoRow : OpenClaim := { program := "yteedbaejpdjilaagreat", sum := "23c9bde00e830396a01d7cdb165240ecd891a23f968d1c19df5000b29e555f87", func := "cfg/laws.FnReturnEnds", spec := "fnReturnEnds", unfollowed := true, recurses := true, loops := true, apart := false, narrowed := true }
def FnReturnEndsUptoSaid : Prop := fnReturnEndsUptoRow.holds Tryz.pinned (OpenSpec.upto fnReturnEndsSpec)

/-- 'laws.FnSequence', WHERE WHAT IT READS IS OF BULK AT MOST 1048576: true; the input reads as it did. -/
def fnSequenceUptoRow : OpenClaim := { program := "yteedbaejpdjilaagreat", sum := "23c9bde00e830396a01d7cdb165240ecd891a23f968d1c19df5000b29e555f87", func := "cfg/laws.FnSequence", spec := "fnSequence", unfollowed := true, recurses := true, loops := true, apart := false, narrowed := true }
def FnSequenceUptoSaid : Prop := fnSequenceUptoRow.holds Tryz.pinned (OpenSpec.upto fnSequenceSpec)

/-- 'laws.FnStands', WHERE WHAT IT READS IS OF BULK AT MOST 1048576: true; the input reads as it did. -/
def fnStandsUptoRow : OpenClaim := { program := "yteedbaejpdjilaagreat", sum := "23c9bde00e830396a01d7cdb165240ecd891a23f968d1c19df5000b29e555f87", func := "cfg/laws.FnStands", spec := "fnStands", unfollowed := true, recurses := true, loops := true, apart := false, narrowed := true }
def FnStandsUptoSaid : Prop := fnStandsUptoRow.holds Tryz.pinned (OpenSpec.upto fnStandsSpec)

/-- 'laws.FnStopEnds', WHERE WHAT IT READS IS OF BULK AT MOST 1048576: true; the input reads as it did. -/
def fnStopEndsUptoRow : OpenClaim := { program := "yteedbaejpdjilaagreat", sum := "23c9bde00e830396a01d7cdb165240ecd891a23f968d1c19df5000b29e555f87", func := "cfg/laws.FnStopEnds", spec := "fnStopEnds", unfollowed := true, recurses := true, loops := true, apart := false, narrowed := true }
def FnStopEndsUptoSaid : Prop := fnStopEndsUptoRow.holds Tryz.pinned (OpenSpec.upto fnStopEndsSpec)

/-- 'laws.FnSuccs', WHERE WHAT IT READS IS OF BULK AT MOST 1048576: true; the input reads as it did. -/
def fnSuccsUptoRow : OpenClaim := { program := "yteedbaejpdjilaagreat", sum := "23c9bde00e830396a01d7cdb165240ecd891a23f968d1c19df5000b29e555f87", func := "cfg/laws.FnSuccs", spec := "fnSuccs", unfollowed := true, recurses := true, loops := true, apart := false, narrowed := true }
def FnSuccsUptoSaid : Prop := fnSuccsUptoRow.holds Tryz.pinned (OpenSpec.upto fnSuccsSpec)

/-- 'laws.FnTwoWays', WHERE WHAT IT READS IS OF BULK AT MOST 1048576: true; the input reads as it did. -/
def fnTwoWaysUptoRow : OpenClaim := { program := "yteedbaejpdjilaagreat", sum := "23c9bde00e830396a01d7cdb165240ecd891a23f968d1c19df5000b29e555f87", func := "cfg/laws.FnTwoWays", spec := "fnTwoWays", unfollowed := true, recurses := true, loops := true, apart := false, narrowed := true }
def FnTwoWaysUptoSaid : Prop := fnTwoWaysUptoRow.holds Tryz.pinned (OpenSpec.upto fnTwoWaysSpec)

/-- 'laws.FnUnreachable', WHERE WHAT IT READS IS OF BULK AT MOST 1048576: true; the input reads as it did. -/
def fnUnreachableUptoRow : OpenClaim := { program := "yteedbaejpdjilaagreat", sum := "23c9bde00e830396a01d7cdb165240ecd891a23f968d1c19df5000b29e555f87", func := "cfg/laws.FnUnreachable", spec := "fnUnreachable", unfollowed := true, recurses := true, loops := true, apart := false, narrowed := true }
def FnUnreachableUptoSaid : Prop := fnUnreachableUptoRow.holds Tryz.pinned (OpenSpec.upto fnUnreachableSpec)

end Rows
end Go.Proofs.YteedbaejpdjilaaGreat
