/-
  No cell of these rows narrows 'for every input' (looked for: loops, veiled, ifaces, maps, wideKeys, modest, calm, conditions, laid).
  DERIVED. THE GIVEN ROWS OF THIS SEAT. 28 by the template 'for every input the law returns true; each argument reads behind the call as it read before'; 0 by the template 'total and deterministic' (their statements: YtndknmchhhljcaaTotals.lean).
  GIVEN WITH THE SEED: the statements are not yours to turn. If you find one false, say at which input.
  Laid BY PROGRAM, IN A SANDBOX (cutbox-rows.mjs): the forced cells as the released guide's own fill.sh prints them over the translation b71ef23ea54903db… (all of the seat's roots in one cut). By AI agents, Wed Nov 11 2026. No macro, syntax, notation, axiom, sorry.
-/
import Derived.Test.YtndknmchhhljcaaChecked
import GoSem.Claim
import GoSem.ClaimJoined
import GoSem.ClaimMapViews
import Derived.JoinedTies
import Derived.KernelRfl
namespace Go.Proofs.Ytndknmchhhljcaa
/- THE CELL 'sum', in the pinned program and in every row, IS THE sha256 OF THE DUMP (.gsa) THAT YtndknmchhhljcaaProg.lean LOADS. Nothing in Lean hashes anything: it is a label: what it is worth is what the hold of that sum in a sandbox is worth. -/
noncomputable def Try.pinned : Pinned := { name := "ytndknmchhhljcaa", sum := "b71ef23ea54903dba3c8580e50c5960e6928a4a8361b3eaa89d47c740dee7ce5", checked := Try.checked }
namespace Rows
def none {H : Type} : Left H := { results := [], args := [] }

/-- 'laws.FnExactAddBytes': WHATEVER THE INPUT: true; the input reads as it did. -/
def fnExactAddBytesSpec : ChangeSpec := { name := "fnExactAddBytes", fn := fun _ => fun
  | [d] => { results := [.lit (.bool true)], args := [d] }
  | _ => none }
def fnExactAddBytesRow : OpenClaim := { program := "ytndknmchhhljcaa", sum := "b71ef23ea54903dba3c8580e50c5960e6928a4a8361b3eaa89d47c740dee7ce5", func := "loop.example/pub-g03335/laws.FnExactAddBytes", spec := "fnExactAddBytes", apart := false }
def FnExactAddBytesSaid : Prop := fnExactAddBytesRow.holds Try.pinned (OpenSpec.ofChange fnExactAddBytesSpec)

/-- ITS FALSE NEIGHBOUR: 'it returns false'. Refute it at one input. -/
def fnExactAddBytesWrong : ChangeSpec := { name := "fnExactAddBytes", fn := fun _ => fun
  | [d] => { results := [.lit (.bool false)], args := [d] }
  | _ => none }
def FnExactAddBytesWrongFalsely : Prop := fnExactAddBytesRow.holds Try.pinned (OpenSpec.ofChange fnExactAddBytesWrong)

/-- 'laws.FnExactAddUint24': WHATEVER THE INPUT: true; the input reads as it did. -/
def fnExactAddUint24Spec : ChangeSpec := { name := "fnExactAddUint24", fn := fun _ => fun
  | [d] => { results := [.lit (.bool true)], args := [d] }
  | _ => none }
def fnExactAddUint24Row : OpenClaim := { program := "ytndknmchhhljcaa", sum := "b71ef23ea54903dba3c8580e50c5960e6928a4a8361b3eaa89d47c740dee7ce5", func := "loop.example/pub-g03335/laws.FnExactAddUint24", spec := "fnExactAddUint24", apart := false }
def FnExactAddUint24Said : Prop := fnExactAddUint24Row.holds Try.pinned (OpenSpec.ofChange fnExactAddUint24Spec)

/-- ITS FALSE NEIGHBOUR: 'it returns false'. Refute it at one input. -/
def fnExactAddUint24Wrong : ChangeSpec := { name := "fnExactAddUint24", fn := fun _ => fun
  | [d] => { results := [.lit (.bool false)], args := [d] }
  | _ => none }
def FnExactAddUint24WrongFalsely : Prop := fnExactAddUint24Row.holds Try.pinned (OpenSpec.ofChange fnExactAddUint24Wrong)

/-- 'laws.FnExactAddUint48': WHATEVER THE INPUT: true; the input reads as it did. -/
def fnExactAddUint48Spec : ChangeSpec := { name := "fnExactAddUint48", fn := fun _ => fun
  | [d] => { results := [.lit (.bool true)], args := [d] }
  | _ => none }
def fnExactAddUint48Row : OpenClaim := { program := "ytndknmchhhljcaa", sum := "b71ef23ea54903dba3c8580e50c5960e6928a4a8361b3eaa89d47c740dee7ce5", func := "loop.example/pub-g03335/laws.FnExactAddUint48", spec := "fnExactAddUint48", apart := false }
def FnExactAddUint48Said : Prop := fnExactAddUint48Row.holds Try.pinned (OpenSpec.ofChange fnExactAddUint48Spec)

/-- ITS FALSE NEIGHBOUR: 'it returns false'. Refute it at one input. -/
def fnExactAddUint48Wrong : ChangeSpec := { name := "fnExactAddUint48", fn := fun _ => fun
  | [d] => { results := [.lit (.bool false)], args := [d] }
  | _ => none }
def FnExactAddUint48WrongFalsely : Prop := fnExactAddUint48Row.holds Try.pinned (OpenSpec.ofChange fnExactAddUint48Wrong)

/-- 'laws.FnExactAddUint8': WHATEVER THE INPUT: true; the input reads as it did. -/
def fnExactAddUint8Spec : ChangeSpec := { name := "fnExactAddUint8", fn := fun _ => fun
  | [d] => { results := [.lit (.bool true)], args := [d] }
  | _ => none }
def fnExactAddUint8Row : OpenClaim := { program := "ytndknmchhhljcaa", sum := "b71ef23ea54903dba3c8580e50c5960e6928a4a8361b3eaa89d47c740dee7ce5", func := "loop.example/pub-g03335/laws.FnExactAddUint8", spec := "fnExactAddUint8", apart := false }
def FnExactAddUint8Said : Prop := fnExactAddUint8Row.holds Try.pinned (OpenSpec.ofChange fnExactAddUint8Spec)

/-- ITS FALSE NEIGHBOUR: 'it returns false'. Refute it at one input. -/
def fnExactAddUint8Wrong : ChangeSpec := { name := "fnExactAddUint8", fn := fun _ => fun
  | [d] => { results := [.lit (.bool false)], args := [d] }
  | _ => none }
def FnExactAddUint8WrongFalsely : Prop := fnExactAddUint8Row.holds Try.pinned (OpenSpec.ofChange fnExactAddUint8Wrong)

/-- 'laws.FnBackUint24': WHATEVER THE INPUT: true; the input reads as it did. -/
def fnBackUint24Spec : ChangeSpec := { name := "fnBackUint24", fn := fun _ => fun
  | [d1, d2] => { results := [.lit (.bool true)], args := [d1, d2] }
  | _ => none }
def fnBackUint24Row : OpenClaim := { program := "ytndknmchhhljcaa", sum := "b71ef23ea54903dba3c8580e50c5960e6928a4a8361b3eaa89d47c740dee7ce5", func := "loop.example/pub-g03335/laws.FnBackUint24", spec := "fnBackUint24", apart := false }
def FnBackUint24Said : Prop := fnBackUint24Row.holds Try.pinned (OpenSpec.ofChange fnBackUint24Spec)

/-- ITS FALSE NEIGHBOUR: 'it returns false'. Refute it at one input. -/
def fnBackUint24Wrong : ChangeSpec := { name := "fnBackUint24", fn := fun _ => fun
  | [d1, d2] => { results := [.lit (.bool false)], args := [d1, d2] }
  | _ => none }
def FnBackUint24WrongFalsely : Prop := fnBackUint24Row.holds Try.pinned (OpenSpec.ofChange fnBackUint24Wrong)

/-- 'laws.FnBackUint48': WHATEVER THE INPUT: true; the input reads as it did. -/
def fnBackUint48Spec : ChangeSpec := { name := "fnBackUint48", fn := fun _ => fun
  | [d1, d2] => { results := [.lit (.bool true)], args := [d1, d2] }
  | _ => none }
def fnBackUint48Row : OpenClaim := { program := "ytndknmchhhljcaa", sum := "b71ef23ea54903dba3c8580e50c5960e6928a4a8361b3eaa89d47c740dee7ce5", func := "loop.example/pub-g03335/laws.FnBackUint48", spec := "fnBackUint48", apart := false }
def FnBackUint48Said : Prop := fnBackUint48Row.holds Try.pinned (OpenSpec.ofChange fnBackUint48Spec)

/-- ITS FALSE NEIGHBOUR: 'it returns false'. Refute it at one input. -/
def fnBackUint48Wrong : ChangeSpec := { name := "fnBackUint48", fn := fun _ => fun
  | [d1, d2] => { results := [.lit (.bool false)], args := [d1, d2] }
  | _ => none }
def FnBackUint48WrongFalsely : Prop := fnBackUint48Row.holds Try.pinned (OpenSpec.ofChange fnBackUint48Wrong)

/-- 'laws.FnBackUint8': WHATEVER THE INPUT: true; the input reads as it did. -/
def fnBackUint8Spec : ChangeSpec := { name := "fnBackUint8", fn := fun _ => fun
  | [d1, d2] => { results := [.lit (.bool true)], args := [d1, d2] }
  | _ => none }
def fnBackUint8Row : OpenClaim := { program := "ytndknmchhhljcaa", sum := "b71ef23ea54903dba3c8580e50c5960e6928a4a8361b3eaa89d47c740dee7ce5", func := "loop.example/pub-g03335/laws.FnBackUint8", spec := "fnBackUint8", apart := false }
def FnBackUint8Said : Prop := fnBackUint8Row.holds Try.pinned (OpenSpec.ofChange fnBackUint8Spec)

/-- ITS FALSE NEIGHBOUR: 'it returns false'. Refute it at one input. -/
def fnBackUint8Wrong : ChangeSpec := { name := "fnBackUint8", fn := fun _ => fun
  | [d1, d2] => { results := [.lit (.bool false)], args := [d1, d2] }
  | _ => none }
def FnBackUint8WrongFalsely : Prop := fnBackUint8Row.holds Try.pinned (OpenSpec.ofChange fnBackUint8Wrong)

/-- 'laws.FnAddNull': WHATEVER THE INPUT: true; the input reads as it did. -/
def fnAddNullSpec : ChangeSpec := { name := "fnAddNull", fn := fun _ => fun
  | [d] => { results := [.lit (.bool true)], args := [d] }
  | _ => none }
def fnAddNullRow : OpenClaim := { program := "ytndknmchhhljcaa", sum := "b71ef23ea54903dba3c8580e50c5960e6928a4a8361b3eaa89d47c740dee7ce5", func := "loop.example/pub-g03335/laws.FnAddNull", spec := "fnAddNull", apart := false }
def FnAddNullSaid : Prop := fnAddNullRow.holds Try.pinned (OpenSpec.ofChange fnAddNullSpec)

/-- ITS FALSE NEIGHBOUR: 'it returns false'. Refute it at one input. -/
def fnAddNullWrong : ChangeSpec := { name := "fnAddNull", fn := fun _ => fun
  | [d] => { results := [.lit (.bool false)], args := [d] }
  | _ => none }
def FnAddNullWrongFalsely : Prop := fnAddNullRow.holds Try.pinned (OpenSpec.ofChange fnAddNullWrong)

/-- 'laws.FnExactAdd16Prefixed': WHATEVER THE INPUT: true; the input reads as it did. -/
def fnExactAdd16PrefixedSpec : ChangeSpec := { name := "fnExactAdd16Prefixed", fn := fun _ => fun
  | [d] => { results := [.lit (.bool true)], args := [d] }
  | _ => none }
def fnExactAdd16PrefixedRow : OpenClaim := { program := "ytndknmchhhljcaa", sum := "b71ef23ea54903dba3c8580e50c5960e6928a4a8361b3eaa89d47c740dee7ce5", func := "loop.example/pub-g03335/laws.FnExactAdd16Prefixed", spec := "fnExactAdd16Prefixed", unfollowed := true, recurses := true, apart := false }
def FnExactAdd16PrefixedSaid : Prop := fnExactAdd16PrefixedRow.holds Try.pinned (OpenSpec.ofChange fnExactAdd16PrefixedSpec)

/-- ITS FALSE NEIGHBOUR: 'it returns false'. Refute it at one input. -/
def fnExactAdd16PrefixedWrong : ChangeSpec := { name := "fnExactAdd16Prefixed", fn := fun _ => fun
  | [d] => { results := [.lit (.bool false)], args := [d] }
  | _ => none }
def FnExactAdd16PrefixedWrongFalsely : Prop := fnExactAdd16PrefixedRow.holds Try.pinned (OpenSpec.ofChange fnExactAdd16PrefixedWrong)

/-- 'laws.FnExactAdd32Prefixed': WHATEVER THE INPUT: true; the input reads as it did. -/
def fnExactAdd32PrefixedSpec : ChangeSpec := { name := "fnExactAdd32Prefixed", fn := fun _ => fun
  | [d] => { results := [.lit (.bool true)], args := [d] }
  | _ => none }
def fnExactAdd32PrefixedRow : OpenClaim := { program := "ytndknmchhhljcaa", sum := "b71ef23ea54903dba3c8580e50c5960e6928a4a8361b3eaa89d47c740dee7ce5", func := "loop.example/pub-g03335/laws.FnExactAdd32Prefixed", spec := "fnExactAdd32Prefixed", unfollowed := true, recurses := true, apart := false }
def FnExactAdd32PrefixedSaid : Prop := fnExactAdd32PrefixedRow.holds Try.pinned (OpenSpec.ofChange fnExactAdd32PrefixedSpec)

/-- ITS FALSE NEIGHBOUR: 'it returns false'. Refute it at one input. -/
def fnExactAdd32PrefixedWrong : ChangeSpec := { name := "fnExactAdd32Prefixed", fn := fun _ => fun
  | [d] => { results := [.lit (.bool false)], args := [d] }
  | _ => none }
def FnExactAdd32PrefixedWrongFalsely : Prop := fnExactAdd32PrefixedRow.holds Try.pinned (OpenSpec.ofChange fnExactAdd32PrefixedWrong)

/-- 'laws.FnExactAddBool': WHATEVER THE INPUT: true; the input reads as it did. -/
def fnExactAddBoolSpec : ChangeSpec := { name := "fnExactAddBool", fn := fun _ => fun
  | [d] => { results := [.lit (.bool true)], args := [d] }
  | _ => none }
def fnExactAddBoolRow : OpenClaim := { program := "ytndknmchhhljcaa", sum := "b71ef23ea54903dba3c8580e50c5960e6928a4a8361b3eaa89d47c740dee7ce5", func := "loop.example/pub-g03335/laws.FnExactAddBool", spec := "fnExactAddBool", unfollowed := true, recurses := true, apart := false }
def FnExactAddBoolSaid : Prop := fnExactAddBoolRow.holds Try.pinned (OpenSpec.ofChange fnExactAddBoolSpec)

/-- ITS FALSE NEIGHBOUR: 'it returns false'. Refute it at one input. -/
def fnExactAddBoolWrong : ChangeSpec := { name := "fnExactAddBool", fn := fun _ => fun
  | [d] => { results := [.lit (.bool false)], args := [d] }
  | _ => none }
def FnExactAddBoolWrongFalsely : Prop := fnExactAddBoolRow.holds Try.pinned (OpenSpec.ofChange fnExactAddBoolWrong)

/-- 'laws.FnExactAddBits': WHATEVER THE INPUT: true; the input reads as it did. -/
def fnExactAddBitsSpec : ChangeSpec := { name := "fnExactAddBits", fn := fun _ => fun
  | [d] => { results := [.lit (.bool true)], args := [d] }
  | _ => none }
def fnExactAddBitsRow : OpenClaim := { program := "ytndknmchhhljcaa", sum := "b71ef23ea54903dba3c8580e50c5960e6928a4a8361b3eaa89d47c740dee7ce5", func := "loop.example/pub-g03335/laws.FnExactAddBits", spec := "fnExactAddBits", unfollowed := true, recurses := true, apart := false }
def FnExactAddBitsSaid : Prop := fnExactAddBitsRow.holds Try.pinned (OpenSpec.ofChange fnExactAddBitsSpec)

/-- ITS FALSE NEIGHBOUR: 'it returns false'. Refute it at one input. -/
def fnExactAddBitsWrong : ChangeSpec := { name := "fnExactAddBits", fn := fun _ => fun
  | [d] => { results := [.lit (.bool false)], args := [d] }
  | _ => none }
def FnExactAddBitsWrongFalsely : Prop := fnExactAddBitsRow.holds Try.pinned (OpenSpec.ofChange fnExactAddBitsWrong)

/-- 'laws.FnExactAddUint': WHATEVER THE INPUT: true; the input reads as it did. -/
def fnExactAddUintSpec : ChangeSpec := { name := "fnExactAddUint", fn := fun _ => fun
  | [d] => { results := [.lit (.bool true)], args := [d] }
  | _ => none }
def fnExactAddUintRow : OpenClaim := { program := "ytndknmchhhljcaa", sum := "b71ef23ea54903dba3c8580e50c5960e6928a4a8361b3eaa89d47c740dee7ce5", func := "loop.example/pub-g03335/laws.FnExactAddUint", spec := "fnExactAddUint", unfollowed := true, recurses := true, apart := false }
def FnExactAddUintSaid : Prop := fnExactAddUintRow.holds Try.pinned (OpenSpec.ofChange fnExactAddUintSpec)

/-- ITS FALSE NEIGHBOUR: 'it returns false'. Refute it at one input. -/
def fnExactAddUintWrong : ChangeSpec := { name := "fnExactAddUint", fn := fun _ => fun
  | [d] => { results := [.lit (.bool false)], args := [d] }
  | _ => none }
def FnExactAddUintWrongFalsely : Prop := fnExactAddUintRow.holds Try.pinned (OpenSpec.ofChange fnExactAddUintWrong)

/-- 'laws.FnExactAddEnum': WHATEVER THE INPUT: true; the input reads as it did. -/
def fnExactAddEnumSpec : ChangeSpec := { name := "fnExactAddEnum", fn := fun _ => fun
  | [d] => { results := [.lit (.bool true)], args := [d] }
  | _ => none }
def fnExactAddEnumRow : OpenClaim := { program := "ytndknmchhhljcaa", sum := "b71ef23ea54903dba3c8580e50c5960e6928a4a8361b3eaa89d47c740dee7ce5", func := "loop.example/pub-g03335/laws.FnExactAddEnum", spec := "fnExactAddEnum", unfollowed := true, recurses := true, apart := false }
def FnExactAddEnumSaid : Prop := fnExactAddEnumRow.holds Try.pinned (OpenSpec.ofChange fnExactAddEnumSpec)

/-- ITS FALSE NEIGHBOUR: 'it returns false'. Refute it at one input. -/
def fnExactAddEnumWrong : ChangeSpec := { name := "fnExactAddEnum", fn := fun _ => fun
  | [d] => { results := [.lit (.bool false)], args := [d] }
  | _ => none }
def FnExactAddEnumWrongFalsely : Prop := fnExactAddEnumRow.holds Try.pinned (OpenSpec.ofChange fnExactAddEnumWrong)

/-- 'laws.FnAddTagged': WHATEVER THE INPUT: true; the input reads as it did. -/
def fnAddTaggedSpec : ChangeSpec := { name := "fnAddTagged", fn := fun _ => fun
  | [d] => { results := [.lit (.bool true)], args := [d] }
  | _ => none }
def fnAddTaggedRow : OpenClaim := { program := "ytndknmchhhljcaa", sum := "b71ef23ea54903dba3c8580e50c5960e6928a4a8361b3eaa89d47c740dee7ce5", func := "loop.example/pub-g03335/laws.FnAddTagged", spec := "fnAddTagged", unfollowed := true, recurses := true, apart := false }
def FnAddTaggedSaid : Prop := fnAddTaggedRow.holds Try.pinned (OpenSpec.ofChange fnAddTaggedSpec)

/-- ITS FALSE NEIGHBOUR: 'it returns false'. Refute it at one input. -/
def fnAddTaggedWrong : ChangeSpec := { name := "fnAddTagged", fn := fun _ => fun
  | [d] => { results := [.lit (.bool false)], args := [d] }
  | _ => none }
def FnAddTaggedWrongFalsely : Prop := fnAddTaggedRow.holds Try.pinned (OpenSpec.ofChange fnAddTaggedWrong)

/-- 'laws.FnBack16Prefixed': WHATEVER THE INPUT: true; the input reads as it did. -/
def fnBack16PrefixedSpec : ChangeSpec := { name := "fnBack16Prefixed", fn := fun _ => fun
  | [d1, d2] => { results := [.lit (.bool true)], args := [d1, d2] }
  | _ => none }
def fnBack16PrefixedRow : OpenClaim := { program := "ytndknmchhhljcaa", sum := "b71ef23ea54903dba3c8580e50c5960e6928a4a8361b3eaa89d47c740dee7ce5", func := "loop.example/pub-g03335/laws.FnBack16Prefixed", spec := "fnBack16Prefixed", unfollowed := true, recurses := true, apart := false }
def FnBack16PrefixedSaid : Prop := fnBack16PrefixedRow.holds Try.pinned (OpenSpec.ofChange fnBack16PrefixedSpec)

/-- ITS FALSE NEIGHBOUR: 'it returns false'. Refute it at one input. -/
def fnBack16PrefixedWrong : ChangeSpec := { name := "fnBack16Prefixed", fn := fun _ => fun
  | [d1, d2] => { results := [.lit (.bool false)], args := [d1, d2] }
  | _ => none }
def FnBack16PrefixedWrongFalsely : Prop := fnBack16PrefixedRow.holds Try.pinned (OpenSpec.ofChange fnBack16PrefixedWrong)

/-- 'laws.FnBack24Prefixed': WHATEVER THE INPUT: true; the input reads as it did. -/
def fnBack24PrefixedSpec : ChangeSpec := { name := "fnBack24Prefixed", fn := fun _ => fun
  | [d1, d2] => { results := [.lit (.bool true)], args := [d1, d2] }
  | _ => none }
def fnBack24PrefixedRow : OpenClaim := { program := "ytndknmchhhljcaa", sum := "b71ef23ea54903dba3c8580e50c5960e6928a4a8361b3eaa89d47c740dee7ce5", func := "loop.example/pub-g03335/laws.FnBack24Prefixed", spec := "fnBack24Prefixed", unfollowed := true, recurses := true, apart := false }
def FnBack24PrefixedSaid : Prop := fnBack24PrefixedRow.holds Try.pinned (OpenSpec.ofChange fnBack24PrefixedSpec)

/-- ITS FALSE NEIGHBOUR: 'it returns false'. Refute it at one input. -/
def fnBack24PrefixedWrong : ChangeSpec := { name := "fnBack24Prefixed", fn := fun _ => fun
  | [d1, d2] => { results := [.lit (.bool false)], args := [d1, d2] }
  | _ => none }
def FnBack24PrefixedWrongFalsely : Prop := fnBack24PrefixedRow.holds Try.pinned (OpenSpec.ofChange fnBack24PrefixedWrong)

/-- 'laws.FnBack8Prefixed': WHATEVER THE INPUT: true; the input reads as it did. -/
def fnBack8PrefixedSpec : ChangeSpec := { name := "fnBack8Prefixed", fn := fun _ => fun
  | [d1, d2] => { results := [.lit (.bool true)], args := [d1, d2] }
  | _ => none }
def fnBack8PrefixedRow : OpenClaim := { program := "ytndknmchhhljcaa", sum := "b71ef23ea54903dba3c8580e50c5960e6928a4a8361b3eaa89d47c740dee7ce5", func := "loop.example/pub-g03335/laws.FnBack8Prefixed", spec := "fnBack8Prefixed", unfollowed := true, recurses := true, apart := false }
def FnBack8PrefixedSaid : Prop := fnBack8PrefixedRow.holds Try.pinned (OpenSpec.ofChange fnBack8PrefixedSpec)

/-- ITS FALSE NEIGHBOUR: 'it returns false'. Refute it at one input. -/
def fnBack8PrefixedWrong : ChangeSpec := { name := "fnBack8Prefixed", fn := fun _ => fun
  | [d1, d2] => { results := [.lit (.bool false)], args := [d1, d2] }
  | _ => none }
def FnBack8PrefixedWrongFalsely : Prop := fnBack8PrefixedRow.holds Try.pinned (OpenSpec.ofChange fnBack8PrefixedWrong)

/-- 'laws.FnAgainASN1': WHATEVER THE INPUT: true; the input reads as it did. -/
def fnAgainASN1Spec : ChangeSpec := { name := "fnAgainASN1", fn := fun _ => fun
  | [d] => { results := [.lit (.bool true)], args := [d] }
  | _ => none }
def fnAgainASN1Row : OpenClaim := { program := "ytndknmchhhljcaa", sum := "b71ef23ea54903dba3c8580e50c5960e6928a4a8361b3eaa89d47c740dee7ce5", func := "loop.example/pub-g03335/laws.FnAgainASN1", spec := "fnAgainASN1", unfollowed := true, recurses := true, apart := false }
def FnAgainASN1Said : Prop := fnAgainASN1Row.holds Try.pinned (OpenSpec.ofChange fnAgainASN1Spec)

/-- ITS FALSE NEIGHBOUR: 'it returns false'. Refute it at one input. -/
def fnAgainASN1Wrong : ChangeSpec := { name := "fnAgainASN1", fn := fun _ => fun
  | [d] => { results := [.lit (.bool false)], args := [d] }
  | _ => none }
def FnAgainASN1WrongFalsely : Prop := fnAgainASN1Row.holds Try.pinned (OpenSpec.ofChange fnAgainASN1Wrong)

/-- 'laws.FnCutShort': WHATEVER THE INPUT: true; the input reads as it did. -/
def fnCutShortSpec : ChangeSpec := { name := "fnCutShort", fn := fun _ => fun
  | [d1, d2, d3] => { results := [.lit (.bool true)], args := [d1, d2, d3] }
  | _ => none }
def fnCutShortRow : OpenClaim := { program := "ytndknmchhhljcaa", sum := "b71ef23ea54903dba3c8580e50c5960e6928a4a8361b3eaa89d47c740dee7ce5", func := "loop.example/pub-g03335/laws.FnCutShort", spec := "fnCutShort", unfollowed := true, recurses := true, apart := false }
def FnCutShortSaid : Prop := fnCutShortRow.holds Try.pinned (OpenSpec.ofChange fnCutShortSpec)

/-- ITS FALSE NEIGHBOUR: 'it returns false'. Refute it at one input. -/
def fnCutShortWrong : ChangeSpec := { name := "fnCutShort", fn := fun _ => fun
  | [d1, d2, d3] => { results := [.lit (.bool false)], args := [d1, d2, d3] }
  | _ => none }
def FnCutShortWrongFalsely : Prop := fnCutShortRow.holds Try.pinned (OpenSpec.ofChange fnCutShortWrong)

/-- 'laws.FnBackBool': WHATEVER THE INPUT: true; the input reads as it did. -/
def fnBackBoolSpec : ChangeSpec := { name := "fnBackBool", fn := fun _ => fun
  | [d1, d2] => { results := [.lit (.bool true)], args := [d1, d2] }
  | _ => none }
def fnBackBoolRow : OpenClaim := { program := "ytndknmchhhljcaa", sum := "b71ef23ea54903dba3c8580e50c5960e6928a4a8361b3eaa89d47c740dee7ce5", func := "loop.example/pub-g03335/laws.FnBackBool", spec := "fnBackBool", unfollowed := true, recurses := true, apart := false }
def FnBackBoolSaid : Prop := fnBackBoolRow.holds Try.pinned (OpenSpec.ofChange fnBackBoolSpec)

/-- ITS FALSE NEIGHBOUR: 'it returns false'. Refute it at one input. -/
def fnBackBoolWrong : ChangeSpec := { name := "fnBackBool", fn := fun _ => fun
  | [d1, d2] => { results := [.lit (.bool false)], args := [d1, d2] }
  | _ => none }
def FnBackBoolWrongFalsely : Prop := fnBackBoolRow.holds Try.pinned (OpenSpec.ofChange fnBackBoolWrong)

/-- 'laws.FnBackBits': WHATEVER THE INPUT: true; the input reads as it did. -/
def fnBackBitsSpec : ChangeSpec := { name := "fnBackBits", fn := fun _ => fun
  | [d1, d2] => { results := [.lit (.bool true)], args := [d1, d2] }
  | _ => none }
def fnBackBitsRow : OpenClaim := { program := "ytndknmchhhljcaa", sum := "b71ef23ea54903dba3c8580e50c5960e6928a4a8361b3eaa89d47c740dee7ce5", func := "loop.example/pub-g03335/laws.FnBackBits", spec := "fnBackBits", unfollowed := true, recurses := true, apart := false }
def FnBackBitsSaid : Prop := fnBackBitsRow.holds Try.pinned (OpenSpec.ofChange fnBackBitsSpec)

/-- ITS FALSE NEIGHBOUR: 'it returns false'. Refute it at one input. -/
def fnBackBitsWrong : ChangeSpec := { name := "fnBackBits", fn := fun _ => fun
  | [d1, d2] => { results := [.lit (.bool false)], args := [d1, d2] }
  | _ => none }
def FnBackBitsWrongFalsely : Prop := fnBackBitsRow.holds Try.pinned (OpenSpec.ofChange fnBackBitsWrong)

/-- 'laws.FnBackInt64WithTag': WHATEVER THE INPUT: true; the input reads as it did. -/
def fnBackInt64WithTagSpec : ChangeSpec := { name := "fnBackInt64WithTag", fn := fun _ => fun
  | [d1, d2, d3, d4] => { results := [.lit (.bool true)], args := [d1, d2, d3, d4] }
  | _ => none }
def fnBackInt64WithTagRow : OpenClaim := { program := "ytndknmchhhljcaa", sum := "b71ef23ea54903dba3c8580e50c5960e6928a4a8361b3eaa89d47c740dee7ce5", func := "loop.example/pub-g03335/laws.FnBackInt64WithTag", spec := "fnBackInt64WithTag", unfollowed := true, recurses := true, apart := false }
def FnBackInt64WithTagSaid : Prop := fnBackInt64WithTagRow.holds Try.pinned (OpenSpec.ofChange fnBackInt64WithTagSpec)

/-- ITS FALSE NEIGHBOUR: 'it returns false'. Refute it at one input. -/
def fnBackInt64WithTagWrong : ChangeSpec := { name := "fnBackInt64WithTag", fn := fun _ => fun
  | [d1, d2, d3, d4] => { results := [.lit (.bool false)], args := [d1, d2, d3, d4] }
  | _ => none }
def FnBackInt64WithTagWrongFalsely : Prop := fnBackInt64WithTagRow.holds Try.pinned (OpenSpec.ofChange fnBackInt64WithTagWrong)

/-- 'laws.FnBackOptionalOctets': WHATEVER THE INPUT: true; the input reads as it did. -/
def fnBackOptionalOctetsSpec : ChangeSpec := { name := "fnBackOptionalOctets", fn := fun _ => fun
  | [d1, d2, d3, d4] => { results := [.lit (.bool true)], args := [d1, d2, d3, d4] }
  | _ => none }
def fnBackOptionalOctetsRow : OpenClaim := { program := "ytndknmchhhljcaa", sum := "b71ef23ea54903dba3c8580e50c5960e6928a4a8361b3eaa89d47c740dee7ce5", func := "loop.example/pub-g03335/laws.FnBackOptionalOctets", spec := "fnBackOptionalOctets", unfollowed := true, recurses := true, apart := false }
def FnBackOptionalOctetsSaid : Prop := fnBackOptionalOctetsRow.holds Try.pinned (OpenSpec.ofChange fnBackOptionalOctetsSpec)

/-- ITS FALSE NEIGHBOUR: 'it returns false'. Refute it at one input. -/
def fnBackOptionalOctetsWrong : ChangeSpec := { name := "fnBackOptionalOctets", fn := fun _ => fun
  | [d1, d2, d3, d4] => { results := [.lit (.bool false)], args := [d1, d2, d3, d4] }
  | _ => none }
def FnBackOptionalOctetsWrongFalsely : Prop := fnBackOptionalOctetsRow.holds Try.pinned (OpenSpec.ofChange fnBackOptionalOctetsWrong)

/-- 'laws.FnBackEnum': WHATEVER THE INPUT: true; the input reads as it did. -/
def fnBackEnumSpec : ChangeSpec := { name := "fnBackEnum", fn := fun _ => fun
  | [d1, d2] => { results := [.lit (.bool true)], args := [d1, d2] }
  | _ => none }
def fnBackEnumRow : OpenClaim := { program := "ytndknmchhhljcaa", sum := "b71ef23ea54903dba3c8580e50c5960e6928a4a8361b3eaa89d47c740dee7ce5", func := "loop.example/pub-g03335/laws.FnBackEnum", spec := "fnBackEnum", unfollowed := true, recurses := true, apart := false }
def FnBackEnumSaid : Prop := fnBackEnumRow.holds Try.pinned (OpenSpec.ofChange fnBackEnumSpec)

/-- ITS FALSE NEIGHBOUR: 'it returns false'. Refute it at one input. -/
def fnBackEnumWrong : ChangeSpec := { name := "fnBackEnum", fn := fun _ => fun
  | [d1, d2] => { results := [.lit (.bool false)], args := [d1, d2] }
  | _ => none }
def FnBackEnumWrongFalsely : Prop := fnBackEnumRow.holds Try.pinned (OpenSpec.ofChange fnBackEnumWrong)

/-- 'laws.FnBackUint': WHATEVER THE INPUT: true; the input reads as it did. -/
def fnBackUintSpec : ChangeSpec := { name := "fnBackUint", fn := fun _ => fun
  | [d1, d2] => { results := [.lit (.bool true)], args := [d1, d2] }
  | _ => none }
def fnBackUintRow : OpenClaim := { program := "ytndknmchhhljcaa", sum := "b71ef23ea54903dba3c8580e50c5960e6928a4a8361b3eaa89d47c740dee7ce5", func := "loop.example/pub-g03335/laws.FnBackUint", spec := "fnBackUint", unfollowed := true, recurses := true, apart := false }
def FnBackUintSaid : Prop := fnBackUintRow.holds Try.pinned (OpenSpec.ofChange fnBackUintSpec)

/-- ITS FALSE NEIGHBOUR: 'it returns false'. Refute it at one input. -/
def fnBackUintWrong : ChangeSpec := { name := "fnBackUint", fn := fun _ => fun
  | [d1, d2] => { results := [.lit (.bool false)], args := [d1, d2] }
  | _ => none }
def FnBackUintWrongFalsely : Prop := fnBackUintRow.holds Try.pinned (OpenSpec.ofChange fnBackUintWrong)

/-- 'laws.FnBackInt64': WHATEVER THE INPUT: true; the input reads as it did. -/
def fnBackInt64Spec : ChangeSpec := { name := "fnBackInt64", fn := fun _ => fun
  | [d1, d2] => { results := [.lit (.bool true)], args := [d1, d2] }
  | _ => none }
def fnBackInt64Row : OpenClaim := { program := "ytndknmchhhljcaa", sum := "b71ef23ea54903dba3c8580e50c5960e6928a4a8361b3eaa89d47c740dee7ce5", func := "loop.example/pub-g03335/laws.FnBackInt64", spec := "fnBackInt64", unfollowed := true, recurses := true, apart := false }
def FnBackInt64Said : Prop := fnBackInt64Row.holds Try.pinned (OpenSpec.ofChange fnBackInt64Spec)

/-- ITS FALSE NEIGHBOUR: 'it returns false'. Refute it at one input. -/
def fnBackInt64Wrong : ChangeSpec := { name := "fnBackInt64", fn := fun _ => fun
  | [d1, d2] => { results := [.lit (.bool false)], args := [d1, d2] }
  | _ => none }
def FnBackInt64WrongFalsely : Prop := fnBackInt64Row.holds Try.pinned (OpenSpec.ofChange fnBackInt64Wrong)

/-- 'laws.FnBackOID': WHATEVER THE INPUT: true; the input reads as it did. -/
def fnBackOIDSpec : ChangeSpec := { name := "fnBackOID", fn := fun _ => fun
  | [d1, d2] => { results := [.lit (.bool true)], args := [d1, d2] }
  | _ => none }
def fnBackOIDRow : OpenClaim := { program := "ytndknmchhhljcaa", sum := "b71ef23ea54903dba3c8580e50c5960e6928a4a8361b3eaa89d47c740dee7ce5", func := "loop.example/pub-g03335/laws.FnBackOID", spec := "fnBackOID", unfollowed := true, recurses := true, apart := false }
def FnBackOIDSaid : Prop := fnBackOIDRow.holds Try.pinned (OpenSpec.ofChange fnBackOIDSpec)

/-- ITS FALSE NEIGHBOUR: 'it returns false'. Refute it at one input. -/
def fnBackOIDWrong : ChangeSpec := { name := "fnBackOID", fn := fun _ => fun
  | [d1, d2] => { results := [.lit (.bool false)], args := [d1, d2] }
  | _ => none }
def FnBackOIDWrongFalsely : Prop := fnBackOIDRow.holds Try.pinned (OpenSpec.ofChange fnBackOIDWrong)

/- THE SECOND FORM. 'bulk': how many values and letters a reading holds, each counted each time it is reached (what is shared counts as often as it is met; a slice's spare places count too). A statement '..UptoSaid' is the law's where the arguments, and the package variables that the reading takes, are together of bulk at most 1048576: NARROWER than '..Said'. Prove '..Said' where nothing that the law and all that it calls make is longer than what came in: it says more and counts as full. Else prove '..UptoSaid'. A law counts once. -/
mutual
def uptoBulk {H : Type} : DataW H → Nat
  | .lit (.string bytes) => bytes.length + 1
  | .lit _ => 1
  | .nil => 1
  | .ptr d => uptoBulk d + 1
  | .slice elems spare => uptoBulkAll elems + uptoBulkAll spare + 1
  | .agg parts => uptoBulkAll parts + 1
  | .iface _ d => uptoBulk d + 1
  | .map entries => uptoBulkEntries entries + 1
  | .held _ => 1
def uptoBulkAll {H : Type} : List (DataW H) → Nat
  | [] => 0
  | d :: r => uptoBulk d + uptoBulkAll r
def uptoBulkEntries {H : Type} : List (Lit × DataW H) → Nat
  | [] => 0
  | x :: r => uptoBulkEntry x + uptoBulkEntries r
def uptoBulkEntry {H : Type} : Lit × DataW H → Nat
  | (.string bytes, d) => bytes.length + uptoBulk d + 1
  | (_, d) => uptoBulk d + 1
 end
def uptoSmall : (H : Type) → List (DataW H) → Bool := fun _ ds => decide (uptoBulkAll ds ≤ 1048576)
def OpenSpec.upto (s : _root_.Go.ChangeSpec) : _root_.Go.OpenSpec := { _root_.Go.OpenSpec.ofChange s with cond := some uptoSmall }

/-- 'laws.FnExactAddBytes', WHERE WHAT IT READS IS OF BULK AT MOST 1048576: true; the input reads as it did. -/
def fnExactAddBytesUptoRow : OpenClaim := { program := "ytndknmchhhljcaa", sum := "b71ef23ea54903dba3c8580e50c5960e6928a4a8361b3eaa89d47c740dee7ce5", func := "loop.example/pub-g03335/laws.FnExactAddBytes", spec := "fnExactAddBytes", apart := false, narrowed := true }
def FnExactAddBytesUptoSaid : Prop := fnExactAddBytesUptoRow.holds Try.pinned (OpenSpec.upto fnExactAddBytesSpec)

/-- 'laws.FnExactAddUint24', WHERE WHAT IT READS IS OF BULK AT MOST 1048576: true; the input reads as it did. -/
def fnExactAddUint24UptoRow : OpenClaim := { program := "ytndknmchhhljcaa", sum := "b71ef23ea54903dba3c8580e50c5960e6928a4a8361b3eaa89d47c740dee7ce5", func := "loop.example/pub-g03335/laws.FnExactAddUint24", spec := "fnExactAddUint24", apart := false, narrowed := true }
def FnExactAddUint24UptoSaid : Prop := fnExactAddUint24UptoRow.holds Try.pinned (OpenSpec.upto fnExactAddUint24Spec)

/-- 'laws.FnExactAddUint48', WHERE WHAT IT READS IS OF BULK AT MOST 1048576: true; the input reads as it did. -/
def fnExactAddUint48UptoRow : OpenClaim := { program := "ytndknmchhhljcaa", sum := "b71ef23ea54903dba3c8580e50c5960e6928a4a8361b3eaa89d47c740dee7ce5", func := "loop.example/pub-g03335/laws.FnExactAddUint48", spec := "fnExactAddUint48", apart := false, narrowed := true }
def FnExactAddUint48UptoSaid : Prop := fnExactAddUint48UptoRow.holds Try.pinned (OpenSpec.upto fnExactAddUint48Spec)

/-- 'laws.FnExactAddUint8', WHERE WHAT IT READS IS OF BULK AT MOST 1048576: true; the input reads as it did. -/
def fnExactAddUint8UptoRow : OpenClaim := { program := "ytndknmchhhljcaa", sum := "b71ef23ea54903dba3c8580e50c5960e6928a4a8361b3eaa89d47c740dee7ce5", func := "loop.example/pub-g03335/laws.FnExactAddUint8", spec := "fnExactAddUint8", apart := false, narrowed := true }
def FnExactAddUint8UptoSaid : Prop := fnExactAddUint8UptoRow.holds Try.pinned (OpenSpec.upto fnExactAddUint8Spec)

/-- 'laws.FnBackUint24', WHERE WHAT IT READS IS OF BULK AT MOST 1048576: true; the input reads as it did. -/
def fnBackUint24UptoRow : OpenClaim := { program := "ytndknmchhhljcaa", sum := "b71ef23ea54903dba3c8580e50c5960e6928a4a8361b3eaa89d47c740dee7ce5", func := "loop.example/pub-g03335/laws.FnBackUint24", spec := "fnBackUint24", apart := false, narrowed := true }
def FnBackUint24UptoSaid : Prop := fnBackUint24UptoRow.holds Try.pinned (OpenSpec.upto fnBackUint24Spec)

/-- 'laws.FnBackUint48', WHERE WHAT IT READS IS OF BULK AT MOST 1048576: true; the input reads as it did. -/
def fnBackUint48UptoRow : OpenClaim := { program := "ytndknmchhhljcaa", sum := "b71ef23ea54903dba3c8580e50c5960e6928a4a8361b3eaa89d47c740dee7ce5", func := "loop.example/pub-g03335/laws.FnBackUint48", spec := "fnBackUint48", apart := false, narrowed := true }
def FnBackUint48UptoSaid : Prop := fnBackUint48UptoRow.holds Try.pinned (OpenSpec.upto fnBackUint48Spec)

/-- 'laws.FnBackUint8', WHERE WHAT IT READS IS OF BULK AT MOST 1048576: true; the input reads as it did. -/
def fnBackUint8UptoRow : OpenClaim := { program := "ytndknmchhhljcaa", sum := "b71ef23ea54903dba3c8580e50c5960e6928a4a8361b3eaa89d47c740dee7ce5", func := "loop.example/pub-g03335/laws.FnBackUint8", spec := "fnBackUint8", apart := false, narrowed := true }
def FnBackUint8UptoSaid : Prop := fnBackUint8UptoRow.holds Try.pinned (OpenSpec.upto fnBackUint8Spec)

/-- 'laws.FnAddNull', WHERE WHAT IT READS IS OF BULK AT MOST 1048576: true; the input reads as it did. -/
def fnAddNullUptoRow : OpenClaim := { program := "ytndknmchhhljcaa", sum := "b71ef23ea54903dba3c8580e50c5960e6928a4a8361b3eaa89d47c740dee7ce5", func := "loop.example/pub-g03335/laws.FnAddNull", spec := "fnAddNull", apart := false, narrowed := true }
def FnAddNullUptoSaid : Prop := fnAddNullUptoRow.holds Try.pinned (OpenSpec.upto fnAddNullSpec)

/-- 'laws.FnExactAdd16Prefixed', WHERE WHAT IT READS IS OF BULK AT MOST 1048576: true; the input reads as it did. -/
def fnExactAdd16PrefixedUptoRow : OpenClaim := { program := "ytndknmchhhljcaa", sum := "b71ef23ea54903dba3c8580e50c5960e6928a4a8361b3eaa89d47c740dee7ce5", func := "loop.example/pub-g03335/laws.FnExactAdd16Prefixed", spec := "fnExactAdd16Prefixed", unfollowed := true, recurses := true, apart := false, narrowed := true }
def FnExactAdd16PrefixedUptoSaid : Prop := fnExactAdd16PrefixedUptoRow.holds Try.pinned (OpenSpec.upto fnExactAdd16PrefixedSpec)

/-- 'laws.FnExactAdd32Prefixed', WHERE WHAT IT READS IS OF BULK AT MOST 1048576: true; the input reads as it did. -/
def fnExactAdd32PrefixedUptoRow : OpenClaim := { program := "ytndknmchhhljcaa", sum := "b71ef23ea54903dba3c8580e50c5960e6928a4a8361b3eaa89d47c740dee7ce5", func := "loop.example/pub-g03335/laws.FnExactAdd32Prefixed", spec := "fnExactAdd32Prefixed", unfollowed := true, recurses := true, apart := false, narrowed := true }
def FnExactAdd32PrefixedUptoSaid : Prop := fnExactAdd32PrefixedUptoRow.holds Try.pinned (OpenSpec.upto fnExactAdd32PrefixedSpec)

/-- 'laws.FnExactAddBool', WHERE WHAT IT READS IS OF BULK AT MOST 1048576: true; the input reads as it did. -/
def fnExactAddBoolUptoRow : OpenClaim := { program := "ytndknmchhhljcaa", sum := "b71ef23ea54903dba3c8580e50c5960e6928a4a8361b3eaa89d47c740dee7ce5", func := "loop.example/pub-g03335/laws.FnExactAddBool", spec := "fnExactAddBool", unfollowed := true, recurses := true, apart := false, narrowed := true }
def FnExactAddBoolUptoSaid : Prop := fnExactAddBoolUptoRow.holds Try.pinned (OpenSpec.upto fnExactAddBoolSpec)

/-- 'laws.FnExactAddBits', WHERE WHAT IT READS IS OF BULK AT MOST 1048576: true; the input reads as it did. -/
def fnExactAddBitsUptoRow : OpenClaim := { program := "ytndknmchhhljcaa", sum := "b71ef23ea54903dba3c8580e50c5960e6928a4a8361b3eaa89d47c740dee7ce5", func := "loop.example/pub-g03335/laws.FnExactAddBits", spec := "fnExactAddBits", unfollowed := true, recurses := true, apart := false, narrowed := true }
def FnExactAddBitsUptoSaid : Prop := fnExactAddBitsUptoRow.holds Try.pinned (OpenSpec.upto fnExactAddBitsSpec)

/-- 'laws.FnExactAddUint', WHERE WHAT IT READS IS OF BULK AT MOST 1048576: true; the input reads as it did. -/
def fnExactAddUintUptoRow : OpenClaim := { program := "ytndknmchhhljcaa", sum := "b71ef23ea54903dba3c8580e50c5960e6928a4a8361b3eaa89d47c740dee7ce5", func := "loop.example/pub-g03335/laws.FnExactAddUint", spec := "fnExactAddUint", unfollowed := true, recurses := true, apart := false, narrowed := true }
def FnExactAddUintUptoSaid : Prop := fnExactAddUintUptoRow.holds Try.pinned (OpenSpec.upto fnExactAddUintSpec)

/-- 'laws.FnExactAddEnum', WHERE WHAT IT READS IS OF BULK AT MOST 1048576: true; the input reads as it did. -/
def fnExactAddEnumUptoRow : OpenClaim := { program := "ytndknmchhhljcaa", sum := "b71ef23ea54903dba3c8580e50c5960e6928a4a8361b3eaa89d47c740dee7ce5", func := "loop.example/pub-g03335/laws.FnExactAddEnum", spec := "fnExactAddEnum", unfollowed := true, recurses := true, apart := false, narrowed := true }
def FnExactAddEnumUptoSaid : Prop := fnExactAddEnumUptoRow.holds Try.pinned (OpenSpec.upto fnExactAddEnumSpec)

/-- 'laws.FnAddTagged', WHERE WHAT IT READS IS OF BULK AT MOST 1048576: true; the input reads as it did. -/
def fnAddTaggedUptoRow : OpenClaim := { program := "ytndknmchhhljcaa", sum := "b71ef23ea54903dba3c8580e50c5960e6928a4a8361b3eaa89d47c740dee7ce5", func := "loop.example/pub-g03335/laws.FnAddTagged", spec := "fnAddTagged", unfollowed := true, recurses := true, apart := false, narrowed := true }
def FnAddTaggedUptoSaid : Prop := fnAddTaggedUptoRow.holds Try.pinned (OpenSpec.upto fnAddTaggedSpec)

/-- 'laws.FnBack16Prefixed', WHERE WHAT IT READS IS OF BULK AT MOST 1048576: true; the input reads as it did. -/
def fnBack16PrefixedUptoRow : OpenClaim := { program := "ytndknmchhhljcaa", sum := "b71ef23ea54903dba3c8580e50c5960e6928a4a8361b3eaa89d47c740dee7ce5", func := "loop.example/pub-g03335/laws.FnBack16Prefixed", spec := "fnBack16Prefixed", unfollowed := true, recurses := true, apart := false, narrowed := true }
def FnBack16PrefixedUptoSaid : Prop := fnBack16PrefixedUptoRow.holds Try.pinned (OpenSpec.upto fnBack16PrefixedSpec)

/-- 'laws.FnBack24Prefixed', WHERE WHAT IT READS IS OF BULK AT MOST 1048576: true; the input reads as it did. -/
def fnBack24PrefixedUptoRow : OpenClaim := { program := "ytndknmchhhljcaa", sum := "b71ef23ea54903dba3c8580e50c5960e6928a4a8361b3eaa89d47c740dee7ce5", func := "loop.example/pub-g03335/laws.FnBack24Prefixed", spec := "fnBack24Prefixed", unfollowed := true, recurses := true, apart := false, narrowed := true }
def FnBack24PrefixedUptoSaid : Prop := fnBack24PrefixedUptoRow.holds Try.pinned (OpenSpec.upto fnBack24PrefixedSpec)

/-- 'laws.FnBack8Prefixed', WHERE WHAT IT READS IS OF BULK AT MOST 1048576: true; the input reads as it did. -/
def fnBack8PrefixedUptoRow : OpenClaim := { program := "ytndknmchhhljcaa", sum := "b71ef23ea54903dba3c8580e50c5960e6928a4a8361b3eaa89d47c740dee7ce5", func := "loop.example/pub-g03335/laws.FnBack8Prefixed", spec := "fnBack8Prefixed", unfollowed := true, recurses := true, apart := false, narrowed := true }
def FnBack8PrefixedUptoSaid : Prop := fnBack8PrefixedUptoRow.holds Try.pinned (OpenSpec.upto fnBack8PrefixedSpec)

/-- 'laws.FnAgainASN1', WHERE WHAT IT READS IS OF BULK AT MOST 1048576: true; the input reads as it did. -/
def fnAgainASN1UptoRow : OpenClaim := { program := "ytndknmchhhljcaa", sum := "b71ef23ea54903dba3c8580e50c5960e6928a4a8361b3eaa89d47c740dee7ce5", func := "loop.example/pub-g03335/laws.FnAgainASN1", spec := "fnAgainASN1", unfollowed := true, recurses := true, apart := false, narrowed := true }
def FnAgainASN1UptoSaid : Prop := fnAgainASN1UptoRow.holds Try.pinned (OpenSpec.upto fnAgainASN1Spec)

/-- 'laws.FnCutShort', WHERE WHAT IT READS IS OF BULK AT MOST 1048576: true; the input reads as it did. -/
def fnCutShortUptoRow : OpenClaim := { program := "ytndknmchhhljcaa", sum := "b71ef23ea54903dba3c8580e50c5960e6928a4a8361b3eaa89d47c740dee7ce5", func := "loop.example/pub-g03335/laws.FnCutShort", spec := "fnCutShort", unfollowed := true, recurses := true, apart := false, narrowed := true }
def FnCutShortUptoSaid : Prop := fnCutShortUptoRow.holds Try.pinned (OpenSpec.upto fnCutShortSpec)

/-- 'laws.FnBackBool', WHERE WHAT IT READS IS OF BULK AT MOST 1048576: true; the input reads as it did. -/
def fnBackBoolUptoRow : OpenClaim := { program := "ytndknmchhhljcaa", sum := "b71ef23ea54903dba3c8580e50c5960e6928a4a8361b3eaa89d47c740dee7ce5", func := "loop.example/pub-g03335/laws.FnBackBool", spec := "fnBackBool", unfollowed := true, recurses := true, apart := false, narrowed := true }
def FnBackBoolUptoSaid : Prop := fnBackBoolUptoRow.holds Try.pinned (OpenSpec.upto fnBackBoolSpec)

/-- 'laws.FnBackBits', WHERE WHAT IT READS IS OF BULK AT MOST 1048576: true; the input reads as it did. -/
def fnBackBitsUptoRow : OpenClaim := { program := "ytndknmchhhljcaa", sum := "b71ef23ea54903dba3c8580e50c5960e6928a4a8361b3eaa89d47c740dee7ce5", func := "loop.example/pub-g03335/laws.FnBackBits", spec := "fnBackBits", unfollowed := true, recurses := true, apart := false, narrowed := true }
def FnBackBitsUptoSaid : Prop := fnBackBitsUptoRow.holds Try.pinned (OpenSpec.upto fnBackBitsSpec)

/-- 'laws.FnBackInt64WithTag', WHERE WHAT IT READS IS OF BULK AT MOST 1048576: true; the input reads as it did. -/
def fnBackInt64WithTagUptoRow : OpenClaim := { program := "ytndknmchhhljcaa", sum := "b71ef23ea54903dba3c8580e50c5960e6928a4a8361b3eaa89d47c740dee7ce5", func := "loop.example/pub-g03335/laws.FnBackInt64WithTag", spec := "fnBackInt64WithTag", unfollowed := true, recurses := true, apart := false, narrowed := true }
def FnBackInt64WithTagUptoSaid : Prop := fnBackInt64WithTagUptoRow.holds Try.pinned (OpenSpec.upto fnBackInt64WithTagSpec)

/-- 'laws.FnBackOptionalOctets', WHERE WHAT IT READS IS OF BULK AT MOST 1048576: true; the input reads as it did. -/
def fnBackOptionalOctetsUptoRow : OpenClaim := { program := "ytndknmchhhljcaa", sum := "b71ef23ea54903dba3c8580e50c5960e6928a4a8361b3eaa89d47c740dee7ce5", func := "loop.example/pub-g03335/laws.FnBackOptionalOctets", spec := "fnBackOptionalOctets", unfollowed := true, recurses := true, apart := false, narrowed := true }
def FnBackOptionalOctetsUptoSaid : Prop := fnBackOptionalOctetsUptoRow.holds Try.pinned (OpenSpec.upto fnBackOptionalOctetsSpec)

/-- 'laws.FnBackEnum', WHERE WHAT IT READS IS OF BULK AT MOST 1048576: true; the input reads as it did. -/
def fnBackEnumUptoRow : OpenClaim := { program := "ytndknmchhhljcaa", sum := "b71ef23ea54903dba3c8580e50c5960e6928a4a8361b3eaa89d47c740dee7ce5", func := "loop.example/pub-g03335/laws.FnBackEnum", spec := "fnBackEnum", unfollowed := true, recurses := true, apart := false, narrowed := true }
def FnBackEnumUptoSaid : Prop := fnBackEnumUptoRow.holds Try.pinned (OpenSpec.upto fnBackEnumSpec)

/-- 'laws.FnBackUint', WHERE WHAT IT READS IS OF BULK AT MOST 1048576: true; the input reads as it did. -/
def fnBackUintUptoRow : OpenClaim := { program := "ytndknmchhhljcaa", sum := "b71ef23ea54903dba3c8580e50c5960e6928a4a8361b3eaa89d47c740dee7ce5", func := "loop.example/pub-g03335/laws.FnBackUint", spec := "fnBackUint", unfollowed := true, recurses := true, apart := false, narrowed := true }
def FnBackUintUptoSaid : Prop := fnBackUintUptoRow.holds Try.pinned (OpenSpec.upto fnBackUintSpec)

/-- 'laws.FnBackInt64', WHERE WHAT IT READS IS OF BULK AT MOST 1048576: true; the input reads as it did. -/
def fnBackInt64UptoRow : OpenClaim := { program := "ytndknmchhhljcaa", sum := "b71ef23ea54903dba3c8580e50c5960e6928a4a8361b3eaa89d47c740dee7ce5", func := "loop.example/pub-g03335/laws.FnBackInt64", spec := "fnBackInt64", unfollowed := true, recurses := true, apart := false, narrowed := true }
def FnBackInt64UptoSaid : Prop := fnBackInt64UptoRow.holds Try.pinned (OpenSpec.upto fnBackInt64Spec)

/-- 'laws.FnBackOID', WHERE WHAT IT READS IS OF BULK AT MOST 1048576: true; the input reads as it did. -/
def fnBackOIDUptoRow : OpenClaim := { program := "ytndknmchhhljcaa", sum := "b71ef23ea54903dba3c8580e50c5960e6928a4a8361b3eaa89d47c740dee7ce5", func := "loop.example/pub-g03335/laws.FnBackOID", spec := "fnBackOID", unfollowed := true, recurses := true, apart := false, narrowed := true }
def FnBackOIDUptoSaid : Prop := fnBackOIDUptoRow.holds Try.pinned (OpenSpec.upto fnBackOIDSpec)

end Rows
end Go.Proofs.Ytndknmchhhljcaa
