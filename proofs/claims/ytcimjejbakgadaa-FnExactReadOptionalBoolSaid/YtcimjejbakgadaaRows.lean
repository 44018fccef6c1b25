/-
  No cell of these rows narrows 'for every input' (looked for: loops, veiled, ifaces, maps, wideKeys, modest, calm, conditions, laid).
  DERIVED. THE GIVEN ROWS OF THIS SEAT. 27 by the template 'for every input the law returns true; each argument reads behind the call as it read before'; 0 by the template 'total and deterministic' (their statements: YtcimjejbakgadaaTotals.lean).
  GIVEN WITH THE SEED: the statements are not yours to turn. If you find one false, say at which input.
  Laid BY PROGRAM, IN A SANDBOX (cutbox-rows.mjs): the forced cells as the released guide's own fill.sh prints them over the translation 9717accc63653515… (all of the seat's roots in one cut). By AI agents, Wed Nov 11 2026. No macro, syntax, notation, axiom, sorry.
-/
import Derived.Test.YtcimjejbakgadaaChecked
import GoSem.Claim
import GoSem.ClaimJoined
import GoSem.ClaimMapViews
import Derived.JoinedTies
import Derived.KernelRfl
namespace Go.Proofs.Ytcimjejbakgadaa
/- THE CELL 'sum', in the pinned program and in every row, IS THE sha256 OF THE DUMP (.gsa) THAT YtcimjejbakgadaaProg.lean LOADS. Nothing in Lean hashes anything: it is a label: what it is worth is what the hold of that sum in a sandbox is worth. -/
noncomputable def Try.pinned : Pinned := { name := "ytcimjejbakgadaa", sum := "9717accc636535150be2d98e30db19d1147a09c262057bbb1efaeef4d389535c", checked := Try.checked }
namespace Rows
def none {H : Type} : Left H := { results := [], args := [] }

/-- 'laws.FnExactConstructed': WHATEVER THE INPUT: true; the input reads as it did. -/
def fnExactConstructedSpec : ChangeSpec := { name := "fnExactConstructed", fn := fun _ => fun
  | [d] => { results := [.lit (.bool true)], args := [d] }
  | _ => none }
def fnExactConstructedRow : OpenClaim := { program := "ytcimjejbakgadaa", sum := "9717accc636535150be2d98e30db19d1147a09c262057bbb1efaeef4d389535c", func := "loop.example/pub-g03335/laws.FnExactConstructed", spec := "fnExactConstructed", apart := false }
def FnExactConstructedSaid : Prop := fnExactConstructedRow.holds Try.pinned (OpenSpec.ofChange fnExactConstructedSpec)

/-- ITS FALSE NEIGHBOUR: 'it returns false'. Refute it at one input. -/
def fnExactConstructedWrong : ChangeSpec := { name := "fnExactConstructed", fn := fun _ => fun
  | [d] => { results := [.lit (.bool false)], args := [d] }
  | _ => none }
def FnExactConstructedWrongFalsely : Prop := fnExactConstructedRow.holds Try.pinned (OpenSpec.ofChange fnExactConstructedWrong)

/-- 'laws.FnExactEmpty': WHATEVER THE INPUT: true; the input reads as it did. -/
def fnExactEmptySpec : ChangeSpec := { name := "fnExactEmpty", fn := fun _ => fun
  | [d] => { results := [.lit (.bool true)], args := [d] }
  | _ => none }
def fnExactEmptyRow : OpenClaim := { program := "ytcimjejbakgadaa", sum := "9717accc636535150be2d98e30db19d1147a09c262057bbb1efaeef4d389535c", func := "loop.example/pub-g03335/laws.FnExactEmpty", spec := "fnExactEmpty", apart := false }
def FnExactEmptySaid : Prop := fnExactEmptyRow.holds Try.pinned (OpenSpec.ofChange fnExactEmptySpec)

/-- ITS FALSE NEIGHBOUR: 'it returns false'. Refute it at one input. -/
def fnExactEmptyWrong : ChangeSpec := { name := "fnExactEmpty", fn := fun _ => fun
  | [d] => { results := [.lit (.bool false)], args := [d] }
  | _ => none }
def FnExactEmptyWrongFalsely : Prop := fnExactEmptyRow.holds Try.pinned (OpenSpec.ofChange fnExactEmptyWrong)

/-- 'laws.FnExactPeekTag': WHATEVER THE INPUT: true; the input reads as it did. -/
def fnExactPeekTagSpec : ChangeSpec := { name := "fnExactPeekTag", fn := fun _ => fun
  | [d1, d2] => { results := [.lit (.bool true)], args := [d1, d2] }
  | _ => none }
def fnExactPeekTagRow : OpenClaim := { program := "ytcimjejbakgadaa", sum := "9717accc636535150be2d98e30db19d1147a09c262057bbb1efaeef4d389535c", func := "loop.example/pub-g03335/laws.FnExactPeekTag", spec := "fnExactPeekTag", apart := false }
def FnExactPeekTagSaid : Prop := fnExactPeekTagRow.holds Try.pinned (OpenSpec.ofChange fnExactPeekTagSpec)

/-- ITS FALSE NEIGHBOUR: 'it returns false'. Refute it at one input. -/
def fnExactPeekTagWrong : ChangeSpec := { name := "fnExactPeekTag", fn := fun _ => fun
  | [d1, d2] => { results := [.lit (.bool false)], args := [d1, d2] }
  | _ => none }
def FnExactPeekTagWrongFalsely : Prop := fnExactPeekTagRow.holds Try.pinned (OpenSpec.ofChange fnExactPeekTagWrong)

/-- 'laws.FnExactCopyBytes': WHATEVER THE INPUT: true; the input reads as it did. -/
def fnExactCopyBytesSpec : ChangeSpec := { name := "fnExactCopyBytes", fn := fun _ => fun
  | [d1, d2] => { results := [.lit (.bool true)], args := [d1, d2] }
  | _ => none }
def fnExactCopyBytesRow : OpenClaim := { program := "ytcimjejbakgadaa", sum := "9717accc636535150be2d98e30db19d1147a09c262057bbb1efaeef4d389535c", func := "loop.example/pub-g03335/laws.FnExactCopyBytes", spec := "fnExactCopyBytes", apart := false }
def FnExactCopyBytesSaid : Prop := fnExactCopyBytesRow.holds Try.pinned (OpenSpec.ofChange fnExactCopyBytesSpec)

/-- ITS FALSE NEIGHBOUR: 'it returns false'. Refute it at one input. -/
def fnExactCopyBytesWrong : ChangeSpec := { name := "fnExactCopyBytes", fn := fun _ => fun
  | [d1, d2] => { results := [.lit (.bool false)], args := [d1, d2] }
  | _ => none }
def FnExactCopyBytesWrongFalsely : Prop := fnExactCopyBytesRow.holds Try.pinned (OpenSpec.ofChange fnExactCopyBytesWrong)

/-- 'laws.FnExactReadUint16': WHATEVER THE INPUT: true; the input reads as it did. -/
def fnExactReadUint16Spec : ChangeSpec := { name := "fnExactReadUint16", fn := fun _ => fun
  | [d] => { results := [.lit (.bool true)], args := [d] }
  | _ => none }
def fnExactReadUint16Row : OpenClaim := { program := "ytcimjejbakgadaa", sum := "9717accc636535150be2d98e30db19d1147a09c262057bbb1efaeef4d389535c", func := "loop.example/pub-g03335/laws.FnExactReadUint16", spec := "fnExactReadUint16", apart := false }
def FnExactReadUint16Said : Prop := fnExactReadUint16Row.holds Try.pinned (OpenSpec.ofChange fnExactReadUint16Spec)

/-- ITS FALSE NEIGHBOUR: 'it returns false'. Refute it at one input. -/
def fnExactReadUint16Wrong : ChangeSpec := { name := "fnExactReadUint16", fn := fun _ => fun
  | [d] => { results := [.lit (.bool false)], args := [d] }
  | _ => none }
def FnExactReadUint16WrongFalsely : Prop := fnExactReadUint16Row.holds Try.pinned (OpenSpec.ofChange fnExactReadUint16Wrong)

/-- 'laws.FnExactReadUint32': WHATEVER THE INPUT: true; the input reads as it did. -/
def fnExactReadUint32Spec : ChangeSpec := { name := "fnExactReadUint32", fn := fun _ => fun
  | [d] => { results := [.lit (.bool true)], args := [d] }
  | _ => none }
def fnExactReadUint32Row : OpenClaim := { program := "ytcimjejbakgadaa", sum := "9717accc636535150be2d98e30db19d1147a09c262057bbb1efaeef4d389535c", func := "loop.example/pub-g03335/laws.FnExactReadUint32", spec := "fnExactReadUint32", apart := false }
def FnExactReadUint32Said : Prop := fnExactReadUint32Row.holds Try.pinned (OpenSpec.ofChange fnExactReadUint32Spec)

/-- ITS FALSE NEIGHBOUR: 'it returns false'. Refute it at one input. -/
def fnExactReadUint32Wrong : ChangeSpec := { name := "fnExactReadUint32", fn := fun _ => fun
  | [d] => { results := [.lit (.bool false)], args := [d] }
  | _ => none }
def FnExactReadUint32WrongFalsely : Prop := fnExactReadUint32Row.holds Try.pinned (OpenSpec.ofChange fnExactReadUint32Wrong)

/-- 'laws.FnExactReadUint64': WHATEVER THE INPUT: true; the input reads as it did. -/
def fnExactReadUint64Spec : ChangeSpec := { name := "fnExactReadUint64", fn := fun _ => fun
  | [d] => { results := [.lit (.bool true)], args := [d] }
  | _ => none }
def fnExactReadUint64Row : OpenClaim := { program := "ytcimjejbakgadaa", sum := "9717accc636535150be2d98e30db19d1147a09c262057bbb1efaeef4d389535c", func := "loop.example/pub-g03335/laws.FnExactReadUint64", spec := "fnExactReadUint64", apart := false }
def FnExactReadUint64Said : Prop := fnExactReadUint64Row.holds Try.pinned (OpenSpec.ofChange fnExactReadUint64Spec)

/-- ITS FALSE NEIGHBOUR: 'it returns false'. Refute it at one input. -/
def fnExactReadUint64Wrong : ChangeSpec := { name := "fnExactReadUint64", fn := fun _ => fun
  | [d] => { results := [.lit (.bool false)], args := [d] }
  | _ => none }
def FnExactReadUint64WrongFalsely : Prop := fnExactReadUint64Row.holds Try.pinned (OpenSpec.ofChange fnExactReadUint64Wrong)

/-- 'laws.FnBytesSkip': WHATEVER THE INPUT: true; the input reads as it did. -/
def fnBytesSkipSpec : ChangeSpec := { name := "fnBytesSkip", fn := fun _ => fun
  | [d1, d2] => { results := [.lit (.bool true)], args := [d1, d2] }
  | _ => none }
def fnBytesSkipRow : OpenClaim := { program := "ytcimjejbakgadaa", sum := "9717accc636535150be2d98e30db19d1147a09c262057bbb1efaeef4d389535c", func := "loop.example/pub-g03335/laws.FnBytesSkip", spec := "fnBytesSkip", apart := false }
def FnBytesSkipSaid : Prop := fnBytesSkipRow.holds Try.pinned (OpenSpec.ofChange fnBytesSkipSpec)

/-- ITS FALSE NEIGHBOUR: 'it returns false'. Refute it at one input. -/
def fnBytesSkipWrong : ChangeSpec := { name := "fnBytesSkip", fn := fun _ => fun
  | [d1, d2] => { results := [.lit (.bool false)], args := [d1, d2] }
  | _ => none }
def FnBytesSkipWrongFalsely : Prop := fnBytesSkipRow.holds Try.pinned (OpenSpec.ofChange fnBytesSkipWrong)

/-- 'laws.FnExactRead16Prefixed': WHATEVER THE INPUT: true; the input reads as it did. -/
def fnExactRead16PrefixedSpec : ChangeSpec := { name := "fnExactRead16Prefixed", fn := fun _ => fun
  | [d] => { results := [.lit (.bool true)], args := [d] }
  | _ => none }
def fnExactRead16PrefixedRow : OpenClaim := { program := "ytcimjejbakgadaa", sum := "9717accc636535150be2d98e30db19d1147a09c262057bbb1efaeef4d389535c", func := "loop.example/pub-g03335/laws.FnExactRead16Prefixed", spec := "fnExactRead16Prefixed", apart := false }
def FnExactRead16PrefixedSaid : Prop := fnExactRead16PrefixedRow.holds Try.pinned (OpenSpec.ofChange fnExactRead16PrefixedSpec)

/-- ITS FALSE NEIGHBOUR: 'it returns false'. Refute it at one input. -/
def fnExactRead16PrefixedWrong : ChangeSpec := { name := "fnExactRead16Prefixed", fn := fun _ => fun
  | [d] => { results := [.lit (.bool false)], args := [d] }
  | _ => none }
def FnExactRead16PrefixedWrongFalsely : Prop := fnExactRead16PrefixedRow.holds Try.pinned (OpenSpec.ofChange fnExactRead16PrefixedWrong)

/-- 'laws.FnHalves': WHATEVER THE INPUT: true; the input reads as it did. -/
def fnHalvesSpec : ChangeSpec := { name := "fnHalves", fn := fun _ => fun
  | [d] => { results := [.lit (.bool true)], args := [d] }
  | _ => none }
def fnHalvesRow : OpenClaim := { program := "ytcimjejbakgadaa", sum := "9717accc636535150be2d98e30db19d1147a09c262057bbb1efaeef4d389535c", func := "loop.example/pub-g03335/laws.FnHalves", spec := "fnHalves", apart := false }
def FnHalvesSaid : Prop := fnHalvesRow.holds Try.pinned (OpenSpec.ofChange fnHalvesSpec)

/-- ITS FALSE NEIGHBOUR: 'it returns false'. Refute it at one input. -/
def fnHalvesWrong : ChangeSpec := { name := "fnHalves", fn := fun _ => fun
  | [d] => { results := [.lit (.bool false)], args := [d] }
  | _ => none }
def FnHalvesWrongFalsely : Prop := fnHalvesRow.holds Try.pinned (OpenSpec.ofChange fnHalvesWrong)

/-- 'laws.FnExactReadAny': WHATEVER THE INPUT: true; the input reads as it did. -/
def fnExactReadAnySpec : ChangeSpec := { name := "fnExactReadAny", fn := fun _ => fun
  | [d] => { results := [.lit (.bool true)], args := [d] }
  | _ => none }
def fnExactReadAnyRow : OpenClaim := { program := "ytcimjejbakgadaa", sum := "9717accc636535150be2d98e30db19d1147a09c262057bbb1efaeef4d389535c", func := "loop.example/pub-g03335/laws.FnExactReadAny", spec := "fnExactReadAny", apart := false }
def FnExactReadAnySaid : Prop := fnExactReadAnyRow.holds Try.pinned (OpenSpec.ofChange fnExactReadAnySpec)

/-- ITS FALSE NEIGHBOUR: 'it returns false'. Refute it at one input. -/
def fnExactReadAnyWrong : ChangeSpec := { name := "fnExactReadAny", fn := fun _ => fun
  | [d] => { results := [.lit (.bool false)], args := [d] }
  | _ => none }
def FnExactReadAnyWrongFalsely : Prop := fnExactReadAnyRow.holds Try.pinned (OpenSpec.ofChange fnExactReadAnyWrong)

/-- 'laws.FnExactReadElement': WHATEVER THE INPUT: true; the input reads as it did. -/
def fnExactReadElementSpec : ChangeSpec := { name := "fnExactReadElement", fn := fun _ => fun
  | [d1, d2] => { results := [.lit (.bool true)], args := [d1, d2] }
  | _ => none }
def fnExactReadElementRow : OpenClaim := { program := "ytcimjejbakgadaa", sum := "9717accc636535150be2d98e30db19d1147a09c262057bbb1efaeef4d389535c", func := "loop.example/pub-g03335/laws.FnExactReadElement", spec := "fnExactReadElement", apart := false }
def FnExactReadElementSaid : Prop := fnExactReadElementRow.holds Try.pinned (OpenSpec.ofChange fnExactReadElementSpec)

/-- ITS FALSE NEIGHBOUR: 'it returns false'. Refute it at one input. -/
def fnExactReadElementWrong : ChangeSpec := { name := "fnExactReadElement", fn := fun _ => fun
  | [d1, d2] => { results := [.lit (.bool false)], args := [d1, d2] }
  | _ => none }
def FnExactReadElementWrongFalsely : Prop := fnExactReadElementRow.holds Try.pinned (OpenSpec.ofChange fnExactReadElementWrong)

/-- 'laws.FnExactSkipASN1': WHATEVER THE INPUT: true; the input reads as it did. -/
def fnExactSkipASN1Spec : ChangeSpec := { name := "fnExactSkipASN1", fn := fun _ => fun
  | [d1, d2] => { results := [.lit (.bool true)], args := [d1, d2] }
  | _ => none }
def fnExactSkipASN1Row : OpenClaim := { program := "ytcimjejbakgadaa", sum := "9717accc636535150be2d98e30db19d1147a09c262057bbb1efaeef4d389535c", func := "loop.example/pub-g03335/laws.FnExactSkipASN1", spec := "fnExactSkipASN1", apart := false }
def FnExactSkipASN1Said : Prop := fnExactSkipASN1Row.holds Try.pinned (OpenSpec.ofChange fnExactSkipASN1Spec)

/-- ITS FALSE NEIGHBOUR: 'it returns false'. Refute it at one input. -/
def fnExactSkipASN1Wrong : ChangeSpec := { name := "fnExactSkipASN1", fn := fun _ => fun
  | [d1, d2] => { results := [.lit (.bool false)], args := [d1, d2] }
  | _ => none }
def FnExactSkipASN1WrongFalsely : Prop := fnExactSkipASN1Row.holds Try.pinned (OpenSpec.ofChange fnExactSkipASN1Wrong)

/-- 'laws.FnAnyTagged': WHATEVER THE INPUT: true; the input reads as it did. -/
def fnAnyTaggedSpec : ChangeSpec := { name := "fnAnyTagged", fn := fun _ => fun
  | [d1, d2] => { results := [.lit (.bool true)], args := [d1, d2] }
  | _ => none }
def fnAnyTaggedRow : OpenClaim := { program := "ytcimjejbakgadaa", sum := "9717accc636535150be2d98e30db19d1147a09c262057bbb1efaeef4d389535c", func := "loop.example/pub-g03335/laws.FnAnyTagged", spec := "fnAnyTagged", apart := false }
def FnAnyTaggedSaid : Prop := fnAnyTaggedRow.holds Try.pinned (OpenSpec.ofChange fnAnyTaggedSpec)

/-- ITS FALSE NEIGHBOUR: 'it returns false'. Refute it at one input. -/
def fnAnyTaggedWrong : ChangeSpec := { name := "fnAnyTagged", fn := fun _ => fun
  | [d1, d2] => { results := [.lit (.bool false)], args := [d1, d2] }
  | _ => none }
def FnAnyTaggedWrongFalsely : Prop := fnAnyTaggedRow.holds Try.pinned (OpenSpec.ofChange fnAnyTaggedWrong)

/-- 'laws.FnEndless': WHATEVER THE INPUT: true; the input reads as it did. -/
def fnEndlessSpec : ChangeSpec := { name := "fnEndless", fn := fun _ => fun
  | [d1, d2] => { results := [.lit (.bool true)], args := [d1, d2] }
  | _ => none }
def fnEndlessRow : OpenClaim := { program := "ytcimjejbakgadaa", sum := "9717accc636535150be2d98e30db19d1147a09c262057bbb1efaeef4d389535c", func := "loop.example/pub-g03335/laws.FnEndless", spec := "fnEndless", apart := false }
def FnEndlessSaid : Prop := fnEndlessRow.holds Try.pinned (OpenSpec.ofChange fnEndlessSpec)

/-- ITS FALSE NEIGHBOUR: 'it returns false'. Refute it at one input. -/
def fnEndlessWrong : ChangeSpec := { name := "fnEndless", fn := fun _ => fun
  | [d1, d2] => { results := [.lit (.bool false)], args := [d1, d2] }
  | _ => none }
def FnEndlessWrongFalsely : Prop := fnEndlessRow.holds Try.pinned (OpenSpec.ofChange fnEndlessWrong)

/-- 'laws.FnSkipRead': WHATEVER THE INPUT: true; the input reads as it did. -/
def fnSkipReadSpec : ChangeSpec := { name := "fnSkipRead", fn := fun _ => fun
  | [d1, d2] => { results := [.lit (.bool true)], args := [d1, d2] }
  | _ => none }
def fnSkipReadRow : OpenClaim := { program := "ytcimjejbakgadaa", sum := "9717accc636535150be2d98e30db19d1147a09c262057bbb1efaeef4d389535c", func := "loop.example/pub-g03335/laws.FnSkipRead", spec := "fnSkipRead", apart := false }
def FnSkipReadSaid : Prop := fnSkipReadRow.holds Try.pinned (OpenSpec.ofChange fnSkipReadSpec)

/-- ITS FALSE NEIGHBOUR: 'it returns false'. Refute it at one input. -/
def fnSkipReadWrong : ChangeSpec := { name := "fnSkipRead", fn := fun _ => fun
  | [d1, d2] => { results := [.lit (.bool false)], args := [d1, d2] }
  | _ => none }
def FnSkipReadWrongFalsely : Prop := fnSkipReadRow.holds Try.pinned (OpenSpec.ofChange fnSkipReadWrong)

/-- 'laws.FnExactReadBitsAsBytes': WHATEVER THE INPUT: true; the input reads as it did. -/
def fnExactReadBitsAsBytesSpec : ChangeSpec := { name := "fnExactReadBitsAsBytes", fn := fun _ => fun
  | [d] => { results := [.lit (.bool true)], args := [d] }
  | _ => none }
def fnExactReadBitsAsBytesRow : OpenClaim := { program := "ytcimjejbakgadaa", sum := "9717accc636535150be2d98e30db19d1147a09c262057bbb1efaeef4d389535c", func := "loop.example/pub-g03335/laws.FnExactReadBitsAsBytes", spec := "fnExactReadBitsAsBytes", apart := false }
def FnExactReadBitsAsBytesSaid : Prop := fnExactReadBitsAsBytesRow.holds Try.pinned (OpenSpec.ofChange fnExactReadBitsAsBytesSpec)

/-- ITS FALSE NEIGHBOUR: 'it returns false'. Refute it at one input. -/
def fnExactReadBitsAsBytesWrong : ChangeSpec := { name := "fnExactReadBitsAsBytes", fn := fun _ => fun
  | [d] => { results := [.lit (.bool false)], args := [d] }
  | _ => none }
def FnExactReadBitsAsBytesWrongFalsely : Prop := fnExactReadBitsAsBytesRow.holds Try.pinned (OpenSpec.ofChange fnExactReadBitsAsBytesWrong)

/-- 'laws.FnElementContents': WHATEVER THE INPUT: true; the input reads as it did. -/
def fnElementContentsSpec : ChangeSpec := { name := "fnElementContents", fn := fun _ => fun
  | [d1, d2] => { results := [.lit (.bool true)], args := [d1, d2] }
  | _ => none }
def fnElementContentsRow : OpenClaim := { program := "ytcimjejbakgadaa", sum := "9717accc636535150be2d98e30db19d1147a09c262057bbb1efaeef4d389535c", func := "loop.example/pub-g03335/laws.FnElementContents", spec := "fnElementContents", apart := false }
def FnElementContentsSaid : Prop := fnElementContentsRow.holds Try.pinned (OpenSpec.ofChange fnElementContentsSpec)

/-- ITS FALSE NEIGHBOUR: 'it returns false'. Refute it at one input. -/
def fnElementContentsWrong : ChangeSpec := { name := "fnElementContents", fn := fun _ => fun
  | [d1, d2] => { results := [.lit (.bool false)], args := [d1, d2] }
  | _ => none }
def FnElementContentsWrongFalsely : Prop := fnElementContentsRow.holds Try.pinned (OpenSpec.ofChange fnElementContentsWrong)

/-- 'laws.FnExactReadOptional': WHATEVER THE INPUT: true; the input reads as it did. -/
def fnExactReadOptionalSpec : ChangeSpec := { name := "fnExactReadOptional", fn := fun _ => fun
  | [d1, d2] => { results := [.lit (.bool true)], args := [d1, d2] }
  | _ => none }
def fnExactReadOptionalRow : OpenClaim := { program := "ytcimjejbakgadaa", sum := "9717accc636535150be2d98e30db19d1147a09c262057bbb1efaeef4d389535c", func := "loop.example/pub-g03335/laws.FnExactReadOptional", spec := "fnExactReadOptional", apart := false }
def FnExactReadOptionalSaid : Prop := fnExactReadOptionalRow.holds Try.pinned (OpenSpec.ofChange fnExactReadOptionalSpec)

/-- ITS FALSE NEIGHBOUR: 'it returns false'. Refute it at one input. -/
def fnExactReadOptionalWrong : ChangeSpec := { name := "fnExactReadOptional", fn := fun _ => fun
  | [d1, d2] => { results := [.lit (.bool false)], args := [d1, d2] }
  | _ => none }
def FnExactReadOptionalWrongFalsely : Prop := fnExactReadOptionalRow.holds Try.pinned (OpenSpec.ofChange fnExactReadOptionalWrong)

/-- 'laws.FnOptionalRead': WHATEVER THE INPUT: true; the input reads as it did. -/
def fnOptionalReadSpec : ChangeSpec := { name := "fnOptionalRead", fn := fun _ => fun
  | [d1, d2] => { results := [.lit (.bool true)], args := [d1, d2] }
  | _ => none }
def fnOptionalReadRow : OpenClaim := { program := "ytcimjejbakgadaa", sum := "9717accc636535150be2d98e30db19d1147a09c262057bbb1efaeef4d389535c", func := "loop.example/pub-g03335/laws.FnOptionalRead", spec := "fnOptionalRead", apart := false }
def FnOptionalReadSaid : Prop := fnOptionalReadRow.holds Try.pinned (OpenSpec.ofChange fnOptionalReadSpec)

/-- ITS FALSE NEIGHBOUR: 'it returns false'. Refute it at one input. -/
def fnOptionalReadWrong : ChangeSpec := { name := "fnOptionalRead", fn := fun _ => fun
  | [d1, d2] => { results := [.lit (.bool false)], args := [d1, d2] }
  | _ => none }
def FnOptionalReadWrongFalsely : Prop := fnOptionalReadRow.holds Try.pinned (OpenSpec.ofChange fnOptionalReadWrong)

/-- 'laws.FnExactReadIntegerBytes': WHATEVER THE INPUT: true; the input reads as it did. -/
def fnExactReadIntegerBytesSpec : ChangeSpec := { name := "fnExactReadIntegerBytes", fn := fun _ => fun
  | [d] => { results := [.lit (.bool true)], args := [d] }
  | _ => none }
def fnExactReadIntegerBytesRow : OpenClaim := { program := "ytcimjejbakgadaa", sum := "9717accc636535150be2d98e30db19d1147a09c262057bbb1efaeef4d389535c", func := "loop.example/pub-g03335/laws.FnExactReadIntegerBytes", spec := "fnExactReadIntegerBytes", apart := false }
def FnExactReadIntegerBytesSaid : Prop := fnExactReadIntegerBytesRow.holds Try.pinned (OpenSpec.ofChange fnExactReadIntegerBytesSpec)

/-- ITS FALSE NEIGHBOUR: 'it returns false'. Refute it at one input. -/
def fnExactReadIntegerBytesWrong : ChangeSpec := { name := "fnExactReadIntegerBytes", fn := fun _ => fun
  | [d] => { results := [.lit (.bool false)], args := [d] }
  | _ => none }
def FnExactReadIntegerBytesWrongFalsely : Prop := fnExactReadIntegerBytesRow.holds Try.pinned (OpenSpec.ofChange fnExactReadIntegerBytesWrong)

/-- 'laws.FnExactReadInt64WithTag': WHATEVER THE INPUT: true; the input reads as it did. -/
def fnExactReadInt64WithTagSpec : ChangeSpec := { name := "fnExactReadInt64WithTag", fn := fun _ => fun
  | [d1, d2] => { results := [.lit (.bool true)], args := [d1, d2] }
  | _ => none }
def fnExactReadInt64WithTagRow : OpenClaim := { program := "ytcimjejbakgadaa", sum := "9717accc636535150be2d98e30db19d1147a09c262057bbb1efaeef4d389535c", func := "loop.example/pub-g03335/laws.FnExactReadInt64WithTag", spec := "fnExactReadInt64WithTag", apart := false }
def FnExactReadInt64WithTagSaid : Prop := fnExactReadInt64WithTagRow.holds Try.pinned (OpenSpec.ofChange fnExactReadInt64WithTagSpec)

/-- ITS FALSE NEIGHBOUR: 'it returns false'. Refute it at one input. -/
def fnExactReadInt64WithTagWrong : ChangeSpec := { name := "fnExactReadInt64WithTag", fn := fun _ => fun
  | [d1, d2] => { results := [.lit (.bool false)], args := [d1, d2] }
  | _ => none }
def FnExactReadInt64WithTagWrongFalsely : Prop := fnExactReadInt64WithTagRow.holds Try.pinned (OpenSpec.ofChange fnExactReadInt64WithTagWrong)

/-- 'laws.FnBitsBothWays': WHATEVER THE INPUT: true; the input reads as it did. -/
def fnBitsBothWaysSpec : ChangeSpec := { name := "fnBitsBothWays", fn := fun _ => fun
  | [d] => { results := [.lit (.bool true)], args := [d] }
  | _ => none }
def fnBitsBothWaysRow : OpenClaim := { program := "ytcimjejbakgadaa", sum := "9717accc636535150be2d98e30db19d1147a09c262057bbb1efaeef4d389535c", func := "loop.example/pub-g03335/laws.FnBitsBothWays", spec := "fnBitsBothWays", apart := false }
def FnBitsBothWaysSaid : Prop := fnBitsBothWaysRow.holds Try.pinned (OpenSpec.ofChange fnBitsBothWaysSpec)

/-- ITS FALSE NEIGHBOUR: 'it returns false'. Refute it at one input. -/
def fnBitsBothWaysWrong : ChangeSpec := { name := "fnBitsBothWays", fn := fun _ => fun
  | [d] => { results := [.lit (.bool false)], args := [d] }
  | _ => none }
def FnBitsBothWaysWrongFalsely : Prop := fnBitsBothWaysRow.holds Try.pinned (OpenSpec.ofChange fnBitsBothWaysWrong)

/-- 'laws.FnExactReadInt64': WHATEVER THE INPUT: true; the input reads as it did. -/
def fnExactReadInt64Spec : ChangeSpec := { name := "fnExactReadInt64", fn := fun _ => fun
  | [d] => { results := [.lit (.bool true)], args := [d] }
  | _ => none }
def fnExactReadInt64Row : OpenClaim := { program := "ytcimjejbakgadaa", sum := "9717accc636535150be2d98e30db19d1147a09c262057bbb1efaeef4d389535c", func := "loop.example/pub-g03335/laws.FnExactReadInt64", spec := "fnExactReadInt64", apart := false }
def FnExactReadInt64Said : Prop := fnExactReadInt64Row.holds Try.pinned (OpenSpec.ofChange fnExactReadInt64Spec)

/-- ITS FALSE NEIGHBOUR: 'it returns false'. Refute it at one input. -/
def fnExactReadInt64Wrong : ChangeSpec := { name := "fnExactReadInt64", fn := fun _ => fun
  | [d] => { results := [.lit (.bool false)], args := [d] }
  | _ => none }
def FnExactReadInt64WrongFalsely : Prop := fnExactReadInt64Row.holds Try.pinned (OpenSpec.ofChange fnExactReadInt64Wrong)

/-- 'laws.FnExactReadOptionalBool': WHATEVER THE INPUT: true; the input reads as it did. -/
def fnExactReadOptionalBoolSpec : ChangeSpec := { name := "fnExactReadOptionalBool", fn := fun _ => fun
  | [d1, d2, d3] => { results := [.lit (.bool true)], args := [d1, d2, d3] }
  | _ => none }
def fnExactReadOptionalBoolRow : OpenClaim := { program := "ytcimjejbakgadaa", sum := "9717accc636535150be2d98e30db19d1147a09c262057bbb1efaeef4d389535c", func := "loop.example/pub-g03335/laws.FnExactReadOptionalBool", spec := "fnExactReadOptionalBool", apart := false }
def FnExactReadOptionalBoolSaid : Prop := fnExactReadOptionalBoolRow.holds Try.pinned (OpenSpec.ofChange fnExactReadOptionalBoolSpec)

/-- ITS FALSE NEIGHBOUR: 'it returns false'. Refute it at one input. -/
def fnExactReadOptionalBoolWrong : ChangeSpec := { name := "fnExactReadOptionalBool", fn := fun _ => fun
  | [d1, d2, d3] => { results := [.lit (.bool false)], args := [d1, d2, d3] }
  | _ => none }
def FnExactReadOptionalBoolWrongFalsely : Prop := fnExactReadOptionalBoolRow.holds Try.pinned (OpenSpec.ofChange fnExactReadOptionalBoolWrong)

/-- 'laws.FnIntTagged': WHATEVER THE INPUT: true; the input reads as it did. -/
def fnIntTaggedSpec : ChangeSpec := { name := "fnIntTagged", fn := fun _ => fun
  | [d] => { results := [.lit (.bool true)], args := [d] }
  | _ => none }
def fnIntTaggedRow : OpenClaim := { program := "ytcimjejbakgadaa", sum := "9717accc636535150be2d98e30db19d1147a09c262057bbb1efaeef4d389535c", func := "loop.example/pub-g03335/laws.FnIntTagged", spec := "fnIntTagged", apart := false }
def FnIntTaggedSaid : Prop := fnIntTaggedRow.holds Try.pinned (OpenSpec.ofChange fnIntTaggedSpec)

/-- ITS FALSE NEIGHBOUR: 'it returns false'. Refute it at one input. -/
def fnIntTaggedWrong : ChangeSpec := { name := "fnIntTagged", fn := fun _ => fun
  | [d] => { results := [.lit (.bool false)], args := [d] }
  | _ => none }
def FnIntTaggedWrongFalsely : Prop := fnIntTaggedRow.holds Try.pinned (OpenSpec.ofChange fnIntTaggedWrong)

/-- 'laws.FnIntUint': WHATEVER THE INPUT: true; the input reads as it did. -/
def fnIntUintSpec : ChangeSpec := { name := "fnIntUint", fn := fun _ => fun
  | [d] => { results := [.lit (.bool true)], args := [d] }
  | _ => none }
def fnIntUintRow : OpenClaim := { program := "ytcimjejbakgadaa", sum := "9717accc636535150be2d98e30db19d1147a09c262057bbb1efaeef4d389535c", func := "loop.example/pub-g03335/laws.FnIntUint", spec := "fnIntUint", apart := false }
def FnIntUintSaid : Prop := fnIntUintRow.holds Try.pinned (OpenSpec.ofChange fnIntUintSpec)

/-- ITS FALSE NEIGHBOUR: 'it returns false'. Refute it at one input. -/
def fnIntUintWrong : ChangeSpec := { name := "fnIntUint", fn := fun _ => fun
  | [d] => { results := [.lit (.bool false)], args := [d] }
  | _ => none }
def FnIntUintWrongFalsely : Prop := fnIntUintRow.holds Try.pinned (OpenSpec.ofChange fnIntUintWrong)

/- THE SECOND FORM. 'bulk': how many values and letters a reading holds, each counted each time it is reached (what is shared counts as often as it is met; a slice's spare places count too). A statement '..UptoSaid' is the law's where the arguments, and the package variables that the reading takes, are together of bulk at most 1048576: NARROWER than '..Said'. Prove '..Said' where nothing that the law and all that it calls make is longer than what came in: it says more and counts as full. Else prove '..UptoSaid'. A law counts once. -/
mutual
def uptoBulk {H : Type} : DataW H → Nat
  | .lit (.string bytes) => bytes.length + 1
  | .lit _ => 1
  | .nil => 1
  | .ptr d => uptoBulk d + 1
  | .slice elems spare => uptoBulkAll elems + uptoBulkAll spare + 1
  | .agg parts => uptoBulkAll parts + 1
  | .iface _ d => uptoBulk d + 1
  | .map entries => uptoBulkEntries entries + 1
  | .held _ => 1
def uptoBulkAll {H : Type} : List (DataW H) → Nat
  | [] => 0
  | d :: r => uptoBulk d + uptoBulkAll r
def uptoBulkEntries {H : Type} : List (Lit × DataW H) → Nat
  | [] => 0
  | x :: r => uptoBulkEntry x + uptoBulkEntries r
def uptoBulkEntry {H : Type} : Lit × DataW H → Nat
  | (.string bytes, d) => bytes.length + uptoBulk d + 1
  | (_, d) => uptoBulk d + 1
 end
def uptoSmall : (H : Type) → List (DataW H) → Bool := fun _ ds => decide (uptoBulkAll ds ≤ 1048576)
def OpenSpec.upto (s : _root_.Go.ChangeSpec) : _root_.Go.OpenSpec := { _root_.Go.OpenSpec.ofChange s with cond := some uptoSmall }

/-- 'laws.FnExactConstructed', WHERE WHAT IT READS IS OF BULK AT MOST 1048576: true; the input reads as it did. -/
def fnExactConstructedUptoRow : OpenClaim := { program := "ytcimjejbakgadaa", sum := "9717accc636535150be2d98e30db19d1147a09c262057bbb1efaeef4d389535c", func := "loop.example/pub-g03335/laws.FnExactConstructed", spec := "fnExactConstructed", apart := false, narrowed := true }
def FnExactConstructedUptoSaid : Prop := fnExactConstructedUptoRow.holds Try.pinned (OpenSpec.upto fnExactConstructedSpec)

/-- 'laws.FnExactEmpty', WHERE WHAT IT READS IS OF BULK AT MOST 1048576: true; the input reads as it did. -/
def fnExactEmptyUptoRow : OpenClaim := { program := "ytcimjejbakgadaa", sum := "9717accc636535150be2d98e30db19d1147a09c262057bbb1efaeef4d389535c", func := "loop.example/pub-g03335/laws.FnExactEmpty", spec := "fnExactEmpty", apart := false, narrowed := true }
def FnExactEmptyUptoSaid : Prop := fnExactEmptyUptoRow.holds Try.pinned (OpenSpec.upto fnExactEmptySpec)

/-- 'laws.FnExactPeekTag', WHERE WHAT IT READS IS OF BULK AT MOST 1048576: true; the input reads as it did. -/
def fnExactPeekTagUptoRow : OpenClaim := { program := "ytcimjejbakgadaa", sum := "9717accc636535150be2d98e30db19d1147a09c262057bbb1efaeef4d389535c", func := "loop.example/pub-g03335/laws.FnExactPeekTag", spec := "fnExactPeekTag", apart := false, narrowed := true }
def FnExactPeekTagUptoSaid : Prop := fnExactPeekTagUptoRow.holds Try.pinned (OpenSpec.upto fnExactPeekTagSpec)

/-- 'laws.FnExactCopyBytes', WHERE WHAT IT READS IS OF BULK AT MOST 1048576: true; the input reads as it did. -/
def fnExactCopyBytesUptoRow : OpenClaim := { program := "ytcimjejbakgadaa", sum := "9717accc636535150be2d98e30db19d1147a09c262057bbb1efaeef4d389535c", func := "loop.example/pub-g03335/laws.FnExactCopyBytes", spec := "fnExactCopyBytes", apart := false, narrowed := true }
def FnExactCopyBytesUptoSaid : Prop := fnExactCopyBytesUptoRow.holds Try.pinned (OpenSpec.upto fnExactCopyBytesSpec)

/-- 'laws.FnExactReadUint16', WHERE WHAT IT READS IS OF BULK AT MOST 1048576: true; the input reads as it did. -/
def fnExactReadUint16UptoRow : OpenClaim := { program := "ytcimjejbakgadaa", sum := "9717accc636535150be2d98e30db19d1147a09c262057bbb1efaeef4d389535c", func := "loop.example/pub-g03335/laws.FnExactReadUint16", spec := "fnExactReadUint16", apart := false, narrowed := true }
def FnExactReadUint16UptoSaid : Prop := fnExactReadUint16UptoRow.holds Try.pinned (OpenSpec.upto fnExactReadUint16Spec)

/-- 'laws.FnExactReadUint32', WHERE WHAT IT READS IS OF BULK AT MOST 1048576: true; the input reads as it did. -/
def fnExactReadUint32UptoRow : OpenClaim := { program := "ytcimjejbakgadaa", sum := "9717accc636535150be2d98e30db19d1147a09c262057bbb1efaeef4d389535c", func := "loop.example/pub-g03335/laws.FnExactReadUint32", spec := "fnExactReadUint32", apart := false, narrowed := true }
def FnExactReadUint32UptoSaid : Prop := fnExactReadUint32UptoRow.holds Try.pinned (OpenSpec.upto fnExactReadUint32Spec)

/-- 'laws.FnExactReadUint64', WHERE WHAT IT READS IS OF BULK AT MOST 1048576: true; the input reads as it did. -/
def fnExactReadUint64UptoRow : OpenClaim := { program := "ytcimjejbakgadaa", sum := "9717accc636535150be2d98e30db19d1147a09c262057bbb1efaeef4d389535c", func := "loop.example/pub-g03335/laws.FnExactReadUint64", spec := "fnExactReadUint64", apart := false, narrowed := true }
def FnExactReadUint64UptoSaid : Prop := fnExactReadUint64UptoRow.holds Try.pinned (OpenSpec.upto fnExactReadUint64Spec)

/-- 'laws.FnBytesSkip', WHERE WHAT IT READS IS OF BULK AT MOST 1048576: true; the input reads as it did. -/
def fnBytesSkipUptoRow : OpenClaim := { program := "ytcimjejbakgadaa", sum := "9717accc636535150be2d98e30db19d1147a09c262057bbb1efaeef4d389535c", func := "loop.example/pub-g03335/laws.FnBytesSkip", spec := "fnBytesSkip", apart := false, narrowed := true }
def FnBytesSkipUptoSaid : Prop := fnBytesSkipUptoRow.holds Try.pinned (OpenSpec.upto fnBytesSkipSpec)

/-- 'laws.FnExactRead16Prefixed', WHERE WHAT IT READS IS OF BULK AT MOST 1048576: true; the input reads as it did. -/
def fnExactRead16PrefixedUptoRow : OpenClaim := { program := "ytcimjejbakgadaa", sum := "9717accc636535150be2d98e30db19d1147a09c262057bbb1efaeef4d389535c", func := "loop.example/pub-g03335/laws.FnExactRead16Prefixed", spec := "fnExactRead16Prefixed", apart := false, narrowed := true }
def FnExactRead16PrefixedUptoSaid : Prop := fnExactRead16PrefixedUptoRow.holds Try.pinned (OpenSpec.upto fnExactRead16PrefixedSpec)

/-- 'laws.FnHalves', WHERE WHAT IT READS IS OF BULK AT MOST 1048576: true; the input reads as it did. -/
def fnHalvesUptoRow : OpenClaim := { program := "ytcimjejbakgadaa", sum := "9717accc636535150be2d98e30db19d1147a09c262057bbb1efaeef4d389535c", func := "loop.example/pub-g03335/laws.FnHalves", spec := "fnHalves", apart := false, narrowed := true }
def FnHalvesUptoSaid : Prop := fnHalvesUptoRow.holds Try.pinned (OpenSpec.upto fnHalvesSpec)

/-- 'laws.FnExactReadAny', WHERE WHAT IT READS IS OF BULK AT MOST 1048576: true; the input reads as it did. -/
def fnExactReadAnyUptoRow : OpenClaim := { program := "ytcimjejbakgadaa", sum := "9717accc636535150be2d98e30db19d1147a09c262057bbb1efaeef4d389535c", func := "loop.example/pub-g03335/laws.FnExactReadAny", spec := "fnExactReadAny", apart := false, narrowed := true }
def FnExactReadAnyUptoSaid : Prop := fnExactReadAnyUptoRow.holds Try.pinned (OpenSpec.upto fnExactReadAnySpec)

/-- 'laws.FnExactReadElement', WHERE WHAT IT READS IS OF BULK AT MOST 1048576: true; the input reads as it did. -/
def fnExactReadElementUptoRow : OpenClaim := { program := "ytcimjejbakgadaa", sum := "9717accc636535150be2d98e30db19d1147a09c262057bbb1efaeef4d389535c", func := "loop.example/pub-g03335/laws.FnExactReadElement", spec := "fnExactReadElement", apart := false, narrowed := true }
def FnExactReadElementUptoSaid : Prop := fnExactReadElementUptoRow.holds Try.pinned (OpenSpec.upto fnExactReadElementSpec)

/-- 'laws.FnExactSkipASN1', WHERE WHAT IT READS IS OF BULK AT MOST 1048576: true; the input reads as it did. -/
def fnExactSkipASN1UptoRow : OpenClaim := { program := "ytcimjejbakgadaa", sum := "9717accc636535150be2d98e30db19d1147a09c262057bbb1efaeef4d389535c", func := "loop.example/pub-g03335/laws.FnExactSkipASN1", spec := "fnExactSkipASN1", apart := false, narrowed := true }
def FnExactSkipASN1UptoSaid : Prop := fnExactSkipASN1UptoRow.holds Try.pinned (OpenSpec.upto fnExactSkipASN1Spec)

/-- 'laws.FnAnyTagged', WHERE WHAT IT READS IS OF BULK AT MOST 1048576: true; the input reads as it did. -/
def fnAnyTaggedUptoRow : OpenClaim := { program := "ytcimjejbakgadaa", sum := "9717accc636535150be2d98e30db19d1147a09c262057bbb1efaeef4d389535c", func := "loop.example/pub-g03335/laws.FnAnyTagged", spec := "fnAnyTagged", apart := false, narrowed := true }
def FnAnyTaggedUptoSaid : Prop := fnAnyTaggedUptoRow.holds Try.pinned (OpenSpec.upto fnAnyTaggedSpec)

/-- 'laws.FnEndless', WHERE WHAT IT READS IS OF BULK AT MOST 1048576: true; the input reads as it did. -/
def fnEndlessUptoRow : OpenClaim := { program := "ytcimjejbakgadaa", sum := "9717accc636535150be2d98e30db19d1147a09c262057bbb1efaeef4d389535c", func := "loop.example/pub-g03335/laws.FnEndless", spec := "fnEndless", apart := false, narrowed := true }
def FnEndlessUptoSaid : Prop := fnEndlessUptoRow.holds Try.pinned (OpenSpec.upto fnEndlessSpec)

/-- 'laws.FnSkipRead', WHERE WHAT IT READS IS OF BULK AT MOST 1048576: true; the input reads as it did. -/
def fnSkipReadUptoRow : OpenClaim := { program := "ytcimjejbakgadaa", sum := "9717accc636535150be2d98e30db19d1147a09c262057bbb1efaeef4d389535c", func := "loop.example/pub-g03335/laws.FnSkipRead", spec := "fnSkipRead", apart := false, narrowed := true }
def FnSkipReadUptoSaid : Prop := fnSkipReadUptoRow.holds Try.pinned (OpenSpec.upto fnSkipReadSpec)

/-- 'laws.FnExactReadBitsAsBytes', WHERE WHAT IT READS IS OF BULK AT MOST 1048576: true; the input reads as it did. -/
def fnExactReadBitsAsBytesUptoRow : OpenClaim := { program := "ytcimjejbakgadaa", sum := "9717accc636535150be2d98e30db19d1147a09c262057bbb1efaeef4d389535c", func := "loop.example/pub-g03335/laws.FnExactReadBitsAsBytes", spec := "fnExactReadBitsAsBytes", apart := false, narrowed := true }
def FnExactReadBitsAsBytesUptoSaid : Prop := fnExactReadBitsAsBytesUptoRow.holds Try.pinned (OpenSpec.upto fnExactReadBitsAsBytesSpec)

/-- 'laws.FnElementContents', WHERE WHAT IT READS IS OF BULK AT MOST 1048576: true; the input reads as it did. -/
def fnElementContentsUptoRow : OpenClaim := { program := "ytcimjejbakgadaa", sum := "9717accc636535150be2d98e30db19d1147a09c262057bbb1efaeef4d389535c", func := "loop.example/pub-g03335/laws.FnElementContents", spec := "fnElementContents", apart := false, narrowed := true }
def FnElementContentsUptoSaid : Prop := fnElementContentsUptoRow.holds Try.pinned (OpenSpec.upto fnElementContentsSpec)

/-- 'laws.FnExactReadOptional', WHERE WHAT IT READS IS OF BULK AT MOST 1048576: true; the input reads as it did. -/
def fnExactReadOptionalUptoRow : OpenClaim := { program := "ytcimjejbakgadaa", sum := "9717accc636535150be2d98e30db19d1147a09c262057bbb1efaeef4d389535c", func := "loop.example/pub-g03335/laws.FnExactReadOptional", spec := "fnExactReadOptional", apart := false, narrowed := true }
def FnExactReadOptionalUptoSaid : Prop := fnExactReadOptionalUptoRow.holds Try.pinned (OpenSpec.upto fnExactReadOptionalSpec)

/-- 'laws.FnOptionalRead', WHERE WHAT IT READS IS OF BULK AT MOST 1048576: true; the input reads as it did. -/
def fnOptionalReadUptoRow : OpenClaim := { program := "ytcimjejbakgadaa", sum := "9717accc636535150be2d98e30db19d1147a09c262057bbb1efaeef4d389535c", func := "loop.example/pub-g03335/laws.FnOptionalRead", spec := "fnOptionalRead", apart := false, narrowed := true }
def FnOptionalReadUptoSaid : Prop := fnOptionalReadUptoRow.holds Try.pinned (OpenSpec.upto fnOptionalReadSpec)

/-- 'laws.FnExactReadIntegerBytes', WHERE WHAT IT READS IS OF BULK AT MOST 1048576: true; the input reads as it did. -/
def fnExactReadIntegerBytesUptoRow : OpenClaim := { program := "ytcimjejbakgadaa", sum := "9717accc636535150be2d98e30db19d1147a09c262057bbb1efaeef4d389535c", func := "loop.example/pub-g03335/laws.FnExactReadIntegerBytes", spec := "fnExactReadIntegerBytes", apart := false, narrowed := true }
def FnExactReadIntegerBytesUptoSaid : Prop := fnExactReadIntegerBytesUptoRow.holds Try.pinned (OpenSpec.upto fnExactReadIntegerBytesSpec)

/-- 'laws.FnExactReadInt64WithTag', WHERE WHAT IT READS IS OF BULK AT MOST 1048576: true; the input reads as it did. -/
def fnExactReadInt64WithTagUptoRow : OpenClaim := { program := "ytcimjejbakgadaa", sum := "9717accc636535150be2d98e30db19d1147a09c262057bbb1efaeef4d389535c", func := "loop.example/pub-g03335/laws.FnExactReadInt64WithTag", spec := "fnExactReadInt64WithTag", apart := false, narrowed := true }
def FnExactReadInt64WithTagUptoSaid : Prop := fnExactReadInt64WithTagUptoRow.holds Try.pinned (OpenSpec.upto fnExactReadInt64WithTagSpec)

/-- 'laws.FnBitsBothWays', WHERE WHAT IT READS IS OF BULK AT MOST 1048576: true; the input reads as it did. -/
def fnBitsBothWaysUptoRow : OpenClaim := { program := "ytcimjejbakgadaa", sum := "9717accc636535150be2d98e30db19d1147a09c262057bbb1efaeef4d389535c", func := "loop.example/pub-g03335/laws.FnBitsBothWays", spec := "fnBitsBothWays", apart := false, narrowed := true }
def FnBitsBothWaysUptoSaid : Prop := fnBitsBothWaysUptoRow.holds Try.pinned (OpenSpec.upto fnBitsBothWaysSpec)

/-- 'laws.FnExactReadInt64', WHERE WHAT IT READS IS OF BULK AT MOST 1048576: true; the input reads as it did. -/
def fnExactReadInt64UptoRow : OpenClaim := { program := "ytcimjejbakgadaa", sum := "9717accc636535150be2d98e30db19d1147a09c262057bbb1efaeef4d389535c", func := "loop.example/pub-g03335/laws.FnExactReadInt64", spec := "fnExactReadInt64", apart := false, narrowed := true }
def FnExactReadInt64UptoSaid : Prop := fnExactReadInt64UptoRow.holds Try.pinned (OpenSpec.upto fnExactReadInt64Spec)

/-- 'laws.FnExactReadOptionalBool', WHERE WHAT IT READS IS OF BULK AT MOST 1048576: true; the input reads as it did. -/
def fnExactReadOptionalBoolUptoRow : OpenClaim := { program := "ytcimjejbakgadaa", sum := "9717accc636535150be2d98e30db19d1147a09c262057bbb1efaeef4d389535c", func := "loop.example/pub-g03335/laws.FnExactReadOptionalBool", spec := "fnExactReadOptionalBool", apart := false, narrowed := true }
def FnExactReadOptionalBoolUptoSaid : Prop := fnExactReadOptionalBoolUptoRow.holds Try.pinned (OpenSpec.upto fnExactReadOptionalBoolSpec)

/-- 'laws.FnIntTagged', WHERE WHAT IT READS IS OF BULK AT MOST 1048576: true; the input reads as it did. -/
def fnIntTaggedUptoRow : OpenClaim := { program := "ytcimjejbakgadaa", sum := "9717accc636535150be2d98e30db19d1147a09c262057bbb1efaeef4d389535c", func := "loop.example/pub-g03335/laws.FnIntTagged", spec := "fnIntTagged", apart := false, narrowed := true }
def FnIntTaggedUptoSaid : Prop := fnIntTaggedUptoRow.holds Try.pinned (OpenSpec.upto fnIntTaggedSpec)

/-- 'laws.FnIntUint', WHERE WHAT IT READS IS OF BULK AT MOST 1048576: true; the input reads as it did. -/
def fnIntUintUptoRow : OpenClaim := { program := "ytcimjejbakgadaa", sum := "9717accc636535150be2d98e30db19d1147a09c262057bbb1efaeef4d389535c", func := "loop.example/pub-g03335/laws.FnIntUint", spec := "fnIntUint", apart := false, narrowed := true }
def FnIntUintUptoSaid : Prop := fnIntUintUptoRow.holds Try.pinned (OpenSpec.upto fnIntUintSpec)

end Rows
end Go.Proofs.Ytcimjejbakgadaa
