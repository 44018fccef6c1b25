/-
  NARROWER THAN 'FOR EVERY INPUT', by the rows' own cells (each row's printed sentence says how): FnExactBuildFixed: loops · FnFixedRoom: loops · FnErrorKept: loops · FnExactBuild: loops · FnValue: loops · FnWrapped: loops.
  DERIVED. THE GIVEN ROWS OF THIS SEAT. 8 by the template 'for every input the law returns true; each argument reads behind the call as it read before'; 0 by the template 'total and deterministic' (their statements: YtdnepnnkpaoaaaaTotals.lean).
  GIVEN WITH THE SEED: the statements are not yours to turn. If you find one false, say at which input.
  Laid BY PROGRAM, IN A SANDBOX (cutbox-rows.mjs): the forced cells as the released guide's own fill.sh prints them over the translation f24d9bab02acdcd4… (all of the seat's roots in one cut). By AI agents, Wed Nov 11 2026. No macro, syntax, notation, axiom, sorry.
-/
import Derived.Test.YtdnepnnkpaoaaaaChecked
import GoSem.Claim
import GoSem.ClaimJoined
import GoSem.ClaimMapViews
import Derived.JoinedTies
import Derived.KernelRfl
namespace Go.Proofs.Ytdnepnnkpaoaaaa
/- THE CELL 'sum', in the pinned program and in every row, IS THE sha256 OF THE DUMP (.gsa) THAT YtdnepnnkpaoaaaaProg.lean LOADS. Nothing in Lean hashes anything: it is a label: what it is worth is what the hold of that sum in a sandbox is worth. -/
noncomputable def Try.pinned : Pinned := { name := "ytdnepnnkpaoaaaa", sum := "f24d9bab02acdcd4c9db0ad18d0d5ae647d95bf09c9284b94a01eb3c87ce9063", checked := Try.checked }
namespace Rows
def none {H : Type} : Left H := { results := [], args := [] }

/-- 'laws.FnExactBuildFixed': WHATEVER THE INPUT: true; the input reads as it did. -/
def fnExactBuildFixedSpec : ChangeSpec := { name := "fnExactBuildFixed", fn := fun _ => fun
  | [d1, d2, d3] => { results := [.lit (.bool true)], args := [d1, d2, d3] }
  | _ => none }
def fnExactBuildFixedRow : OpenClaim := { program := "ytdnepnnkpaoaaaa", sum := "f24d9bab02acdcd4c9db0ad18d0d5ae647d95bf09c9284b94a01eb3c87ce9063", func := "loop.example/pub-g03335/laws.FnExactBuildFixed", spec := "fnExactBuildFixed", unfollowed := true, recurses := true, loops := true, apart := false }
def FnExactBuildFixedSaid : Prop := fnExactBuildFixedRow.holds Try.pinned (OpenSpec.ofChange fnExactBuildFixedSpec)

/-- ITS FALSE NEIGHBOUR: 'it returns false'. Refute it at one input. -/
def fnExactBuildFixedWrong : ChangeSpec := { name := "fnExactBuildFixed", fn := fun _ => fun
  | [d1, d2, d3] => { results := [.lit (.bool false)], args := [d1, d2, d3] }
  | _ => none }
def FnExactBuildFixedWrongFalsely : Prop := fnExactBuildFixedRow.holds Try.pinned (OpenSpec.ofChange fnExactBuildFixedWrong)

/-- 'laws.FnFixedRoom': WHATEVER THE INPUT: true; the input reads as it did. -/
def fnFixedRoomSpec : ChangeSpec := { name := "fnFixedRoom", fn := fun _ => fun
  | [d] => { results := [.lit (.bool true)], args := [d] }
  | _ => none }
def fnFixedRoomRow : OpenClaim := { program := "ytdnepnnkpaoaaaa", sum := "f24d9bab02acdcd4c9db0ad18d0d5ae647d95bf09c9284b94a01eb3c87ce9063", func := "loop.example/pub-g03335/laws.FnFixedRoom", spec := "fnFixedRoom", unfollowed := true, recurses := true, loops := true, apart := false }
def FnFixedRoomSaid : Prop := fnFixedRoomRow.holds Try.pinned (OpenSpec.ofChange fnFixedRoomSpec)

/-- ITS FALSE NEIGHBOUR: 'it returns false'. Refute it at one input. -/
def fnFixedRoomWrong : ChangeSpec := { name := "fnFixedRoom", fn := fun _ => fun
  | [d] => { results := [.lit (.bool false)], args := [d] }
  | _ => none }
def FnFixedRoomWrongFalsely : Prop := fnFixedRoomRow.holds Try.pinned (OpenSpec.ofChange fnFixedRoomWrong)

/-- 'laws.FnTreeAgain': WHATEVER THE INPUT: true; the input reads as it did. -/
def fnTreeAgainSpec : ChangeSpec := { name := "fnTreeAgain", fn := fun _ => fun
  | [d] => { results := [.lit (.bool true)], args := [d] }
  | _ => none }
def fnTreeAgainRow : OpenClaim := { program := "ytdnepnnkpaoaaaa", sum := "f24d9bab02acdcd4c9db0ad18d0d5ae647d95bf09c9284b94a01eb3c87ce9063", func := "loop.example/pub-g03335/laws.FnTreeAgain", spec := "fnTreeAgain", unfollowed := true, recurses := true, apart := false }
def FnTreeAgainSaid : Prop := fnTreeAgainRow.holds Try.pinned (OpenSpec.ofChange fnTreeAgainSpec)

/-- ITS FALSE NEIGHBOUR: 'it returns false'. Refute it at one input. -/
def fnTreeAgainWrong : ChangeSpec := { name := "fnTreeAgain", fn := fun _ => fun
  | [d] => { results := [.lit (.bool false)], args := [d] }
  | _ => none }
def FnTreeAgainWrongFalsely : Prop := fnTreeAgainRow.holds Try.pinned (OpenSpec.ofChange fnTreeAgainWrong)

/-- 'laws.FnBackOID': WHATEVER THE INPUT: true; the input reads as it did. -/
def fnBackOIDSpec : ChangeSpec := { name := "fnBackOID", fn := fun _ => fun
  | [d1, d2] => { results := [.lit (.bool true)], args := [d1, d2] }
  | _ => none }
def fnBackOIDRow : OpenClaim := { program := "ytdnepnnkpaoaaaa", sum := "f24d9bab02acdcd4c9db0ad18d0d5ae647d95bf09c9284b94a01eb3c87ce9063", func := "loop.example/pub-g03335/laws.FnBackOID", spec := "fnBackOID", unfollowed := true, recurses := true, apart := false }
def FnBackOIDSaid : Prop := fnBackOIDRow.holds Try.pinned (OpenSpec.ofChange fnBackOIDSpec)

/-- ITS FALSE NEIGHBOUR: 'it returns false'. Refute it at one input. -/
def fnBackOIDWrong : ChangeSpec := { name := "fnBackOID", fn := fun _ => fun
  | [d1, d2] => { results := [.lit (.bool false)], args := [d1, d2] }
  | _ => none }
def FnBackOIDWrongFalsely : Prop := fnBackOIDRow.holds Try.pinned (OpenSpec.ofChange fnBackOIDWrong)

/-- 'laws.FnErrorKept': WHATEVER THE INPUT: true; the input reads as it did. -/
def fnErrorKeptSpec : ChangeSpec := { name := "fnErrorKept", fn := fun _ => fun
  | [d1, d2] => { results := [.lit (.bool true)], args := [d1, d2] }
  | _ => none }
def fnErrorKeptRow : OpenClaim := { program := "ytdnepnnkpaoaaaa", sum := "f24d9bab02acdcd4c9db0ad18d0d5ae647d95bf09c9284b94a01eb3c87ce9063", func := "loop.example/pub-g03335/laws.FnErrorKept", spec := "fnErrorKept", unfollowed := true, recurses := true, loops := true, apart := false }
def FnErrorKeptSaid : Prop := fnErrorKeptRow.holds Try.pinned (OpenSpec.ofChange fnErrorKeptSpec)

/-- ITS FALSE NEIGHBOUR: 'it returns false'. Refute it at one input. -/
def fnErrorKeptWrong : ChangeSpec := { name := "fnErrorKept", fn := fun _ => fun
  | [d1, d2] => { results := [.lit (.bool false)], args := [d1, d2] }
  | _ => none }
def FnErrorKeptWrongFalsely : Prop := fnErrorKeptRow.holds Try.pinned (OpenSpec.ofChange fnErrorKeptWrong)

/-- 'laws.FnExactBuild': WHATEVER THE INPUT: true; the input reads as it did. -/
def fnExactBuildSpec : ChangeSpec := { name := "fnExactBuild", fn := fun _ => fun
  | [d] => { results := [.lit (.bool true)], args := [d] }
  | _ => none }
def fnExactBuildRow : OpenClaim := { program := "ytdnepnnkpaoaaaa", sum := "f24d9bab02acdcd4c9db0ad18d0d5ae647d95bf09c9284b94a01eb3c87ce9063", func := "loop.example/pub-g03335/laws.FnExactBuild", spec := "fnExactBuild", unfollowed := true, recurses := true, loops := true, apart := false }
def FnExactBuildSaid : Prop := fnExactBuildRow.holds Try.pinned (OpenSpec.ofChange fnExactBuildSpec)

/-- ITS FALSE NEIGHBOUR: 'it returns false'. Refute it at one input. -/
def fnExactBuildWrong : ChangeSpec := { name := "fnExactBuild", fn := fun _ => fun
  | [d] => { results := [.lit (.bool false)], args := [d] }
  | _ => none }
def FnExactBuildWrongFalsely : Prop := fnExactBuildRow.holds Try.pinned (OpenSpec.ofChange fnExactBuildWrong)

/-- 'laws.FnValue': WHATEVER THE INPUT: true; the input reads as it did. -/
def fnValueSpec : ChangeSpec := { name := "fnValue", fn := fun _ => fun
  | [d] => { results := [.lit (.bool true)], args := [d] }
  | _ => none }
def fnValueRow : OpenClaim := { program := "ytdnepnnkpaoaaaa", sum := "f24d9bab02acdcd4c9db0ad18d0d5ae647d95bf09c9284b94a01eb3c87ce9063", func := "loop.example/pub-g03335/laws.FnValue", spec := "fnValue", unfollowed := true, recurses := true, loops := true, apart := false }
def FnValueSaid : Prop := fnValueRow.holds Try.pinned (OpenSpec.ofChange fnValueSpec)

/-- ITS FALSE NEIGHBOUR: 'it returns false'. Refute it at one input. -/
def fnValueWrong : ChangeSpec := { name := "fnValue", fn := fun _ => fun
  | [d] => { results := [.lit (.bool false)], args := [d] }
  | _ => none }
def FnValueWrongFalsely : Prop := fnValueRow.holds Try.pinned (OpenSpec.ofChange fnValueWrong)

/-- 'laws.FnWrapped': WHATEVER THE INPUT: true; the input reads as it did. -/
def fnWrappedSpec : ChangeSpec := { name := "fnWrapped", fn := fun _ => fun
  | [d1, d2] => { results := [.lit (.bool true)], args := [d1, d2] }
  | _ => none }
def fnWrappedRow : OpenClaim := { program := "ytdnepnnkpaoaaaa", sum := "f24d9bab02acdcd4c9db0ad18d0d5ae647d95bf09c9284b94a01eb3c87ce9063", func := "loop.example/pub-g03335/laws.FnWrapped", spec := "fnWrapped", unfollowed := true, recurses := true, loops := true, apart := false }
def FnWrappedSaid : Prop := fnWrappedRow.holds Try.pinned (OpenSpec.ofChange fnWrappedSpec)

/-- ITS FALSE NEIGHBOUR: 'it returns false'. Refute it at one input. -/
def fnWrappedWrong : ChangeSpec := { name := "fnWrapped", fn := fun _ => fun
  | [d1, d2] => { results := [.lit (.bool false)], args := [d1, d2] }
  | _ => none }
def FnWrappedWrongFalsely : Prop := fnWrappedRow.holds Try.pinned (OpenSpec.ofChange fnWrappedWrong)

/- THE SECOND FORM. 'bulk': how many values and letters a reading holds, each counted each time it is reached (what is shared counts as often as it is met; a slice's spare places count too). A statement '..UptoSaid' is the law's where the arguments, and the package variables that the reading takes, are together of bulk at most 1048576: NARROWER than '..Said'. Prove '..Said' where nothing that the law and all that it calls make is longer than what came in: it says more and counts as full. Else prove '..UptoSaid'. A law counts once. -/
mutual
def uptoBulk {H : Type} : DataW H → Nat
  | .lit (.string bytes) => bytes.length + 1
  | .lit _ => 1
  | .nil => 1
  | .ptr d => uptoBulk d + 1
  | .slice elems spare => uptoBulkAll elems + uptoBulkAll spare + 1
  | .agg parts => uptoBulkAll parts + 1
  | .iface _ d => uptoBulk d + 1
  | .map entries => uptoBulkEntries entries + 1
  | .held _ => 1
def uptoBulkAll {H : Type} : List (DataW H) → Nat
  | [] => 0
  | d :: r => uptoBulk d + uptoBulkAll r
def uptoBulkEntries {H : Type} : List (Lit × DataW H) → Nat
  | [] => 0
  | x :: r => uptoBulkEntry x + uptoBulkEntries r
def uptoBulkEntry {H : Type} : Lit × DataW H → Nat
  | (.string bytes, d) => bytes.length + uptoBulk d + 1
  | (_, d) => uptoBulk d + 1
 end
def uptoSmall : (H : Type) → List (DataW H) → Bool := fun _ ds => decide (uptoBulkAll ds ≤ 1048576)
def OpenSpec.upto (s : _root_.Go.ChangeSpec) : _root_.Go.OpenSpec := { _root_.Go.OpenSpec.ofChange s with cond := some uptoSmall }

/-- 'laws.FnExactBuildFixed', WHERE WHAT IT READS IS OF BULK AT MOST 1048576: true; the input reads as it did. -/
def fnExactBuildFixedUptoRow : OpenClaim := { program := "ytdnepnnkpaoaaaa", sum := "f24d9bab02acdcd4c9db0ad18d0d5ae647d95bf09c9284b94a01eb3c87ce9063", func := "loop.example/pub-g03335/laws.FnExactBuildFixed", spec := "fnExactBuildFixed", unfollowed := true, recurses := true, loops := true, apart := false, narrowed := true }
def FnExactBuildFixedUptoSaid : Prop := fnExactBuildFixedUptoRow.holds Try.pinned (OpenSpec.upto fnExactBuildFixedSpec)

/-- 'laws.FnFixedRoom', WHERE WHAT IT READS IS OF BULK AT MOST 1048576: true; the input reads as it did. -/
def fnFixedRoomUptoRow : OpenClaim := { program := "ytdnepnnkpaoaaaa", sum := "f24d9bab02acdcd4c9db0ad18d0d5ae647d95bf09c9284b94a01eb3c87ce9063", func := "loop.example/pub-g03335/laws.FnFixedRoom", spec := "fnFixedRoom", unfollowed := true, recurses := true, loops := true, apart := false, narrowed := true }
def FnFixedRoomUptoSaid : Prop := fnFixedRoomUptoRow.holds Try.pinned (OpenSpec.upto fnFixedRoomSpec)

/-- 'laws.FnTreeAgain', WHERE WHAT IT READS IS OF BULK AT MOST 1048576: true; the input reads as it did. -/
def fnTreeAgainUptoRow : OpenClaim := { program := "ytdnepnnkpaoaaaa", sum := "f24d9bab02acdcd4c9db0ad18d0d5ae647d95bf09c9284b94a01eb3c87ce9063", func := "loop.example/pub-g03335/laws.FnTreeAgain", spec := "fnTreeAgain", unfollowed := true, recurses := true, apart := false, narrowed := true }
def FnTreeAgainUptoSaid : Prop := fnTreeAgainUptoRow.holds Try.pinned (OpenSpec.upto fnTreeAgainSpec)

/-- 'laws.FnBackOID', WHERE WHAT IT READS IS OF BULK AT MOST 1048576: true; the input reads as it did. -/
def fnBackOIDUptoRow : OpenClaim := { program := "ytdnepnnkpaoaaaa", sum := "f24d9bab02acdcd4c9db0ad18d0d5ae647d95bf09c9284b94a01eb3c87ce9063", func := "loop.example/pub-g03335/laws.FnBackOID", spec := "fnBackOID", unfollowed := true, recurses := true, apart := false, narrowed := true }
def FnBackOIDUptoSaid : Prop := fnBackOIDUptoRow.holds Try.pinned (OpenSpec.upto fnBackOIDSpec)

/-- 'laws.FnErrorKept', WHERE WHAT IT READS IS OF BULK AT MOST 1048576: true; the input reads as it did. -/
def fnErrorKeptUptoRow : OpenClaim := { program := "ytdnepnnkpaoaaaa", sum := "f24d9bab02acdcd4c9db0ad18d0d5ae647d95bf09c9284b94a01eb3c87ce9063", func := "loop.example/pub-g03335/laws.FnErrorKept", spec := "fnErrorKept", unfollowed := true, recurses := true, loops := true, apart := false, narrowed := true }
def FnErrorKeptUptoSaid : Prop := fnErrorKeptUptoRow.holds Try.pinned (OpenSpec.upto fnErrorKeptSpec)

/-- 'laws.FnExactBuild', WHERE WHAT IT READS IS OF BULK AT MOST 1048576: true; the input reads as it did. -/
def fnExactBuildUptoRow : OpenClaim := { program := "ytdnepnnkpaoaaaa", sum := "f24d9bab02acdcd4c9db0ad18d0d5ae647d95bf09c9284b94a01eb3c87ce9063", func := "loop.example/pub-g03335/laws.FnExactBuild", spec := "fnExactBuild", unfollowed := true, recurses := true, loops := true, apart := false, narrowed := true }
def FnExactBuildUptoSaid : Prop := fnExactBuildUptoRow.holds Try.pinned (OpenSpec.upto fnExactBuildSpec)

/-- 'laws.FnValue', WHERE WHAT IT READS IS OF BULK AT MOST 1048576: true; the input reads as it did. -/
def fnValueUptoRow : OpenClaim := { program := "ytdnepnnkpaoaaaa", sum := "f24d9bab02acdcd4c9db0ad18d0d5ae647d95bf09c9284b94a01eb3c87ce9063", func := "loop.example/pub-g03335/laws.FnValue", spec := "fnValue", unfollowed := true, recurses := true, loops := true, apart := false, narrowed := true }
def FnValueUptoSaid : Prop := fnValueUptoRow.holds Try.pinned (OpenSpec.upto fnValueSpec)

/-- 'laws.FnWrapped', WHERE WHAT IT READS IS OF BULK AT MOST 1048576: true; the input reads as it did. -/
def fnWrappedUptoRow : OpenClaim := { program := "ytdnepnnkpaoaaaa", sum := "f24d9bab02acdcd4c9db0ad18d0d5ae647d95bf09c9284b94a01eb3c87ce9063", func := "loop.example/pub-g03335/laws.FnWrapped", spec := "fnWrapped", unfollowed := true, recurses := true, loops := true, apart := false, narrowed := true }
def FnWrappedUptoSaid : Prop := fnWrappedUptoRow.holds Try.pinned (OpenSpec.upto fnWrappedSpec)

end Rows
end Go.Proofs.Ytdnepnnkpaoaaaa
