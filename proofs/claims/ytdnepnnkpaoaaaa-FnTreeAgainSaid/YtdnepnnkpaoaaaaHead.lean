/- The facts on the translation's head that a row asks of the whole program: shown off the head's first words alone, so that they stay small however many statements the translation holds. -/
import Derived.Test.YtdnepnnkpaoaaaaRows
import Derived.Test.YtdnepnnkpaoaaaaBase
import Derived.JoinedOf
import Derived.KernelRfl
namespace Go.Proofs.Ytdnepnnkpaoaaaa

def headPre : List Char := ([104, 97, 114, 110, 101, 115, 115, 32, 49, 97, 57, 50, 50, 52, 51, 98, 97, 100, 49, 48, 48, 51, 53, 49, 100, 48, 102, 52, 56, 56, 51, 51, 102, 48, 55, 53, 55, 56, 53, 101, 101, 52, 48, 99, 54, 53, 98, 97, 51, 100, 100, 101, 102, 55, 100, 56, 98, 50, 102, 51, 99, 49, 52, 52, 55, 97, 48, 48, 101, 101, 49, 49, 32, 99, 117, 116, 32] : List Nat).map Char.ofNat
def headRest : List Char := ([97, 116, 32, 108, 111, 111, 112, 46, 101, 120, 97, 109, 112, 108, 101, 47, 112, 117, 98, 45, 103, 48, 51, 51, 51, 53, 47, 108, 97, 119, 115, 46, 70, 110, 69, 120, 97, 99, 116, 66, 117, 105, 108, 100, 70, 105, 120, 101, 100, 32, 108, 111, 111, 112, 46, 101, 120, 97, 109, 112, 108, 101, 47, 112, 117, 98, 45, 103, 48, 51, 51, 51, 53, 47, 108, 97, 119, 115, 46, 70, 110, 70, 105, 120, 101, 100, 82, 111, 111, 109, 32, 108, 111, 111, 112, 46, 101, 120, 97, 109, 112, 108, 101, 47, 112, 117, 98, 45, 103, 48, 51, 51, 51, 53, 47, 108, 97, 119, 115, 46, 70, 110, 84, 114, 101, 101, 65, 103, 97, 105, 110, 32, 108, 111, 111, 112, 46, 101, 120, 97, 109, 112, 108, 101, 47, 112, 117, 98, 45, 103, 48, 51, 51, 51, 53, 47, 108, 97, 119, 115, 46, 70, 110, 66, 97, 99, 107, 79, 73, 68, 32, 108, 111, 111, 112, 46, 101, 120, 97, 109, 112, 108, 101, 47, 112, 117, 98, 45, 103, 48, 51, 51, 51, 53, 47, 108, 97, 119, 115, 46, 70, 110, 69, 114, 114, 111, 114, 75, 101, 112, 116, 32, 108, 111, 111, 112, 46, 101, 120, 97, 109, 112, 108, 101, 47, 112, 117, 98, 45, 103, 48, 51, 51, 51, 53, 47, 108, 97, 119, 115, 46, 70, 110, 69, 120, 97, 99, 116, 66, 117, 105, 108, 100, 32, 108, 111, 111, 112, 46, 101, 120, 97, 109, 112, 108, 101, 47, 112, 117, 98, 45, 103, 48, 51, 51, 51, 53, 47, 108, 97, 119, 115, 46, 70, 110, 86, 97, 108, 117, 101, 32, 108, 111, 111, 112, 46, 101, 120, 97, 109, 112, 108, 101, 47, 112, 117, 98, 45, 103, 48, 51, 51, 51, 53, 47, 108, 97, 119, 115, 46, 70, 110, 87, 114, 97, 112, 112, 101, 100] : List Nat).map Char.ofNat
theorem head_is : Try.prog.initOrder = "harness 1a92243bad100351d0f48833f075785ee40c65ba3ddef7d8b2f3c1447a00ee11 cut at loop.example/pub-g03335/laws.FnExactBuildFixed loop.example/pub-g03335/laws.FnFixedRoom loop.example/pub-g03335/laws.FnTreeAgain loop.example/pub-g03335/laws.FnBackOID loop.example/pub-g03335/laws.FnErrorKept loop.example/pub-g03335/laws.FnExactBuild loop.example/pub-g03335/laws.FnValue loop.example/pub-g03335/laws.FnWrapped" := by kernel_rfl
theorem head_chars : "harness 1a92243bad100351d0f48833f075785ee40c65ba3ddef7d8b2f3c1447a00ee11 cut at loop.example/pub-g03335/laws.FnExactBuildFixed loop.example/pub-g03335/laws.FnFixedRoom loop.example/pub-g03335/laws.FnTreeAgain loop.example/pub-g03335/laws.FnBackOID loop.example/pub-g03335/laws.FnErrorKept loop.example/pub-g03335/laws.FnExactBuild loop.example/pub-g03335/laws.FnValue loop.example/pub-g03335/laws.FnWrapped" = String.ofList (headPre ++ headRest) := by kernel_rfl
theorem head_toList : Try.prog.initOrder.toList = headPre ++ headRest := (congrArg String.toList (head_is.trans head_chars)).trans String.toList_ofList
theorem words_is (P : Program) (h : P.initOrder.toList = headPre ++ headRest) : ∃ ws, behindMainWord (wordsSigns P.initOrder.toList) = "cut".toList :: ws := by
  rw [h]
  generalize headRest = T
  exact ⟨wordsSigns T, by kernel_rfl⟩
theorem make_of (P : Program) (ws : List (List Char)) (h : behindMainWord (wordsSigns P.initOrder.toList) = "cut".toList :: ws) : P.make = some .cut := by
  unfold Program.make
  rw [h]
  rfl
theorem liftsFinal_of (P : Program) (ws : List (List Char)) (h : behindMainWord (wordsSigns P.initOrder.toList) = "cut".toList :: ws) : P.liftsFinal = false := by
  unfold Program.liftsFinal
  unfold Program.headLifts
  rw [h]
  kernel_rfl
theorem mayEnter_of (P : Program) (ws : List (List Char)) (h : behindMainWord (wordsSigns P.initOrder.toList) = "cut".toList :: ws) (h1 : P.laysLater = false) (h2 : P.bearsReflect = false) (h3 : P.doorFits [] = true) : P.mayEnter = true := by
  unfold Program.mayEnter
  rw [h]
  have e : stripLifts liftWords ("cut".toList :: ws) = ([], "cut".toList :: ws) := by kernel_rfl
  simp only [e, h1, h2, h3]
  rfl
theorem laysLater_no : Try.prog.laysLater = false := by kernel_rfl
theorem bearsReflect_no : Try.prog.bearsReflect = false := by kernel_rfl
theorem doorFits_yes : Try.prog.doorFits [] = true := by kernel_rfl
theorem mayEnter_yes : Try.prog.mayEnter = true := (words_is _ head_toList).elim fun ws h => mayEnter_of _ ws h laysLater_no bearsReflect_no doorFits_yes
theorem make_cut : Try.prog.make = some .cut := (words_is _ head_toList).elim fun ws h => make_of _ ws h
theorem liftsFinal_no : Try.prog.liftsFinal = false := (words_is _ head_toList).elim fun ws h => liftsFinal_of _ ws h
theorem and_i {a b : Bool} (ha : a = true) (hb : b = true) : (a && b) = true := by rw [ha, hb]; rfl
end Go.Proofs.Ytdnepnnkpaoaaaa
