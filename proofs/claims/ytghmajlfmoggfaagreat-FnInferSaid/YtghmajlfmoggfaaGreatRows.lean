/-
  NARROWER THAN 'FOR EVERY INPUT', by the rows' own cells (each row's printed sentence says how): FnInfer: loops · FnItself: loops · FnMerge: loops · FnTaken: loops.
  DERIVED. THE GIVEN ROWS OF THIS SEAT. 4 by the template 'for every input the law returns true; each argument reads behind the call as it read before'; 0 by the template 'total and deterministic' (their statements: YtghmajlfmoggfaaGreatTotals.lean).
  GIVEN WITH THE SEED: the statements are not yours to turn. If you find one false, say at which input.
  Laid BY PROGRAM, IN A SANDBOX (cutbox-rows.mjs): the forced cells as the released guide's own fill.sh prints them over the translation 7ec192981b1dc740… (all of the seat's roots in one cut). By AI agents, Wed Nov 11 2026. No macro, syntax, notation, axiom, sorry.
-/
import Derived.Test.YtghmajlfmoggfaaGreatChecked
import GoSem.Claim
import GoSem.ClaimJoined
import GoSem.ClaimMapViews
import Derived.JoinedTies
import Derived.KernelRfl
namespace Go.Proofs.YtghmajlfmoggfaaGreat
/- THE CELL 'sum', in the pinned program and in every row, IS THE sha256 OF THE DUMP (.gsa) THAT YtghmajlfmoggfaaGreatProg.lean LOADS. Nothing in Lean hashes anything: it is a label: what it is worth is what the hold of that sum in a sandbox is worth. -/
noncomputable def Tryz.pinned : Pinned := { name := "ytghmajlfmoggfaagreat", sum := "7ec192981b1dc740c66642738f84d73848055b667d005b41cce90c990c02a5aa", checked := Tryz.checked }
namespace Rows
def none {H : Type} : Left H := { results := [], args := [] }

/-- 'laws.FnInfer': WHATEVER THE INPUT: true; the input reads as it did. -/
def fnInferSpec : ChangeSpec := { name := "fnInfer", fn := fun _ => fun
  | [d1, d2] => { results := [.lit (.bool true)], args := [d1, d2] }
  | _ => none }
def fnInferRow : OpenClaim := { program := "ytghmajlfmoggfaagreat", sum := "7ec192981b1dc740c66642738f84d73848055b667d005b41cce90c990c02a5aa", func := "loop.example/pub-g03068/laws.FnInfer", spec := "fnInfer", unfollowed := true, recurses := true, loops := true, apart := false }
def FnInferSaid : Prop := fnInferRow.holds Tryz.pinned (OpenSpec.ofChange fnInferSpec)

/-- ITS FALSE NEIGHBOUR: 'it returns false'. Refute it at one input. -/
def fnInferWrong : ChangeSpec := { name := "fnInfer", fn := fun _ => fun
  | [d1, d2] => { results := [.lit (.bool false)], args := [d1, d2] }
  | _ => none }
def FnInferWrongFalsely : Prop := fnInferRow.holds Tryz.pinned (OpenSpec.ofChange fnInferWrong)

/-- 'laws.FnItself': WHATEVER THE INPUT: true; the input reads as it did. -/
def fnItselfSpec : ChangeSpec := { name := "fnItself", fn := fun _ => fun
  | [d1, d2] => { results := [.lit (.bool true)], args := [d1, d2] }
  | _ => none }
def fnItselfRow : OpenClaim := { program := "ytghmajlfmoggfaagreat", sum := "7ec192981b1dc740c66642738f84d73848055b667d005b41cce90c990c02a5aa", func := "loop.example/pub-g03068/laws.FnItself", spec := "fnItself", unfollowed := true, recurses := true, loops := true, apart := false }
def FnItselfSaid : Prop := fnItselfRow.holds Tryz.pinned (OpenSpec.ofChange fnItselfSpec)

/-- ITS FALSE NEIGHBOUR: 'it returns false'. Refute it at one input. -/
def fnItselfWrong : ChangeSpec := { name := "fnItself", fn := fun _ => fun
  | [d1, d2] => { results := [.lit (.bool false)], args := [d1, d2] }
  | _ => none }
def FnItselfWrongFalsely : Prop := fnItselfRow.holds Tryz.pinned (OpenSpec.ofChange fnItselfWrong)

/-- 'laws.FnMerge': WHATEVER THE INPUT: true; the input reads as it did. -/
def fnMergeSpec : ChangeSpec := { name := "fnMerge", fn := fun _ => fun
  | [d1, d2, d3] => { results := [.lit (.bool true)], args := [d1, d2, d3] }
  | _ => none }
def fnMergeRow : OpenClaim := { program := "ytghmajlfmoggfaagreat", sum := "7ec192981b1dc740c66642738f84d73848055b667d005b41cce90c990c02a5aa", func := "loop.example/pub-g03068/laws.FnMerge", spec := "fnMerge", unfollowed := true, recurses := true, loops := true, apart := false }
def FnMergeSaid : Prop := fnMergeRow.holds Tryz.pinned (OpenSpec.ofChange fnMergeSpec)

/-- ITS FALSE NEIGHBOUR: 'it returns false'. Refute it at one input. -/
def fnMergeWrong : ChangeSpec := { name := "fnMerge", fn := fun _ => fun
  | [d1, d2, d3] => { results := [.lit (.bool false)], args := [d1, d2, d3] }
  | _ => none }
def FnMergeWrongFalsely : Prop := fnMergeRow.holds Tryz.pinned (OpenSpec.ofChange fnMergeWrong)

/-- 'laws.FnTaken': WHATEVER THE INPUT: true; the input reads as it did. -/
def fnTakenSpec : ChangeSpec := { name := "fnTaken", fn := fun _ => fun
  | [d1, d2, d3] => { results := [.lit (.bool true)], args := [d1, d2, d3] }
  | _ => none }
def fnTakenRow : OpenClaim := { program := "ytghmajlfmoggfaagreat", sum := "7ec192981b1dc740c66642738f84d73848055b667d005b41cce90c990c02a5aa", func := "loop.example/pub-g03068/laws.FnTaken", spec := "fnTaken", unfollowed := true, recurses := true, loops := true, apart := false }
def FnTakenSaid : Prop := fnTakenRow.holds Tryz.pinned (OpenSpec.ofChange fnTakenSpec)

/-- ITS FALSE NEIGHBOUR: 'it returns false'. Refute it at one input. -/
def fnTakenWrong : ChangeSpec := { name := "fnTaken", fn := fun _ => fun
  | [d1, d2, d3] => { results := [.lit (.bool false)], args := [d1, d2, d3] }
  | _ => none }
def FnTakenWrongFalsely : Prop := fnTakenRow.holds Tryz.pinned (OpenSpec.ofChange fnTakenWrong)

/- THE SECOND FORM. 'bulk': how many values and letters a reading holds, each counted each time it is reached (what is shared counts as often as it is met; a slice's spare places count too). A statement '..UptoSaid' is the law's where the arguments, and the package variables that the reading takes, are together of bulk at most 1048576: NARROWER than '..Said'. Prove '..Said' where nothing that the law and all that it calls make is longer than what came in: it says more and counts as full. Else prove '..UptoSaid'. A law counts once. -/
mutual
def uptoBulk {H : Type} : DataW H → Nat
  | .lit (.string bytes) => bytes.length + 1
  | .lit _ => 1
  | .nil => 1
  | .ptr d => uptoBulk d + 1
  | .slice elems spare => uptoBulkAll elems + uptoBulkAll spare + 1
  | .agg parts => uptoBulkAll parts + 1
  | .iface _ d => uptoBulk d + 1
  | .map entries => uptoBulkEntries entries + 1
  | .held _ => 1
def uptoBulkAll {H : Type} : List (DataW H) → Nat
  | [] => 0
  | d :: r => uptoBulk d + uptoBulkAll r
def uptoBulkEntries {H : Type} : List (Lit × DataW H) → Nat
  | [] => 0
  | x :: r => uptoBulkEntry x + uptoBulkEntries r
def uptoBulkEntry {H : Type} : Lit × DataW H → Nat
  | (.string bytes, d) => bytes.length + uptoBulk d + 1
  | (_, d) => uptoBulk d + 1
 end
def uptoSmall : (H : Type) → List (DataW H) → Bool := fun _ ds => decide (uptoBulkAll ds ≤ 1048576)
def OpenSpec.upto (s : _root_.Go.ChangeSpec) : _root_.Go.OpenSpec := { _root_.Go.OpenSpec.ofChange s with cond := some uptoSmall }

/-- 'laws.FnInfer', WHERE WHAT IT READS IS OF BULK AT MOST 1048576: true; the input reads as it did. -/
def fnInferUptoRow : OpenClaim := { program := "ytghmajlfmoggfaagreat", sum := "7ec192981b1dc740c66642738f84d73848055b667d005b41cce90c990c02a5aa", func := "loop.example/pub-g03068/laws.FnInfer", spec := "fnInfer", unfollowed := true, recurses := true, loops := true, apart := false, narrowed := true }
def FnInferUptoSaid : Prop := fnInferUptoRow.holds Tryz.pinned (OpenSpec.upto fnInferSpec)

/-- 'laws.FnItself', WHERE WHAT IT READS IS OF BULK AT MOST 1048576: true; the input reads as it did. -/
def fnItselfUptoRow : OpenClaim := { program := "ytghmajlfmoggfaagreat", sum := "7ec192981b1dc740c66642738f84d73848055b667d005b41cce90c990c02a5aa", func := "loop.example/pub-g03068/laws.FnItself", spec := "fnItself", unfollowed := true, recurses := true, loops := true, apart := false, narrowed := true }
def FnItselfUptoSaid : Prop := fnItselfUptoRow.holds Tryz.pinned (OpenSpec.upto fnItselfSpec)

/-- 'laws.FnMerge', WHERE WHAT IT READS IS OF BULK AT MOST 1048576: true; the input reads as it did. -/
def fnMergeUptoRow : OpenClaim := { program := "ytghmajlfmoggfaagreat", sum := "7ec192981b1dc740c66642738f84d73848055b667d005b41cce90c990c02a5aa", func := "loop.example/pub-g03068/laws.FnMerge", spec := "fnMerge", unfollowed := true, recurses := true, loops := true, apart := false, narrowed := true }
def FnMergeUptoSaid : Prop := fnMergeUptoRow.holds Tryz.pinned (OpenSpec.upto fnMergeSpec)

/-- 'laws.FnTaken', WHERE WHAT IT READS IS OF BULK AT MOST 1048576: true; the input reads as it did. -/
def fnTakenUptoRow : OpenClaim := { program := "ytghmajlfmoggfaagreat", sum := "7ec192981b1dc740c66642738f84d73848055b667d005b41cce90c990c02a5aa", func := "loop.example/pub-g03068/laws.FnTaken", spec := "fnTaken", unfollowed := true, recurses := true, loops := true, apart := false, narrowed := true }
def FnTakenUptoSaid : Prop := fnTakenUptoRow.holds Tryz.pinned (OpenSpec.upto fnTakenSpec)

end Rows
end Go.Proofs.YtghmajlfmoggfaaGreat
