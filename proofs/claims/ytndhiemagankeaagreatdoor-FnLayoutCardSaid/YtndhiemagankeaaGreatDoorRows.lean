/-
  NARROWER THAN 'FOR EVERY INPUT', by the rows' own cells (each row's printed sentence says how): FnLayout: ifaces, laid.
  DERIVED. THE GIVEN ROWS OF THIS SEAT. 1 by the template 'for every input the law returns true; each argument reads behind the call as it read before'; 0 by the template 'total and deterministic' (their statements: YtndhiemagankeaaGreatDoorTotals.lean).
  GIVEN WITH THE SEED: the statements are not yours to turn. If you find one false, say at which input.
  Laid BY PROGRAM, IN A SANDBOX (cutbox-rows.mjs): the forced cells as the released guide's own fill.sh prints them over the translation 7864821f32cee10a… (all of the seat's roots in one cut). By AI agents, Wed Nov 11 2026. No macro, syntax, notation, axiom, sorry.
-/
import Derived.Test.YtndhiemagankeaaGreatDoorChecked
import GoSem.Claim
import GoSem.ClaimJoined
import GoSem.ClaimMapViews
import Derived.JoinedTies
import Derived.KernelRfl
namespace Go.Proofs.YtndhiemagankeaaGreatDoor
/- THE CELL 'sum', in the pinned program and in every row, IS THE sha256 OF THE DUMP (.gsa) THAT YtndhiemagankeaaGreatDoorProg.lean LOADS. Nothing in Lean hashes anything: it is a label: what it is worth is what the hold of that sum in a sandbox is worth. -/
noncomputable def Tryz.pinned : Pinned := { name := "ytndhiemagankeaagreatdoor", sum := "7864821f32cee10ab63aee8ac6cfd5f3b8023c6ddd018b407158e786794a7ee5", checked := Tryz.checked }
namespace Rows
def none {H : Type} : Left H := { results := [], args := [] }

/- WHAT THE LISTED PACKAGE-LEVEL VARIABLES READ AS WHEN THE CALL BEGINS. Each datum BY PROGRAM (the guide's laid-datum.mjs) off the statement by which the dump's own 'gosem.cut.vars' lays the variable. In a bare row this is a premise. The card (YtndhiemagankeaaGreatDoorCards.lean) ties it to the program's text. -/
def laid_loop_example_pub_layouttheorem_pub_gotime_std0x {H : Type} : DataW H := .agg [.lit (.int .i64 260), .lit (.int .i64 265), .lit (.int .i64 1038), .lit (.int .i64 1040), .lit (.int .i64 1042), .lit (.int .i64 276)]
def laid_loop_example_pub_layouttheorem_pub_gotime_errAtoi {H : Type} : DataW H := .iface "*errors.errorString" (.ptr (.agg [.lit (.string [116, 105, 109, 101, 58, 32, 105, 110, 118, 97, 108, 105, 100, 32, 110, 117, 109, 98, 101, 114])]))
def laid_loop_example_pub_layouttheorem_pub_gotime_errBad {H : Type} : DataW H := .iface "*errors.errorString" (.ptr (.agg [.lit (.string [98, 97, 100, 32, 118, 97, 108, 117, 101, 32, 102, 111, 114, 32, 102, 105, 101, 108, 100])]))
def laid_loop_example_pub_layouttheorem_pub_gotime_errLeadingInt {H : Type} : DataW H := .iface "*errors.errorString" (.ptr (.agg [.lit (.string [116, 105, 109, 101, 58, 32, 98, 97, 100, 32, 91, 48, 45, 57, 93, 42])]))

/-- 'laws.FnLayout': WHATEVER THE INPUT: true; the input reads as it did. -/
def fnLayoutSpec : ChangeSpec := { name := "fnLayout", vars := ["loop.example/pub-layouttheorem/pub/gotime.errBad", "loop.example/pub-layouttheorem/pub/gotime.errAtoi", "loop.example/pub-layouttheorem/pub/gotime.errLeadingInt", "loop.example/pub-layouttheorem/pub/gotime.std0x"], fn := fun _ => fun
  | [d1, d2, d3, g1, g2, g3, g4] => { results := [.lit (.bool true)], args := [d1, d2, d3], vars := [g1, g2, g3, g4] }
  | _ => none }
def fnLayoutRow : OpenClaim := { program := "ytndhiemagankeaagreatdoor", sum := "7864821f32cee10ab63aee8ac6cfd5f3b8023c6ddd018b407158e786794a7ee5", func := "loop.example/pub-layouttheorem/laws.FnLayout", spec := "fnLayout", unfollowed := true, recurses := true, named := ["loop.example/pub-layouttheorem/pub/gotime.errBad", "loop.example/pub-layouttheorem/pub/gotime.errAtoi", "loop.example/pub-layouttheorem/pub/gotime.errLeadingInt", "loop.example/pub-layouttheorem/pub/gotime.std0x"], ifaces := true, apart := false, laid := [("loop.example/pub-layouttheorem/pub/gotime.std0x", laid_loop_example_pub_layouttheorem_pub_gotime_std0x), ("loop.example/pub-layouttheorem/pub/gotime.errAtoi", laid_loop_example_pub_layouttheorem_pub_gotime_errAtoi), ("loop.example/pub-layouttheorem/pub/gotime.errBad", laid_loop_example_pub_layouttheorem_pub_gotime_errBad), ("loop.example/pub-layouttheorem/pub/gotime.errLeadingInt", laid_loop_example_pub_layouttheorem_pub_gotime_errLeadingInt)] }
def FnLayoutSaid : Prop := fnLayoutRow.holds Tryz.pinned (OpenSpec.ofChange fnLayoutSpec)

/-- ITS FALSE NEIGHBOUR: 'it returns false'. Refute it at one input. -/
def fnLayoutWrong : ChangeSpec := { name := "fnLayout", vars := ["loop.example/pub-layouttheorem/pub/gotime.errBad", "loop.example/pub-layouttheorem/pub/gotime.errAtoi", "loop.example/pub-layouttheorem/pub/gotime.errLeadingInt", "loop.example/pub-layouttheorem/pub/gotime.std0x"], fn := fun _ => fun
  | [d1, d2, d3, g1, g2, g3, g4] => { results := [.lit (.bool false)], args := [d1, d2, d3], vars := [g1, g2, g3, g4] }
  | _ => none }
def FnLayoutWrongFalsely : Prop := fnLayoutRow.holds Tryz.pinned (OpenSpec.ofChange fnLayoutWrong)

/- THE SECOND FORM. 'bulk': how many values and letters a reading holds, each counted each time it is reached (what is shared counts as often as it is met; a slice's spare places count too). A statement '..UptoSaid' is the law's where the arguments, and the package variables that the reading takes, are together of bulk at most 1048576: NARROWER than '..Said'. Prove '..Said' where nothing that the law and all that it calls make is longer than what came in: it says more and counts as full. Else prove '..UptoSaid'. A law counts once. -/
mutual
def uptoBulk {H : Type} : DataW H → Nat
  | .lit (.string bytes) => bytes.length + 1
  | .lit _ => 1
  | .nil => 1
  | .ptr d => uptoBulk d + 1
  | .slice elems spare => uptoBulkAll elems + uptoBulkAll spare + 1
  | .agg parts => uptoBulkAll parts + 1
  | .iface _ d => uptoBulk d + 1
  | .map entries => uptoBulkEntries entries + 1
  | .held _ => 1
def uptoBulkAll {H : Type} : List (DataW H) → Nat
  | [] => 0
  | d :: r => uptoBulk d + uptoBulkAll r
def uptoBulkEntries {H : Type} : List (Lit × DataW H) → Nat
  | [] => 0
  | x :: r => uptoBulkEntry x + uptoBulkEntries r
def uptoBulkEntry {H : Type} : Lit × DataW H → Nat
  | (.string bytes, d) => bytes.length + uptoBulk d + 1
  | (_, d) => uptoBulk d + 1
 end
def uptoSmall : (H : Type) → List (DataW H) → Bool := fun _ ds => decide (uptoBulkAll ds ≤ 1048576)
def OpenSpec.upto (s : _root_.Go.ChangeSpec) : _root_.Go.OpenSpec := { _root_.Go.OpenSpec.ofChange s with cond := some uptoSmall }

/-- 'laws.FnLayout', WHERE WHAT IT READS IS OF BULK AT MOST 1048576: true; the input reads as it did. -/
def fnLayoutUptoRow : OpenClaim := { program := "ytndhiemagankeaagreatdoor", sum := "7864821f32cee10ab63aee8ac6cfd5f3b8023c6ddd018b407158e786794a7ee5", func := "loop.example/pub-layouttheorem/laws.FnLayout", spec := "fnLayout", unfollowed := true, recurses := true, named := ["loop.example/pub-layouttheorem/pub/gotime.errBad", "loop.example/pub-layouttheorem/pub/gotime.errAtoi", "loop.example/pub-layouttheorem/pub/gotime.errLeadingInt", "loop.example/pub-layouttheorem/pub/gotime.std0x"], ifaces := true, apart := false, laid := [("loop.example/pub-layouttheorem/pub/gotime.std0x", laid_loop_example_pub_layouttheorem_pub_gotime_std0x), ("loop.example/pub-layouttheorem/pub/gotime.errAtoi", laid_loop_example_pub_layouttheorem_pub_gotime_errAtoi), ("loop.example/pub-layouttheorem/pub/gotime.errBad", laid_loop_example_pub_layouttheorem_pub_gotime_errBad), ("loop.example/pub-layouttheorem/pub/gotime.errLeadingInt", laid_loop_example_pub_layouttheorem_pub_gotime_errLeadingInt)], narrowed := true }
def FnLayoutUptoSaid : Prop := fnLayoutUptoRow.holds Tryz.pinned (OpenSpec.upto fnLayoutSpec)

end Rows
end Go.Proofs.YtndhiemagankeaaGreatDoor
