/-
  No cell of these rows narrows 'for every input' (looked for: loops, veiled, ifaces, maps, wideKeys, modest, calm, conditions, laid).
  DERIVED. THE GIVEN ROWS OF THIS SEAT. 4 by the template 'for every input the law returns true; each argument reads behind the call as it read before'; 0 by the template 'total and deterministic' (their statements: YtilnclmbmdbffaaTotals.lean).
  GIVEN WITH THE SEED: the statements are not yours to turn. If you find one false, say at which input.
  Laid BY PROGRAM, IN A SANDBOX (cutbox-rows.mjs): the forced cells as the released guide's own fill.sh prints them over the translation 374fe0879234cb43… (all of the seat's roots in one cut). By AI agents, Wed Nov 11 2026. No macro, syntax, notation, axiom, sorry.
-/
import Derived.Test.YtilnclmbmdbffaaChecked
import GoSem.Claim
import GoSem.ClaimJoined
import GoSem.ClaimMapViews
import Derived.JoinedTies
import Derived.KernelRfl
namespace Go.Proofs.Ytilnclmbmdbffaa
/- THE CELL 'sum', in the pinned program and in every row, IS THE sha256 OF THE DUMP (.gsa) THAT YtilnclmbmdbffaaProg.lean LOADS. Nothing in Lean hashes anything: it is a label: what it is worth is what the hold of that sum in a sandbox is worth. -/
noncomputable def Try.pinned : Pinned := { name := "ytilnclmbmdbffaa", sum := "374fe0879234cb43252e1b2143ca4926a92d2844af9b3c558566e75f93c878d8", checked := Try.checked }
namespace Rows
def none {H : Type} : Left H := { results := [], args := [] }

/-- 'laws.FnIsShift': WHATEVER THE INPUT: true; the input reads as it did. -/
def fnIsShiftSpec : ChangeSpec := { name := "fnIsShift", fn := fun _ => fun
  | [d] => { results := [.lit (.bool true)], args := [d] }
  | _ => none }
def fnIsShiftRow : OpenClaim := { program := "ytilnclmbmdbffaa", sum := "374fe0879234cb43252e1b2143ca4926a92d2844af9b3c558566e75f93c878d8", func := "loop.example/pub-g01461/laws.FnIsShift", spec := "fnIsShift", apart := false }
def FnIsShiftSaid : Prop := fnIsShiftRow.holds Try.pinned (OpenSpec.ofChange fnIsShiftSpec)

/-- ITS FALSE NEIGHBOUR: 'it returns false'. Refute it at one input. -/
def fnIsShiftWrong : ChangeSpec := { name := "fnIsShift", fn := fun _ => fun
  | [d] => { results := [.lit (.bool false)], args := [d] }
  | _ => none }
def FnIsShiftWrongFalsely : Prop := fnIsShiftRow.holds Try.pinned (OpenSpec.ofChange fnIsShiftWrong)

/-- 'laws.FnMake': WHATEVER THE INPUT: true; the input reads as it did. -/
def fnMakeSpec : ChangeSpec := { name := "fnMake", fn := fun _ => fun
  | [d] => { results := [.lit (.bool true)], args := [d] }
  | _ => none }
def fnMakeRow : OpenClaim := { program := "ytilnclmbmdbffaa", sum := "374fe0879234cb43252e1b2143ca4926a92d2844af9b3c558566e75f93c878d8", func := "loop.example/pub-g01461/laws.FnMake", spec := "fnMake", apart := false }
def FnMakeSaid : Prop := fnMakeRow.holds Try.pinned (OpenSpec.ofChange fnMakeSpec)

/-- ITS FALSE NEIGHBOUR: 'it returns false'. Refute it at one input. -/
def fnMakeWrong : ChangeSpec := { name := "fnMake", fn := fun _ => fun
  | [d] => { results := [.lit (.bool false)], args := [d] }
  | _ => none }
def FnMakeWrongFalsely : Prop := fnMakeRow.holds Try.pinned (OpenSpec.ofChange fnMakeWrong)

/-- 'laws.FnMakeJoin': WHATEVER THE INPUT: true; the input reads as it did. -/
def fnMakeJoinSpec : ChangeSpec := { name := "fnMakeJoin", fn := fun _ => fun
  | [d1, d2, d3, d4] => { results := [.lit (.bool true)], args := [d1, d2, d3, d4] }
  | _ => none }
def fnMakeJoinRow : OpenClaim := { program := "ytilnclmbmdbffaa", sum := "374fe0879234cb43252e1b2143ca4926a92d2844af9b3c558566e75f93c878d8", func := "loop.example/pub-g01461/laws.FnMakeJoin", spec := "fnMakeJoin", apart := false }
def FnMakeJoinSaid : Prop := fnMakeJoinRow.holds Try.pinned (OpenSpec.ofChange fnMakeJoinSpec)

/-- ITS FALSE NEIGHBOUR: 'it returns false'. Refute it at one input. -/
def fnMakeJoinWrong : ChangeSpec := { name := "fnMakeJoin", fn := fun _ => fun
  | [d1, d2, d3, d4] => { results := [.lit (.bool false)], args := [d1, d2, d3, d4] }
  | _ => none }
def FnMakeJoinWrongFalsely : Prop := fnMakeJoinRow.holds Try.pinned (OpenSpec.ofChange fnMakeJoinWrong)

/-- 'laws.FnMakeTwice': WHATEVER THE INPUT: true; the input reads as it did. -/
def fnMakeTwiceSpec : ChangeSpec := { name := "fnMakeTwice", fn := fun _ => fun
  | [d] => { results := [.lit (.bool true)], args := [d] }
  | _ => none }
def fnMakeTwiceRow : OpenClaim := { program := "ytilnclmbmdbffaa", sum := "374fe0879234cb43252e1b2143ca4926a92d2844af9b3c558566e75f93c878d8", func := "loop.example/pub-g01461/laws.FnMakeTwice", spec := "fnMakeTwice", apart := false }
def FnMakeTwiceSaid : Prop := fnMakeTwiceRow.holds Try.pinned (OpenSpec.ofChange fnMakeTwiceSpec)

/-- ITS FALSE NEIGHBOUR: 'it returns false'. Refute it at one input. -/
def fnMakeTwiceWrong : ChangeSpec := { name := "fnMakeTwice", fn := fun _ => fun
  | [d] => { results := [.lit (.bool false)], args := [d] }
  | _ => none }
def FnMakeTwiceWrongFalsely : Prop := fnMakeTwiceRow.holds Try.pinned (OpenSpec.ofChange fnMakeTwiceWrong)

/- THE SECOND FORM. 'bulk': how many values and letters a reading holds, each counted each time it is reached (what is shared counts as often as it is met; a slice's spare places count too). A statement '..UptoSaid' is the law's where the arguments, and the package variables that the reading takes, are together of bulk at most 1048576: NARROWER than '..Said'. Prove '..Said' where nothing that the law and all that it calls make is longer than what came in: it says more and counts as full. Else prove '..UptoSaid'. A law counts once. -/
mutual
def uptoBulk {H : Type} : DataW H → Nat
  | .lit (.string bytes) => bytes.length + 1
  | .lit _ => 1
  | .nil => 1
  | .ptr d => uptoBulk d + 1
  | .slice elems spare => uptoBulkAll elems + uptoBulkAll spare + 1
  | .agg parts => uptoBulkAll parts + 1
  | .iface _ d => uptoBulk d + 1
  | .map entries => uptoBulkEntries entries + 1
  | .held _ => 1
def uptoBulkAll {H : Type} : List (DataW H) → Nat
  | [] => 0
  | d :: r => uptoBulk d + uptoBulkAll r
def uptoBulkEntries {H : Type} : List (Lit × DataW H) → Nat
  | [] => 0
  | x :: r => uptoBulkEntry x + uptoBulkEntries r
def uptoBulkEntry {H : Type} : Lit × DataW H → Nat
  | (.string bytes, d) => bytes.length + uptoBulk d + 1
  | (_, d) => uptoBulk d + 1
 end
def uptoSmall : (H : Type) → List (DataW H) → Bool := fun _ ds => decide (uptoBulkAll ds ≤ 1048576)
def OpenSpec.upto (s : _root_.Go.ChangeSpec) : _root_.Go.OpenSpec := { _root_.Go.OpenSpec.ofChange s with cond := some uptoSmall }

/-- 'laws.FnIsShift', WHERE WHAT IT READS IS OF BULK AT MOST 1048576: true; the input reads as it did. -/
def fnIsShiftUptoRow : OpenClaim := { program := "ytilnclmbmdbffaa", sum := "374fe0879234cb43252e1b2143ca4926a92d2844af9b3c558566e75f93c878d8", func := "loop.example/pub-g01461/laws.FnIsShift", spec := "fnIsShift", apart := false, narrowed := true }
def FnIsShiftUptoSaid : Prop := fnIsShiftUptoRow.holds Try.pinned (OpenSpec.upto fnIsShiftSpec)

/-- 'laws.FnMake', WHERE WHAT IT READS IS OF BULK AT MOST 1048576: true; the input reads as it did. -/
def fnMakeUptoRow : OpenClaim := { program := "ytilnclmbmdbffaa", sum := "374fe0879234cb43252e1b2143ca4926a92d2844af9b3c558566e75f93c878d8", func := "loop.example/pub-g01461/laws.FnMake", spec := "fnMake", apart := false, narrowed := true }
def FnMakeUptoSaid : Prop := fnMakeUptoRow.holds Try.pinned (OpenSpec.upto fnMakeSpec)

/-- 'laws.FnMakeJoin', WHERE WHAT IT READS IS OF BULK AT MOST 1048576: true; the input reads as it did. -/
def fnMakeJoinUptoRow : OpenClaim := { program := "ytilnclmbmdbffaa", sum := "374fe0879234cb43252e1b2143ca4926a92d2844af9b3c558566e75f93c878d8", func := "loop.example/pub-g01461/laws.FnMakeJoin", spec := "fnMakeJoin", apart := false, narrowed := true }
def FnMakeJoinUptoSaid : Prop := fnMakeJoinUptoRow.holds Try.pinned (OpenSpec.upto fnMakeJoinSpec)

/-- 'laws.FnMakeTwice', WHERE WHAT IT READS IS OF BULK AT MOST 1048576: true; the input reads as it did. -/
def fnMakeTwiceUptoRow : OpenClaim := { program := "ytilnclmbmdbffaa", sum := "374fe0879234cb43252e1b2143ca4926a92d2844af9b3c558566e75f93c878d8", func := "loop.example/pub-g01461/laws.FnMakeTwice", spec := "fnMakeTwice", apart := false, narrowed := true }
def FnMakeTwiceUptoSaid : Prop := fnMakeTwiceUptoRow.holds Try.pinned (OpenSpec.upto fnMakeTwiceSpec)

end Rows
end Go.Proofs.Ytilnclmbmdbffaa
