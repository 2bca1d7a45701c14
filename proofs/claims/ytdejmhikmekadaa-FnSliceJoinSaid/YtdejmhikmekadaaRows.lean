/-
  No cell of these rows narrows 'for every input' (looked for: loops, veiled, ifaces, maps, wideKeys, modest, calm, conditions, laid).
  DERIVED. THE GIVEN ROWS OF THIS SEAT. 2 by the template 'for every input the law returns true; each argument reads behind the call as it read before'; 0 by the template 'total and deterministic' (their statements: YtdejmhikmekadaaTotals.lean).
  GIVEN WITH THE SEED: the statements are not yours to turn. If you find one false, say at which input.
  Laid BY PROGRAM, IN A SANDBOX (cutbox-rows.mjs): the forced cells as the released guide's own fill.sh prints them over the translation 79d07f4131e478f4… (all of the seat's roots in one cut). By AI agents, Wed Nov 11 2026. No macro, syntax, notation, axiom, sorry.
-/
import Derived.Test.YtdejmhikmekadaaChecked
import GoSem.Claim
import GoSem.ClaimJoined
import GoSem.ClaimMapViews
import Derived.JoinedTies
import Derived.KernelRfl
namespace Go.Proofs.Ytdejmhikmekadaa
/- THE CELL 'sum', in the pinned program and in every row, IS THE sha256 OF THE DUMP (.gsa) THAT YtdejmhikmekadaaProg.lean LOADS. Nothing in Lean hashes anything: it is a label: what it is worth is what the hold of that sum in a sandbox is worth. -/
noncomputable def Try.pinned : Pinned := { name := "ytdejmhikmekadaa", sum := "79d07f4131e478f4d56199323cf4b15e8b06ad702c2461982ce476472e474e7d", checked := Try.checked }
namespace Rows
def none {H : Type} : Left H := { results := [], args := [] }

/-- 'laws.FnSlice': WHATEVER THE INPUT: true; the input reads as it did. -/
def fnSliceSpec : ChangeSpec := { name := "fnSlice", fn := fun _ => fun
  | [d1, d2] => { results := [.lit (.bool true)], args := [d1, d2] }
  | _ => none }
def fnSliceRow : OpenClaim := { program := "ytdejmhikmekadaa", sum := "79d07f4131e478f4d56199323cf4b15e8b06ad702c2461982ce476472e474e7d", func := "loop.example/pub-g01461/laws.FnSlice", spec := "fnSlice", apart := false }
def FnSliceSaid : Prop := fnSliceRow.holds Try.pinned (OpenSpec.ofChange fnSliceSpec)

/-- ITS FALSE NEIGHBOUR: 'it returns false'. Refute it at one input. -/
def fnSliceWrong : ChangeSpec := { name := "fnSlice", fn := fun _ => fun
  | [d1, d2] => { results := [.lit (.bool false)], args := [d1, d2] }
  | _ => none }
def FnSliceWrongFalsely : Prop := fnSliceRow.holds Try.pinned (OpenSpec.ofChange fnSliceWrong)

/-- 'laws.FnSliceJoin': WHATEVER THE INPUT: true; the input reads as it did. -/
def fnSliceJoinSpec : ChangeSpec := { name := "fnSliceJoin", fn := fun _ => fun
  | [d1, d2, d3] => { results := [.lit (.bool true)], args := [d1, d2, d3] }
  | _ => none }
def fnSliceJoinRow : OpenClaim := { program := "ytdejmhikmekadaa", sum := "79d07f4131e478f4d56199323cf4b15e8b06ad702c2461982ce476472e474e7d", func := "loop.example/pub-g01461/laws.FnSliceJoin", spec := "fnSliceJoin", apart := false }
def FnSliceJoinSaid : Prop := fnSliceJoinRow.holds Try.pinned (OpenSpec.ofChange fnSliceJoinSpec)

/-- ITS FALSE NEIGHBOUR: 'it returns false'. Refute it at one input. -/
def fnSliceJoinWrong : ChangeSpec := { name := "fnSliceJoin", fn := fun _ => fun
  | [d1, d2, d3] => { results := [.lit (.bool false)], args := [d1, d2, d3] }
  | _ => none }
def FnSliceJoinWrongFalsely : Prop := fnSliceJoinRow.holds Try.pinned (OpenSpec.ofChange fnSliceJoinWrong)

/- THE SECOND FORM. 'bulk': how many values and letters a reading holds, each counted each time it is reached (what is shared counts as often as it is met; a slice's spare places count too). A statement '..UptoSaid' is the law's where the arguments, and the package variables that the reading takes, are together of bulk at most 1048576: NARROWER than '..Said'. Prove '..Said' where nothing that the law and all that it calls make is longer than what came in: it says more and counts as full. Else prove '..UptoSaid'. A law counts once. -/
mutual
def uptoBulk {H : Type} : DataW H → Nat
  | .lit (.string bytes) => bytes.length + 1
  | .lit _ => 1
  | .nil => 1
  | .ptr d => uptoBulk d + 1
  | .slice elems spare => uptoBulkAll elems + uptoBulkAll spare + 1
  | .agg parts => uptoBulkAll parts + 1
  | .iface _ d => uptoBulk d + 1
  | .map entries => uptoBulkEntries entries + 1
  | .held _ => 1
def uptoBulkAll {H : Type} : List (DataW H) → Nat
  | [] => 0
  | d :: r => uptoBulk d + uptoBulkAll r
def uptoBulkEntries {H : Type} : List (Lit × DataW H) → Nat
  | [] => 0
  | x :: r => uptoBulkEntry x + uptoBulkEntries r
def uptoBulkEntry {H : Type} : Lit × DataW H → Nat
  | (.string bytes, d) => bytes.length + uptoBulk d + 1
  | (_, d) => uptoBulk d + 1
 end
def uptoSmall : (H : Type) → List (DataW H) → Bool := fun _ ds => decide (uptoBulkAll ds ≤ 1048576)
def OpenSpec.upto (s : _root_.Go.ChangeSpec) : _root_.Go.OpenSpec := { _root_.Go.OpenSpec.ofChange s with cond := some uptoSmall }

/-- 'laws.FnSlice', WHERE WHAT IT READS IS OF BULK AT MOST 1048576: true; the input reads as it did. -/
def fnSliceUptoRow : OpenClaim := { program := "ytdejmhikmekadaa", sum := "79d07f4131e478f4d56199323cf4b15e8b06ad702c2461982ce476472e474e7d", func := "loop.example/pub-g01461/laws.FnSlice", spec := "fnSlice", apart := false, narrowed := true }
def FnSliceUptoSaid : Prop := fnSliceUptoRow.holds Try.pinned (OpenSpec.upto fnSliceSpec)

/-- 'laws.FnSliceJoin', WHERE WHAT IT READS IS OF BULK AT MOST 1048576: true; the input reads as it did. -/
def fnSliceJoinUptoRow : OpenClaim := { program := "ytdejmhikmekadaa", sum := "79d07f4131e478f4d56199323cf4b15e8b06ad702c2461982ce476472e474e7d", func := "loop.example/pub-g01461/laws.FnSliceJoin", spec := "fnSliceJoin", apart := false, narrowed := true }
def FnSliceJoinUptoSaid : Prop := fnSliceJoinUptoRow.holds Try.pinned (OpenSpec.upto fnSliceJoinSpec)

end Rows
end Go.Proofs.Ytdejmhikmekadaa
