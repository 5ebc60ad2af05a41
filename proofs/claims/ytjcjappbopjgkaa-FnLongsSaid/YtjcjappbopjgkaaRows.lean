/-
  No cell of these rows narrows 'for every input' (looked for: loops, veiled, ifaces, maps, wideKeys, modest, calm, conditions, laid).
  DERIVED. THE GIVEN ROWS OF THIS SEAT. 3 by the template 'for every input the law returns true; each argument reads behind the call as it read before'; 0 by the template 'total and deterministic' (their statements: YtjcjappbopjgkaaTotals.lean).
  GIVEN WITH THE SEED: the statements are not yours to turn. If you find one false, say at which input.
  Laid BY PROGRAM, IN A SANDBOX (cutbox-rows.mjs): the forced cells as the released guide's own fill.sh prints them over the translation e71a2031a9c0a441… (all of the seat's roots in one cut). By AI agents, Wed Nov 11 2026. No macro, syntax, notation, axiom, sorry.
-/
import Derived.Test.YtjcjappbopjgkaaChecked
import GoSem.Claim
import GoSem.ClaimJoined
import GoSem.ClaimMapViews
import Derived.JoinedTies
import Derived.KernelRfl
namespace Go.Proofs.Ytjcjappbopjgkaa
/- THE CELL 'sum', in the pinned program and in every row, IS THE sha256 OF THE DUMP (.gsa) THAT YtjcjappbopjgkaaProg.lean LOADS. Nothing in Lean hashes anything: it is a label: what it is worth is what the hold of that sum in a sandbox is worth. -/
noncomputable def Try.pinned : Pinned := { name := "ytjcjappbopjgkaa", sum := "e71a2031a9c0a441edbcc6bf5872bb02f54adf4d07f00a2ff15795f56e5eb888", checked := Try.checked }
namespace Rows
def none {H : Type} : Left H := { results := [], args := [] }

/-- 'laws.FnMulThree': WHATEVER THE INPUT: true; the input reads as it did. -/
def fnMulThreeSpec : ChangeSpec := { name := "fnMulThree", fn := fun _ => fun
  | [d1, d2, d3] => { results := [.lit (.bool true)], args := [d1, d2, d3] }
  | _ => none }
def fnMulThreeRow : OpenClaim := { program := "ytjcjappbopjgkaa", sum := "e71a2031a9c0a441edbcc6bf5872bb02f54adf4d07f00a2ff15795f56e5eb888", func := "pub-claviger/laws.FnMulThree", spec := "fnMulThree", apart := false }
def FnMulThreeSaid : Prop := fnMulThreeRow.holds Try.pinned (OpenSpec.ofChange fnMulThreeSpec)

/-- ITS FALSE NEIGHBOUR: 'it returns false'. Refute it at one input. -/
def fnMulThreeWrong : ChangeSpec := { name := "fnMulThree", fn := fun _ => fun
  | [d1, d2, d3] => { results := [.lit (.bool false)], args := [d1, d2, d3] }
  | _ => none }
def FnMulThreeWrongFalsely : Prop := fnMulThreeRow.holds Try.pinned (OpenSpec.ofChange fnMulThreeWrong)

/-- 'laws.FnReserved': WHATEVER THE INPUT: true; the input reads as it did. -/
def fnReservedSpec : ChangeSpec := { name := "fnReserved", fn := fun _ => fun
  | [d] => { results := [.lit (.bool true)], args := [d] }
  | _ => none }
def fnReservedRow : OpenClaim := { program := "ytjcjappbopjgkaa", sum := "e71a2031a9c0a441edbcc6bf5872bb02f54adf4d07f00a2ff15795f56e5eb888", func := "pub-claviger/laws.FnReserved", spec := "fnReserved", apart := false }
def FnReservedSaid : Prop := fnReservedRow.holds Try.pinned (OpenSpec.ofChange fnReservedSpec)

/-- ITS FALSE NEIGHBOUR: 'it returns false'. Refute it at one input. -/
def fnReservedWrong : ChangeSpec := { name := "fnReserved", fn := fun _ => fun
  | [d] => { results := [.lit (.bool false)], args := [d] }
  | _ => none }
def FnReservedWrongFalsely : Prop := fnReservedRow.holds Try.pinned (OpenSpec.ofChange fnReservedWrong)

/-- 'laws.FnLongs': WHATEVER THE INPUT: true; the input reads as it did. -/
def fnLongsSpec : ChangeSpec := { name := "fnLongs", fn := fun _ => fun
  | [d1, d2] => { results := [.lit (.bool true)], args := [d1, d2] }
  | _ => none }
def fnLongsRow : OpenClaim := { program := "ytjcjappbopjgkaa", sum := "e71a2031a9c0a441edbcc6bf5872bb02f54adf4d07f00a2ff15795f56e5eb888", func := "pub-claviger/laws.FnLongs", spec := "fnLongs", apart := false }
def FnLongsSaid : Prop := fnLongsRow.holds Try.pinned (OpenSpec.ofChange fnLongsSpec)

/-- ITS FALSE NEIGHBOUR: 'it returns false'. Refute it at one input. -/
def fnLongsWrong : ChangeSpec := { name := "fnLongs", fn := fun _ => fun
  | [d1, d2] => { results := [.lit (.bool false)], args := [d1, d2] }
  | _ => none }
def FnLongsWrongFalsely : Prop := fnLongsRow.holds Try.pinned (OpenSpec.ofChange fnLongsWrong)

/- THE SECOND FORM. 'bulk': how many values and letters a reading holds, each counted each time it is reached (what is shared counts as often as it is met; a slice's spare places count too). A statement '..UptoSaid' is the law's where the arguments, and the package variables that the reading takes, are together of bulk at most 1048576: NARROWER than '..Said'. Prove '..Said' where nothing that the law and all that it calls make is longer than what came in: it says more and counts as full. Else prove '..UptoSaid'. A law counts once. -/
mutual
def uptoBulk {H : Type} : DataW H → Nat
  | .lit (.string bytes) => bytes.length + 1
  | .lit _ => 1
  | .nil => 1
  | .ptr d => uptoBulk d + 1
  | .slice elems spare => uptoBulkAll elems + uptoBulkAll spare + 1
  | .agg parts => uptoBulkAll parts + 1
  | .iface _ d => uptoBulk d + 1
  | .map entries => uptoBulkEntries entries + 1
  | .held _ => 1
def uptoBulkAll {H : Type} : List (DataW H) → Nat
  | [] => 0
  | d :: r => uptoBulk d + uptoBulkAll r
def uptoBulkEntries {H : Type} : List (Lit × DataW H) → Nat
  | [] => 0
  | x :: r => uptoBulkEntry x + uptoBulkEntries r
def uptoBulkEntry {H : Type} : Lit × DataW H → Nat
  | (.string bytes, d) => bytes.length + uptoBulk d + 1
  | (_, d) => uptoBulk d + 1
 end
def uptoSmall : (H : Type) → List (DataW H) → Bool := fun _ ds => decide (uptoBulkAll ds ≤ 1048576)
def OpenSpec.upto (s : _root_.Go.ChangeSpec) : _root_.Go.OpenSpec := { _root_.Go.OpenSpec.ofChange s with cond := some uptoSmall }

/-- 'laws.FnMulThree', WHERE WHAT IT READS IS OF BULK AT MOST 1048576: true; the input reads as it did. -/
def fnMulThreeUptoRow : OpenClaim := { program := "ytjcjappbopjgkaa", sum := "e71a2031a9c0a441edbcc6bf5872bb02f54adf4d07f00a2ff15795f56e5eb888", func := "pub-claviger/laws.FnMulThree", spec := "fnMulThree", apart := false, narrowed := true }
def FnMulThreeUptoSaid : Prop := fnMulThreeUptoRow.holds Try.pinned (OpenSpec.upto fnMulThreeSpec)

/-- 'laws.FnReserved', WHERE WHAT IT READS IS OF BULK AT MOST 1048576: true; the input reads as it did. -/
def fnReservedUptoRow : OpenClaim := { program := "ytjcjappbopjgkaa", sum := "e71a2031a9c0a441edbcc6bf5872bb02f54adf4d07f00a2ff15795f56e5eb888", func := "pub-claviger/laws.FnReserved", spec := "fnReserved", apart := false, narrowed := true }
def FnReservedUptoSaid : Prop := fnReservedUptoRow.holds Try.pinned (OpenSpec.upto fnReservedSpec)

/-- 'laws.FnLongs', WHERE WHAT IT READS IS OF BULK AT MOST 1048576: true; the input reads as it did. -/
def fnLongsUptoRow : OpenClaim := { program := "ytjcjappbopjgkaa", sum := "e71a2031a9c0a441edbcc6bf5872bb02f54adf4d07f00a2ff15795f56e5eb888", func := "pub-claviger/laws.FnLongs", spec := "fnLongs", apart := false, narrowed := true }
def FnLongsUptoSaid : Prop := fnLongsUptoRow.holds Try.pinned (OpenSpec.upto fnLongsSpec)

end Rows
end Go.Proofs.Ytjcjappbopjgkaa
