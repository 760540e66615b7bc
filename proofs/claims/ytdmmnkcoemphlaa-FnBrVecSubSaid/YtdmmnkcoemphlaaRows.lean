/-
  No cell of these rows narrows 'for every input' (looked for: loops, veiled, ifaces, maps, wideKeys, modest, calm, conditions, laid).
  DERIVED. THE GIVEN ROWS OF THIS SEAT. 8 by the template 'for every input the law returns true; each argument reads behind the call as it read before'; 0 by the template 'total and deterministic' (their statements: YtdmmnkcoemphlaaTotals.lean).
  GIVEN WITH THE SEED: the statements are not yours to turn. If you find one false, say at which input.
  Laid BY PROGRAM, IN A SANDBOX (cutbox-rows.mjs): the forced cells as the released guide's own fill.sh prints them over the translation 263e94777145f03a… (all of the seat's roots in one cut). By AI agents, Wed Nov 11 2026. No macro, syntax, notation, axiom, sorry.
-/
import Derived.Test.YtdmmnkcoemphlaaChecked
import GoSem.Claim
import GoSem.ClaimJoined
import GoSem.ClaimMapViews
import Derived.JoinedTies
import Derived.KernelRfl
namespace Go.Proofs.Ytdmmnkcoemphlaa
/- THE CELL 'sum', in the pinned program and in every row, IS THE sha256 OF THE DUMP (.gsa) THAT YtdmmnkcoemphlaaProg.lean LOADS. Nothing in Lean hashes anything: it is a label: what it is worth is what the hold of that sum in a sandbox is worth. -/
noncomputable def Try.pinned : Pinned := { name := "ytdmmnkcoemphlaa", sum := "263e94777145f03a76e475e7d9f17a86ece68841f48722c6568b8a29d9c30893", checked := Try.checked }
namespace Rows
def none {H : Type} : Left H := { results := [], args := [] }

/-- 'laws.FnBrSelect': WHATEVER THE INPUT: true; the input reads as it did. -/
def fnBrSelectSpec : ChangeSpec := { name := "fnBrSelect", fn := fun _ => fun
  | [d1, d2, d3] => { results := [.lit (.bool true)], args := [d1, d2, d3] }
  | _ => none }
def fnBrSelectRow : OpenClaim := { program := "ytdmmnkcoemphlaa", sum := "263e94777145f03a76e475e7d9f17a86ece68841f48722c6568b8a29d9c30893", func := "loop.example/pub-g03342/laws.FnBrSelect", spec := "fnBrSelect", apart := false }
def FnBrSelectSaid : Prop := fnBrSelectRow.holds Try.pinned (OpenSpec.ofChange fnBrSelectSpec)

/-- ITS FALSE NEIGHBOUR: 'it returns false'. Refute it at one input. -/
def fnBrSelectWrong : ChangeSpec := { name := "fnBrSelect", fn := fun _ => fun
  | [d1, d2, d3] => { results := [.lit (.bool false)], args := [d1, d2, d3] }
  | _ => none }
def FnBrSelectWrongFalsely : Prop := fnBrSelectRow.holds Try.pinned (OpenSpec.ofChange fnBrSelectWrong)

/-- 'laws.FnBrBitLen': WHATEVER THE INPUT: true; the input reads as it did. -/
def fnBrBitLenSpec : ChangeSpec := { name := "fnBrBitLen", fn := fun _ => fun
  | [d] => { results := [.lit (.bool true)], args := [d] }
  | _ => none }
def fnBrBitLenRow : OpenClaim := { program := "ytdmmnkcoemphlaa", sum := "263e94777145f03a76e475e7d9f17a86ece68841f48722c6568b8a29d9c30893", func := "loop.example/pub-g03342/laws.FnBrBitLen", spec := "fnBrBitLen", apart := false }
def FnBrBitLenSaid : Prop := fnBrBitLenRow.holds Try.pinned (OpenSpec.ofChange fnBrBitLenSpec)

/-- ITS FALSE NEIGHBOUR: 'it returns false'. Refute it at one input. -/
def fnBrBitLenWrong : ChangeSpec := { name := "fnBrBitLen", fn := fun _ => fun
  | [d] => { results := [.lit (.bool false)], args := [d] }
  | _ => none }
def FnBrBitLenWrongFalsely : Prop := fnBrBitLenRow.holds Try.pinned (OpenSpec.ofChange fnBrBitLenWrong)

/-- 'laws.FnBrHalve': WHATEVER THE INPUT: true; the input reads as it did. -/
def fnBrHalveSpec : ChangeSpec := { name := "fnBrHalve", fn := fun _ => fun
  | [d] => { results := [.lit (.bool true)], args := [d] }
  | _ => none }
def fnBrHalveRow : OpenClaim := { program := "ytdmmnkcoemphlaa", sum := "263e94777145f03a76e475e7d9f17a86ece68841f48722c6568b8a29d9c30893", func := "loop.example/pub-g03342/laws.FnBrHalve", spec := "fnBrHalve", inPlace := ["math/bits.Add64"], apart := false }
def FnBrHalveSaid : Prop := fnBrHalveRow.holds Try.pinned (OpenSpec.ofChange fnBrHalveSpec)

/-- ITS FALSE NEIGHBOUR: 'it returns false'. Refute it at one input. -/
def fnBrHalveWrong : ChangeSpec := { name := "fnBrHalve", fn := fun _ => fun
  | [d] => { results := [.lit (.bool false)], args := [d] }
  | _ => none }
def FnBrHalveWrongFalsely : Prop := fnBrHalveRow.holds Try.pinned (OpenSpec.ofChange fnBrHalveWrong)

/-- 'laws.FnBrAdd': WHATEVER THE INPUT: true; the input reads as it did. -/
def fnBrAddSpec : ChangeSpec := { name := "fnBrAdd", fn := fun _ => fun
  | [d1, d2] => { results := [.lit (.bool true)], args := [d1, d2] }
  | _ => none }
def fnBrAddRow : OpenClaim := { program := "ytdmmnkcoemphlaa", sum := "263e94777145f03a76e475e7d9f17a86ece68841f48722c6568b8a29d9c30893", func := "loop.example/pub-g03342/laws.FnBrAdd", spec := "fnBrAdd", inPlace := ["math/bits.Add64", "math/bits.Sub64"], apart := false }
def FnBrAddSaid : Prop := fnBrAddRow.holds Try.pinned (OpenSpec.ofChange fnBrAddSpec)

/-- ITS FALSE NEIGHBOUR: 'it returns false'. Refute it at one input. -/
def fnBrAddWrong : ChangeSpec := { name := "fnBrAdd", fn := fun _ => fun
  | [d1, d2] => { results := [.lit (.bool false)], args := [d1, d2] }
  | _ => none }
def FnBrAddWrongFalsely : Prop := fnBrAddRow.holds Try.pinned (OpenSpec.ofChange fnBrAddWrong)

/-- 'laws.FnBrAddGroup': WHATEVER THE INPUT: true; the input reads as it did. -/
def fnBrAddGroupSpec : ChangeSpec := { name := "fnBrAddGroup", fn := fun _ => fun
  | [d1, d2, d3] => { results := [.lit (.bool true)], args := [d1, d2, d3] }
  | _ => none }
def fnBrAddGroupRow : OpenClaim := { program := "ytdmmnkcoemphlaa", sum := "263e94777145f03a76e475e7d9f17a86ece68841f48722c6568b8a29d9c30893", func := "loop.example/pub-g03342/laws.FnBrAddGroup", spec := "fnBrAddGroup", inPlace := ["math/bits.Add64", "math/bits.Sub64"], apart := false }
def FnBrAddGroupSaid : Prop := fnBrAddGroupRow.holds Try.pinned (OpenSpec.ofChange fnBrAddGroupSpec)

/-- ITS FALSE NEIGHBOUR: 'it returns false'. Refute it at one input. -/
def fnBrAddGroupWrong : ChangeSpec := { name := "fnBrAddGroup", fn := fun _ => fun
  | [d1, d2, d3] => { results := [.lit (.bool false)], args := [d1, d2, d3] }
  | _ => none }
def FnBrAddGroupWrongFalsely : Prop := fnBrAddGroupRow.holds Try.pinned (OpenSpec.ofChange fnBrAddGroupWrong)

/-- 'laws.FnBrDoubleHalve': WHATEVER THE INPUT: true; the input reads as it did. -/
def fnBrDoubleHalveSpec : ChangeSpec := { name := "fnBrDoubleHalve", fn := fun _ => fun
  | [d] => { results := [.lit (.bool true)], args := [d] }
  | _ => none }
def fnBrDoubleHalveRow : OpenClaim := { program := "ytdmmnkcoemphlaa", sum := "263e94777145f03a76e475e7d9f17a86ece68841f48722c6568b8a29d9c30893", func := "loop.example/pub-g03342/laws.FnBrDoubleHalve", spec := "fnBrDoubleHalve", inPlace := ["math/bits.Add64", "math/bits.Sub64"], apart := false }
def FnBrDoubleHalveSaid : Prop := fnBrDoubleHalveRow.holds Try.pinned (OpenSpec.ofChange fnBrDoubleHalveSpec)

/-- ITS FALSE NEIGHBOUR: 'it returns false'. Refute it at one input. -/
def fnBrDoubleHalveWrong : ChangeSpec := { name := "fnBrDoubleHalve", fn := fun _ => fun
  | [d] => { results := [.lit (.bool false)], args := [d] }
  | _ => none }
def FnBrDoubleHalveWrongFalsely : Prop := fnBrDoubleHalveRow.holds Try.pinned (OpenSpec.ofChange fnBrDoubleHalveWrong)

/-- 'laws.FnBrVecSum': WHATEVER THE INPUT: true; the input reads as it did. -/
def fnBrVecSumSpec : ChangeSpec := { name := "fnBrVecSum", fn := fun _ => fun
  | [d] => { results := [.lit (.bool true)], args := [d] }
  | _ => none }
def fnBrVecSumRow : OpenClaim := { program := "ytdmmnkcoemphlaa", sum := "263e94777145f03a76e475e7d9f17a86ece68841f48722c6568b8a29d9c30893", func := "loop.example/pub-g03342/laws.FnBrVecSum", spec := "fnBrVecSum", inPlace := ["math/bits.Add64", "math/bits.Sub64"], apart := false }
def FnBrVecSumSaid : Prop := fnBrVecSumRow.holds Try.pinned (OpenSpec.ofChange fnBrVecSumSpec)

/-- ITS FALSE NEIGHBOUR: 'it returns false'. Refute it at one input. -/
def fnBrVecSumWrong : ChangeSpec := { name := "fnBrVecSum", fn := fun _ => fun
  | [d] => { results := [.lit (.bool false)], args := [d] }
  | _ => none }
def FnBrVecSumWrongFalsely : Prop := fnBrVecSumRow.holds Try.pinned (OpenSpec.ofChange fnBrVecSumWrong)

/-- 'laws.FnBrVecSub': WHATEVER THE INPUT: true; the input reads as it did. -/
def fnBrVecSubSpec : ChangeSpec := { name := "fnBrVecSub", fn := fun _ => fun
  | [d1, d2] => { results := [.lit (.bool true)], args := [d1, d2] }
  | _ => none }
def fnBrVecSubRow : OpenClaim := { program := "ytdmmnkcoemphlaa", sum := "263e94777145f03a76e475e7d9f17a86ece68841f48722c6568b8a29d9c30893", func := "loop.example/pub-g03342/laws.FnBrVecSub", spec := "fnBrVecSub", inPlace := ["math/bits.Sub64", "math/bits.Add64"], apart := false }
def FnBrVecSubSaid : Prop := fnBrVecSubRow.holds Try.pinned (OpenSpec.ofChange fnBrVecSubSpec)

/-- ITS FALSE NEIGHBOUR: 'it returns false'. Refute it at one input. -/
def fnBrVecSubWrong : ChangeSpec := { name := "fnBrVecSub", fn := fun _ => fun
  | [d1, d2] => { results := [.lit (.bool false)], args := [d1, d2] }
  | _ => none }
def FnBrVecSubWrongFalsely : Prop := fnBrVecSubRow.holds Try.pinned (OpenSpec.ofChange fnBrVecSubWrong)

/- THE SECOND FORM. 'bulk': how many values and letters a reading holds, each counted each time it is reached (what is shared counts as often as it is met; a slice's spare places count too). A statement '..UptoSaid' is the law's where the arguments, and the package variables that the reading takes, are together of bulk at most 1048576: NARROWER than '..Said'. Prove '..Said' where nothing that the law and all that it calls make is longer than what came in: it says more and counts as full. Else prove '..UptoSaid'. A law counts once. -/
mutual
def uptoBulk {H : Type} : DataW H → Nat
  | .lit (.string bytes) => bytes.length + 1
  | .lit _ => 1
  | .nil => 1
  | .ptr d => uptoBulk d + 1
  | .slice elems spare => uptoBulkAll elems + uptoBulkAll spare + 1
  | .agg parts => uptoBulkAll parts + 1
  | .iface _ d => uptoBulk d + 1
  | .map entries => uptoBulkEntries entries + 1
  | .held _ => 1
def uptoBulkAll {H : Type} : List (DataW H) → Nat
  | [] => 0
  | d :: r => uptoBulk d + uptoBulkAll r
def uptoBulkEntries {H : Type} : List (Lit × DataW H) → Nat
  | [] => 0
  | x :: r => uptoBulkEntry x + uptoBulkEntries r
def uptoBulkEntry {H : Type} : Lit × DataW H → Nat
  | (.string bytes, d) => bytes.length + uptoBulk d + 1
  | (_, d) => uptoBulk d + 1
 end
def uptoSmall : (H : Type) → List (DataW H) → Bool := fun _ ds => decide (uptoBulkAll ds ≤ 1048576)
def OpenSpec.upto (s : _root_.Go.ChangeSpec) : _root_.Go.OpenSpec := { _root_.Go.OpenSpec.ofChange s with cond := some uptoSmall }

/-- 'laws.FnBrSelect', WHERE WHAT IT READS IS OF BULK AT MOST 1048576: true; the input reads as it did. -/
def fnBrSelectUptoRow : OpenClaim := { program := "ytdmmnkcoemphlaa", sum := "263e94777145f03a76e475e7d9f17a86ece68841f48722c6568b8a29d9c30893", func := "loop.example/pub-g03342/laws.FnBrSelect", spec := "fnBrSelect", apart := false, narrowed := true }
def FnBrSelectUptoSaid : Prop := fnBrSelectUptoRow.holds Try.pinned (OpenSpec.upto fnBrSelectSpec)

/-- 'laws.FnBrBitLen', WHERE WHAT IT READS IS OF BULK AT MOST 1048576: true; the input reads as it did. -/
def fnBrBitLenUptoRow : OpenClaim := { program := "ytdmmnkcoemphlaa", sum := "263e94777145f03a76e475e7d9f17a86ece68841f48722c6568b8a29d9c30893", func := "loop.example/pub-g03342/laws.FnBrBitLen", spec := "fnBrBitLen", apart := false, narrowed := true }
def FnBrBitLenUptoSaid : Prop := fnBrBitLenUptoRow.holds Try.pinned (OpenSpec.upto fnBrBitLenSpec)

/-- 'laws.FnBrHalve', WHERE WHAT IT READS IS OF BULK AT MOST 1048576: true; the input reads as it did. -/
def fnBrHalveUptoRow : OpenClaim := { program := "ytdmmnkcoemphlaa", sum := "263e94777145f03a76e475e7d9f17a86ece68841f48722c6568b8a29d9c30893", func := "loop.example/pub-g03342/laws.FnBrHalve", spec := "fnBrHalve", inPlace := ["math/bits.Add64"], apart := false, narrowed := true }
def FnBrHalveUptoSaid : Prop := fnBrHalveUptoRow.holds Try.pinned (OpenSpec.upto fnBrHalveSpec)

/-- 'laws.FnBrAdd', WHERE WHAT IT READS IS OF BULK AT MOST 1048576: true; the input reads as it did. -/
def fnBrAddUptoRow : OpenClaim := { program := "ytdmmnkcoemphlaa", sum := "263e94777145f03a76e475e7d9f17a86ece68841f48722c6568b8a29d9c30893", func := "loop.example/pub-g03342/laws.FnBrAdd", spec := "fnBrAdd", inPlace := ["math/bits.Add64", "math/bits.Sub64"], apart := false, narrowed := true }
def FnBrAddUptoSaid : Prop := fnBrAddUptoRow.holds Try.pinned (OpenSpec.upto fnBrAddSpec)

/-- 'laws.FnBrAddGroup', WHERE WHAT IT READS IS OF BULK AT MOST 1048576: true; the input reads as it did. -/
def fnBrAddGroupUptoRow : OpenClaim := { program := "ytdmmnkcoemphlaa", sum := "263e94777145f03a76e475e7d9f17a86ece68841f48722c6568b8a29d9c30893", func := "loop.example/pub-g03342/laws.FnBrAddGroup", spec := "fnBrAddGroup", inPlace := ["math/bits.Add64", "math/bits.Sub64"], apart := false, narrowed := true }
def FnBrAddGroupUptoSaid : Prop := fnBrAddGroupUptoRow.holds Try.pinned (OpenSpec.upto fnBrAddGroupSpec)

/-- 'laws.FnBrDoubleHalve', WHERE WHAT IT READS IS OF BULK AT MOST 1048576: true; the input reads as it did. -/
def fnBrDoubleHalveUptoRow : OpenClaim := { program := "ytdmmnkcoemphlaa", sum := "263e94777145f03a76e475e7d9f17a86ece68841f48722c6568b8a29d9c30893", func := "loop.example/pub-g03342/laws.FnBrDoubleHalve", spec := "fnBrDoubleHalve", inPlace := ["math/bits.Add64", "math/bits.Sub64"], apart := false, narrowed := true }
def FnBrDoubleHalveUptoSaid : Prop := fnBrDoubleHalveUptoRow.holds Try.pinned (OpenSpec.upto fnBrDoubleHalveSpec)

/-- 'laws.FnBrVecSum', WHERE WHAT IT READS IS OF BULK AT MOST 1048576: true; the input reads as it did. -/
def fnBrVecSumUptoRow : OpenClaim := { program := "ytdmmnkcoemphlaa", sum := "263e94777145f03a76e475e7d9f17a86ece68841f48722c6568b8a29d9c30893", func := "loop.example/pub-g03342/laws.FnBrVecSum", spec := "fnBrVecSum", inPlace := ["math/bits.Add64", "math/bits.Sub64"], apart := false, narrowed := true }
def FnBrVecSumUptoSaid : Prop := fnBrVecSumUptoRow.holds Try.pinned (OpenSpec.upto fnBrVecSumSpec)

/-- 'laws.FnBrVecSub', WHERE WHAT IT READS IS OF BULK AT MOST 1048576: true; the input reads as it did. -/
def fnBrVecSubUptoRow : OpenClaim := { program := "ytdmmnkcoemphlaa", sum := "263e94777145f03a76e475e7d9f17a86ece68841f48722c6568b8a29d9c30893", func := "loop.example/pub-g03342/laws.FnBrVecSub", spec := "fnBrVecSub", inPlace := ["math/bits.Sub64", "math/bits.Add64"], apart := false, narrowed := true }
def FnBrVecSubUptoSaid : Prop := fnBrVecSubUptoRow.holds Try.pinned (OpenSpec.upto fnBrVecSubSpec)

end Rows
end Go.Proofs.Ytdmmnkcoemphlaa
