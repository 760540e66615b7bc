/-
  No cell of these rows narrows 'for every input' (looked for: loops, veiled, ifaces, maps, wideKeys, modest, calm, conditions, laid).
  DERIVED. THE GIVEN ROWS OF THIS SEAT. 8 by the template 'for every input the law returns true; each argument reads behind the call as it read before'; 0 by the template 'total and deterministic' (their statements: YtdocgdodahjooaaTotals.lean).
  GIVEN WITH THE SEED: the statements are not yours to turn. If you find one false, say at which input.
  Laid BY PROGRAM, IN A SANDBOX (cutbox-rows.mjs): the forced cells as the released guide's own fill.sh prints them over the translation 507bf91660574671… (all of the seat's roots in one cut). By AI agents, Wed Nov 11 2026. No macro, syntax, notation, axiom, sorry.
-/
import Derived.Test.YtdocgdodahjooaaChecked
import GoSem.Claim
import GoSem.ClaimJoined
import GoSem.ClaimMapViews
import Derived.JoinedTies
import Derived.KernelRfl
namespace Go.Proofs.Ytdocgdodahjooaa
/- THE CELL 'sum', in the pinned program and in every row, IS THE sha256 OF THE DUMP (.gsa) THAT YtdocgdodahjooaaProg.lean LOADS. Nothing in Lean hashes anything: it is a label: what it is worth is what the hold of that sum in a sandbox is worth. -/
noncomputable def Try.pinned : Pinned := { name := "ytdocgdodahjooaa", sum := "507bf91660574671914a3154cce57468f6ee58dea5ea3689a2ea33f6b620d656", checked := Try.checked }
namespace Rows
def none {H : Type} : Left H := { results := [], args := [] }

/-- 'laws.FnNrSelect': WHATEVER THE INPUT: true; the input reads as it did. -/
def fnNrSelectSpec : ChangeSpec := { name := "fnNrSelect", fn := fun _ => fun
  | [d1, d2, d3] => { results := [.lit (.bool true)], args := [d1, d2, d3] }
  | _ => none }
def fnNrSelectRow : OpenClaim := { program := "ytdocgdodahjooaa", sum := "507bf91660574671914a3154cce57468f6ee58dea5ea3689a2ea33f6b620d656", func := "loop.example/pub-g03342/laws.FnNrSelect", spec := "fnNrSelect", apart := false }
def FnNrSelectSaid : Prop := fnNrSelectRow.holds Try.pinned (OpenSpec.ofChange fnNrSelectSpec)

/-- ITS FALSE NEIGHBOUR: 'it returns false'. Refute it at one input. -/
def fnNrSelectWrong : ChangeSpec := { name := "fnNrSelect", fn := fun _ => fun
  | [d1, d2, d3] => { results := [.lit (.bool false)], args := [d1, d2, d3] }
  | _ => none }
def FnNrSelectWrongFalsely : Prop := fnNrSelectRow.holds Try.pinned (OpenSpec.ofChange fnNrSelectWrong)

/-- 'laws.FnNrBitLen': WHATEVER THE INPUT: true; the input reads as it did. -/
def fnNrBitLenSpec : ChangeSpec := { name := "fnNrBitLen", fn := fun _ => fun
  | [d] => { results := [.lit (.bool true)], args := [d] }
  | _ => none }
def fnNrBitLenRow : OpenClaim := { program := "ytdocgdodahjooaa", sum := "507bf91660574671914a3154cce57468f6ee58dea5ea3689a2ea33f6b620d656", func := "loop.example/pub-g03342/laws.FnNrBitLen", spec := "fnNrBitLen", apart := false }
def FnNrBitLenSaid : Prop := fnNrBitLenRow.holds Try.pinned (OpenSpec.ofChange fnNrBitLenSpec)

/-- ITS FALSE NEIGHBOUR: 'it returns false'. Refute it at one input. -/
def fnNrBitLenWrong : ChangeSpec := { name := "fnNrBitLen", fn := fun _ => fun
  | [d] => { results := [.lit (.bool false)], args := [d] }
  | _ => none }
def FnNrBitLenWrongFalsely : Prop := fnNrBitLenRow.holds Try.pinned (OpenSpec.ofChange fnNrBitLenWrong)

/-- 'laws.FnNrHalve': WHATEVER THE INPUT: true; the input reads as it did. -/
def fnNrHalveSpec : ChangeSpec := { name := "fnNrHalve", fn := fun _ => fun
  | [d] => { results := [.lit (.bool true)], args := [d] }
  | _ => none }
def fnNrHalveRow : OpenClaim := { program := "ytdocgdodahjooaa", sum := "507bf91660574671914a3154cce57468f6ee58dea5ea3689a2ea33f6b620d656", func := "loop.example/pub-g03342/laws.FnNrHalve", spec := "fnNrHalve", inPlace := ["math/bits.Add64"], apart := false }
def FnNrHalveSaid : Prop := fnNrHalveRow.holds Try.pinned (OpenSpec.ofChange fnNrHalveSpec)

/-- ITS FALSE NEIGHBOUR: 'it returns false'. Refute it at one input. -/
def fnNrHalveWrong : ChangeSpec := { name := "fnNrHalve", fn := fun _ => fun
  | [d] => { results := [.lit (.bool false)], args := [d] }
  | _ => none }
def FnNrHalveWrongFalsely : Prop := fnNrHalveRow.holds Try.pinned (OpenSpec.ofChange fnNrHalveWrong)

/-- 'laws.FnNrAdd': WHATEVER THE INPUT: true; the input reads as it did. -/
def fnNrAddSpec : ChangeSpec := { name := "fnNrAdd", fn := fun _ => fun
  | [d1, d2] => { results := [.lit (.bool true)], args := [d1, d2] }
  | _ => none }
def fnNrAddRow : OpenClaim := { program := "ytdocgdodahjooaa", sum := "507bf91660574671914a3154cce57468f6ee58dea5ea3689a2ea33f6b620d656", func := "loop.example/pub-g03342/laws.FnNrAdd", spec := "fnNrAdd", inPlace := ["math/bits.Add64", "math/bits.Sub64"], apart := false }
def FnNrAddSaid : Prop := fnNrAddRow.holds Try.pinned (OpenSpec.ofChange fnNrAddSpec)

/-- ITS FALSE NEIGHBOUR: 'it returns false'. Refute it at one input. -/
def fnNrAddWrong : ChangeSpec := { name := "fnNrAdd", fn := fun _ => fun
  | [d1, d2] => { results := [.lit (.bool false)], args := [d1, d2] }
  | _ => none }
def FnNrAddWrongFalsely : Prop := fnNrAddRow.holds Try.pinned (OpenSpec.ofChange fnNrAddWrong)

/-- 'laws.FnNrAddGroup': WHATEVER THE INPUT: true; the input reads as it did. -/
def fnNrAddGroupSpec : ChangeSpec := { name := "fnNrAddGroup", fn := fun _ => fun
  | [d1, d2, d3] => { results := [.lit (.bool true)], args := [d1, d2, d3] }
  | _ => none }
def fnNrAddGroupRow : OpenClaim := { program := "ytdocgdodahjooaa", sum := "507bf91660574671914a3154cce57468f6ee58dea5ea3689a2ea33f6b620d656", func := "loop.example/pub-g03342/laws.FnNrAddGroup", spec := "fnNrAddGroup", inPlace := ["math/bits.Add64", "math/bits.Sub64"], apart := false }
def FnNrAddGroupSaid : Prop := fnNrAddGroupRow.holds Try.pinned (OpenSpec.ofChange fnNrAddGroupSpec)

/-- ITS FALSE NEIGHBOUR: 'it returns false'. Refute it at one input. -/
def fnNrAddGroupWrong : ChangeSpec := { name := "fnNrAddGroup", fn := fun _ => fun
  | [d1, d2, d3] => { results := [.lit (.bool false)], args := [d1, d2, d3] }
  | _ => none }
def FnNrAddGroupWrongFalsely : Prop := fnNrAddGroupRow.holds Try.pinned (OpenSpec.ofChange fnNrAddGroupWrong)

/-- 'laws.FnNrDoubleHalve': WHATEVER THE INPUT: true; the input reads as it did. -/
def fnNrDoubleHalveSpec : ChangeSpec := { name := "fnNrDoubleHalve", fn := fun _ => fun
  | [d] => { results := [.lit (.bool true)], args := [d] }
  | _ => none }
def fnNrDoubleHalveRow : OpenClaim := { program := "ytdocgdodahjooaa", sum := "507bf91660574671914a3154cce57468f6ee58dea5ea3689a2ea33f6b620d656", func := "loop.example/pub-g03342/laws.FnNrDoubleHalve", spec := "fnNrDoubleHalve", inPlace := ["math/bits.Add64", "math/bits.Sub64"], apart := false }
def FnNrDoubleHalveSaid : Prop := fnNrDoubleHalveRow.holds Try.pinned (OpenSpec.ofChange fnNrDoubleHalveSpec)

/-- ITS FALSE NEIGHBOUR: 'it returns false'. Refute it at one input. -/
def fnNrDoubleHalveWrong : ChangeSpec := { name := "fnNrDoubleHalve", fn := fun _ => fun
  | [d] => { results := [.lit (.bool false)], args := [d] }
  | _ => none }
def FnNrDoubleHalveWrongFalsely : Prop := fnNrDoubleHalveRow.holds Try.pinned (OpenSpec.ofChange fnNrDoubleHalveWrong)

/-- 'laws.FnNrVecSum': WHATEVER THE INPUT: true; the input reads as it did. -/
def fnNrVecSumSpec : ChangeSpec := { name := "fnNrVecSum", fn := fun _ => fun
  | [d] => { results := [.lit (.bool true)], args := [d] }
  | _ => none }
def fnNrVecSumRow : OpenClaim := { program := "ytdocgdodahjooaa", sum := "507bf91660574671914a3154cce57468f6ee58dea5ea3689a2ea33f6b620d656", func := "loop.example/pub-g03342/laws.FnNrVecSum", spec := "fnNrVecSum", inPlace := ["math/bits.Add64", "math/bits.Sub64"], apart := false }
def FnNrVecSumSaid : Prop := fnNrVecSumRow.holds Try.pinned (OpenSpec.ofChange fnNrVecSumSpec)

/-- ITS FALSE NEIGHBOUR: 'it returns false'. Refute it at one input. -/
def fnNrVecSumWrong : ChangeSpec := { name := "fnNrVecSum", fn := fun _ => fun
  | [d] => { results := [.lit (.bool false)], args := [d] }
  | _ => none }
def FnNrVecSumWrongFalsely : Prop := fnNrVecSumRow.holds Try.pinned (OpenSpec.ofChange fnNrVecSumWrong)

/-- 'laws.FnNrVecSub': WHATEVER THE INPUT: true; the input reads as it did. -/
def fnNrVecSubSpec : ChangeSpec := { name := "fnNrVecSub", fn := fun _ => fun
  | [d1, d2] => { results := [.lit (.bool true)], args := [d1, d2] }
  | _ => none }
def fnNrVecSubRow : OpenClaim := { program := "ytdocgdodahjooaa", sum := "507bf91660574671914a3154cce57468f6ee58dea5ea3689a2ea33f6b620d656", func := "loop.example/pub-g03342/laws.FnNrVecSub", spec := "fnNrVecSub", inPlace := ["math/bits.Sub64", "math/bits.Add64"], apart := false }
def FnNrVecSubSaid : Prop := fnNrVecSubRow.holds Try.pinned (OpenSpec.ofChange fnNrVecSubSpec)

/-- ITS FALSE NEIGHBOUR: 'it returns false'. Refute it at one input. -/
def fnNrVecSubWrong : ChangeSpec := { name := "fnNrVecSub", fn := fun _ => fun
  | [d1, d2] => { results := [.lit (.bool false)], args := [d1, d2] }
  | _ => none }
def FnNrVecSubWrongFalsely : Prop := fnNrVecSubRow.holds Try.pinned (OpenSpec.ofChange fnNrVecSubWrong)

/- THE SECOND FORM. 'bulk': how many values and letters a reading holds, each counted each time it is reached (what is shared counts as often as it is met; a slice's spare places count too). A statement '..UptoSaid' is the law's where the arguments, and the package variables that the reading takes, are together of bulk at most 1048576: NARROWER than '..Said'. Prove '..Said' where nothing that the law and all that it calls make is longer than what came in: it says more and counts as full. Else prove '..UptoSaid'. A law counts once. -/
mutual
def uptoBulk {H : Type} : DataW H → Nat
  | .lit (.string bytes) => bytes.length + 1
  | .lit _ => 1
  | .nil => 1
  | .ptr d => uptoBulk d + 1
  | .slice elems spare => uptoBulkAll elems + uptoBulkAll spare + 1
  | .agg parts => uptoBulkAll parts + 1
  | .iface _ d => uptoBulk d + 1
  | .map entries => uptoBulkEntries entries + 1
  | .held _ => 1
def uptoBulkAll {H : Type} : List (DataW H) → Nat
  | [] => 0
  | d :: r => uptoBulk d + uptoBulkAll r
def uptoBulkEntries {H : Type} : List (Lit × DataW H) → Nat
  | [] => 0
  | x :: r => uptoBulkEntry x + uptoBulkEntries r
def uptoBulkEntry {H : Type} : Lit × DataW H → Nat
  | (.string bytes, d) => bytes.length + uptoBulk d + 1
  | (_, d) => uptoBulk d + 1
 end
def uptoSmall : (H : Type) → List (DataW H) → Bool := fun _ ds => decide (uptoBulkAll ds ≤ 1048576)
def OpenSpec.upto (s : _root_.Go.ChangeSpec) : _root_.Go.OpenSpec := { _root_.Go.OpenSpec.ofChange s with cond := some uptoSmall }

/-- 'laws.FnNrSelect', WHERE WHAT IT READS IS OF BULK AT MOST 1048576: true; the input reads as it did. -/
def fnNrSelectUptoRow : OpenClaim := { program := "ytdocgdodahjooaa", sum := "507bf91660574671914a3154cce57468f6ee58dea5ea3689a2ea33f6b620d656", func := "loop.example/pub-g03342/laws.FnNrSelect", spec := "fnNrSelect", apart := false, narrowed := true }
def FnNrSelectUptoSaid : Prop := fnNrSelectUptoRow.holds Try.pinned (OpenSpec.upto fnNrSelectSpec)

/-- 'laws.FnNrBitLen', WHERE WHAT IT READS IS OF BULK AT MOST 1048576: true; the input reads as it did. -/
def fnNrBitLenUptoRow : OpenClaim := { program := "ytdocgdodahjooaa", sum := "507bf91660574671914a3154cce57468f6ee58dea5ea3689a2ea33f6b620d656", func := "loop.example/pub-g03342/laws.FnNrBitLen", spec := "fnNrBitLen", apart := false, narrowed := true }
def FnNrBitLenUptoSaid : Prop := fnNrBitLenUptoRow.holds Try.pinned (OpenSpec.upto fnNrBitLenSpec)

/-- 'laws.FnNrHalve', WHERE WHAT IT READS IS OF BULK AT MOST 1048576: true; the input reads as it did. -/
def fnNrHalveUptoRow : OpenClaim := { program := "ytdocgdodahjooaa", sum := "507bf91660574671914a3154cce57468f6ee58dea5ea3689a2ea33f6b620d656", func := "loop.example/pub-g03342/laws.FnNrHalve", spec := "fnNrHalve", inPlace := ["math/bits.Add64"], apart := false, narrowed := true }
def FnNrHalveUptoSaid : Prop := fnNrHalveUptoRow.holds Try.pinned (OpenSpec.upto fnNrHalveSpec)

/-- 'laws.FnNrAdd', WHERE WHAT IT READS IS OF BULK AT MOST 1048576: true; the input reads as it did. -/
def fnNrAddUptoRow : OpenClaim := { program := "ytdocgdodahjooaa", sum := "507bf91660574671914a3154cce57468f6ee58dea5ea3689a2ea33f6b620d656", func := "loop.example/pub-g03342/laws.FnNrAdd", spec := "fnNrAdd", inPlace := ["math/bits.Add64", "math/bits.Sub64"], apart := false, narrowed := true }
def FnNrAddUptoSaid : Prop := fnNrAddUptoRow.holds Try.pinned (OpenSpec.upto fnNrAddSpec)

/-- 'laws.FnNrAddGroup', WHERE WHAT IT READS IS OF BULK AT MOST 1048576: true; the input reads as it did. -/
def fnNrAddGroupUptoRow : OpenClaim := { program := "ytdocgdodahjooaa", sum := "507bf91660574671914a3154cce57468f6ee58dea5ea3689a2ea33f6b620d656", func := "loop.example/pub-g03342/laws.FnNrAddGroup", spec := "fnNrAddGroup", inPlace := ["math/bits.Add64", "math/bits.Sub64"], apart := false, narrowed := true }
def FnNrAddGroupUptoSaid : Prop := fnNrAddGroupUptoRow.holds Try.pinned (OpenSpec.upto fnNrAddGroupSpec)

/-- 'laws.FnNrDoubleHalve', WHERE WHAT IT READS IS OF BULK AT MOST 1048576: true; the input reads as it did. -/
def fnNrDoubleHalveUptoRow : OpenClaim := { program := "ytdocgdodahjooaa", sum := "507bf91660574671914a3154cce57468f6ee58dea5ea3689a2ea33f6b620d656", func := "loop.example/pub-g03342/laws.FnNrDoubleHalve", spec := "fnNrDoubleHalve", inPlace := ["math/bits.Add64", "math/bits.Sub64"], apart := false, narrowed := true }
def FnNrDoubleHalveUptoSaid : Prop := fnNrDoubleHalveUptoRow.holds Try.pinned (OpenSpec.upto fnNrDoubleHalveSpec)

/-- 'laws.FnNrVecSum', WHERE WHAT IT READS IS OF BULK AT MOST 1048576: true; the input reads as it did. -/
def fnNrVecSumUptoRow : OpenClaim := { program := "ytdocgdodahjooaa", sum := "507bf91660574671914a3154cce57468f6ee58dea5ea3689a2ea33f6b620d656", func := "loop.example/pub-g03342/laws.FnNrVecSum", spec := "fnNrVecSum", inPlace := ["math/bits.Add64", "math/bits.Sub64"], apart := false, narrowed := true }
def FnNrVecSumUptoSaid : Prop := fnNrVecSumUptoRow.holds Try.pinned (OpenSpec.upto fnNrVecSumSpec)

/-- 'laws.FnNrVecSub', WHERE WHAT IT READS IS OF BULK AT MOST 1048576: true; the input reads as it did. -/
def fnNrVecSubUptoRow : OpenClaim := { program := "ytdocgdodahjooaa", sum := "507bf91660574671914a3154cce57468f6ee58dea5ea3689a2ea33f6b620d656", func := "loop.example/pub-g03342/laws.FnNrVecSub", spec := "fnNrVecSub", inPlace := ["math/bits.Sub64", "math/bits.Add64"], apart := false, narrowed := true }
def FnNrVecSubUptoSaid : Prop := fnNrVecSubUptoRow.holds Try.pinned (OpenSpec.upto fnNrVecSubSpec)

end Rows
end Go.Proofs.Ytdocgdodahjooaa
