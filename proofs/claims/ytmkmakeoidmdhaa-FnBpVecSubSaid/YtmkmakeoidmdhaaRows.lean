/-
  No cell of these rows narrows 'for every input' (looked for: loops, veiled, ifaces, maps, wideKeys, modest, calm, conditions, laid).
  DERIVED. THE GIVEN ROWS OF THIS SEAT. 8 by the template 'for every input the law returns true; each argument reads behind the call as it read before'; 0 by the template 'total and deterministic' (their statements: YtmkmakeoidmdhaaTotals.lean).
  GIVEN WITH THE SEED: the statements are not yours to turn. If you find one false, say at which input.
  Laid BY PROGRAM, IN A SANDBOX (cutbox-rows.mjs): the forced cells as the released guide's own fill.sh prints them over the translation 5a3ab62095ad7143… (all of the seat's roots in one cut). By AI agents, Wed Nov 11 2026. No macro, syntax, notation, axiom, sorry.
-/
import Derived.Test.YtmkmakeoidmdhaaChecked
import GoSem.Claim
import GoSem.ClaimJoined
import GoSem.ClaimMapViews
import Derived.JoinedTies
import Derived.KernelRfl
namespace Go.Proofs.Ytmkmakeoidmdhaa
/- THE CELL 'sum', in the pinned program and in every row, IS THE sha256 OF THE DUMP (.gsa) THAT YtmkmakeoidmdhaaProg.lean LOADS. Nothing in Lean hashes anything: it is a label: what it is worth is what the hold of that sum in a sandbox is worth. -/
noncomputable def Try.pinned : Pinned := { name := "ytmkmakeoidmdhaa", sum := "5a3ab62095ad71436490c0112886c41e3f84d61273c40061109f396c7efd30b1", checked := Try.checked }
namespace Rows
def none {H : Type} : Left H := { results := [], args := [] }

/-- 'laws.FnBpSelect': WHATEVER THE INPUT: true; the input reads as it did. -/
def fnBpSelectSpec : ChangeSpec := { name := "fnBpSelect", fn := fun _ => fun
  | [d1, d2, d3] => { results := [.lit (.bool true)], args := [d1, d2, d3] }
  | _ => none }
def fnBpSelectRow : OpenClaim := { program := "ytmkmakeoidmdhaa", sum := "5a3ab62095ad71436490c0112886c41e3f84d61273c40061109f396c7efd30b1", func := "loop.example/pub-g03342/laws.FnBpSelect", spec := "fnBpSelect", apart := false }
def FnBpSelectSaid : Prop := fnBpSelectRow.holds Try.pinned (OpenSpec.ofChange fnBpSelectSpec)

/-- ITS FALSE NEIGHBOUR: 'it returns false'. Refute it at one input. -/
def fnBpSelectWrong : ChangeSpec := { name := "fnBpSelect", fn := fun _ => fun
  | [d1, d2, d3] => { results := [.lit (.bool false)], args := [d1, d2, d3] }
  | _ => none }
def FnBpSelectWrongFalsely : Prop := fnBpSelectRow.holds Try.pinned (OpenSpec.ofChange fnBpSelectWrong)

/-- 'laws.FnBpBitLen': WHATEVER THE INPUT: true; the input reads as it did. -/
def fnBpBitLenSpec : ChangeSpec := { name := "fnBpBitLen", fn := fun _ => fun
  | [d] => { results := [.lit (.bool true)], args := [d] }
  | _ => none }
def fnBpBitLenRow : OpenClaim := { program := "ytmkmakeoidmdhaa", sum := "5a3ab62095ad71436490c0112886c41e3f84d61273c40061109f396c7efd30b1", func := "loop.example/pub-g03342/laws.FnBpBitLen", spec := "fnBpBitLen", apart := false }
def FnBpBitLenSaid : Prop := fnBpBitLenRow.holds Try.pinned (OpenSpec.ofChange fnBpBitLenSpec)

/-- ITS FALSE NEIGHBOUR: 'it returns false'. Refute it at one input. -/
def fnBpBitLenWrong : ChangeSpec := { name := "fnBpBitLen", fn := fun _ => fun
  | [d] => { results := [.lit (.bool false)], args := [d] }
  | _ => none }
def FnBpBitLenWrongFalsely : Prop := fnBpBitLenRow.holds Try.pinned (OpenSpec.ofChange fnBpBitLenWrong)

/-- 'laws.FnBpHalve': WHATEVER THE INPUT: true; the input reads as it did. -/
def fnBpHalveSpec : ChangeSpec := { name := "fnBpHalve", fn := fun _ => fun
  | [d] => { results := [.lit (.bool true)], args := [d] }
  | _ => none }
def fnBpHalveRow : OpenClaim := { program := "ytmkmakeoidmdhaa", sum := "5a3ab62095ad71436490c0112886c41e3f84d61273c40061109f396c7efd30b1", func := "loop.example/pub-g03342/laws.FnBpHalve", spec := "fnBpHalve", inPlace := ["math/bits.Add64"], apart := false }
def FnBpHalveSaid : Prop := fnBpHalveRow.holds Try.pinned (OpenSpec.ofChange fnBpHalveSpec)

/-- ITS FALSE NEIGHBOUR: 'it returns false'. Refute it at one input. -/
def fnBpHalveWrong : ChangeSpec := { name := "fnBpHalve", fn := fun _ => fun
  | [d] => { results := [.lit (.bool false)], args := [d] }
  | _ => none }
def FnBpHalveWrongFalsely : Prop := fnBpHalveRow.holds Try.pinned (OpenSpec.ofChange fnBpHalveWrong)

/-- 'laws.FnBpAdd': WHATEVER THE INPUT: true; the input reads as it did. -/
def fnBpAddSpec : ChangeSpec := { name := "fnBpAdd", fn := fun _ => fun
  | [d1, d2] => { results := [.lit (.bool true)], args := [d1, d2] }
  | _ => none }
def fnBpAddRow : OpenClaim := { program := "ytmkmakeoidmdhaa", sum := "5a3ab62095ad71436490c0112886c41e3f84d61273c40061109f396c7efd30b1", func := "loop.example/pub-g03342/laws.FnBpAdd", spec := "fnBpAdd", inPlace := ["math/bits.Add64", "math/bits.Sub64"], apart := false }
def FnBpAddSaid : Prop := fnBpAddRow.holds Try.pinned (OpenSpec.ofChange fnBpAddSpec)

/-- ITS FALSE NEIGHBOUR: 'it returns false'. Refute it at one input. -/
def fnBpAddWrong : ChangeSpec := { name := "fnBpAdd", fn := fun _ => fun
  | [d1, d2] => { results := [.lit (.bool false)], args := [d1, d2] }
  | _ => none }
def FnBpAddWrongFalsely : Prop := fnBpAddRow.holds Try.pinned (OpenSpec.ofChange fnBpAddWrong)

/-- 'laws.FnBpAddGroup': WHATEVER THE INPUT: true; the input reads as it did. -/
def fnBpAddGroupSpec : ChangeSpec := { name := "fnBpAddGroup", fn := fun _ => fun
  | [d1, d2, d3] => { results := [.lit (.bool true)], args := [d1, d2, d3] }
  | _ => none }
def fnBpAddGroupRow : OpenClaim := { program := "ytmkmakeoidmdhaa", sum := "5a3ab62095ad71436490c0112886c41e3f84d61273c40061109f396c7efd30b1", func := "loop.example/pub-g03342/laws.FnBpAddGroup", spec := "fnBpAddGroup", inPlace := ["math/bits.Add64", "math/bits.Sub64"], apart := false }
def FnBpAddGroupSaid : Prop := fnBpAddGroupRow.holds Try.pinned (OpenSpec.ofChange fnBpAddGroupSpec)

/-- ITS FALSE NEIGHBOUR: 'it returns false'. Refute it at one input. -/
def fnBpAddGroupWrong : ChangeSpec := { name := "fnBpAddGroup", fn := fun _ => fun
  | [d1, d2, d3] => { results := [.lit (.bool false)], args := [d1, d2, d3] }
  | _ => none }
def FnBpAddGroupWrongFalsely : Prop := fnBpAddGroupRow.holds Try.pinned (OpenSpec.ofChange fnBpAddGroupWrong)

/-- 'laws.FnBpDoubleHalve': WHATEVER THE INPUT: true; the input reads as it did. -/
def fnBpDoubleHalveSpec : ChangeSpec := { name := "fnBpDoubleHalve", fn := fun _ => fun
  | [d] => { results := [.lit (.bool true)], args := [d] }
  | _ => none }
def fnBpDoubleHalveRow : OpenClaim := { program := "ytmkmakeoidmdhaa", sum := "5a3ab62095ad71436490c0112886c41e3f84d61273c40061109f396c7efd30b1", func := "loop.example/pub-g03342/laws.FnBpDoubleHalve", spec := "fnBpDoubleHalve", inPlace := ["math/bits.Add64", "math/bits.Sub64"], apart := false }
def FnBpDoubleHalveSaid : Prop := fnBpDoubleHalveRow.holds Try.pinned (OpenSpec.ofChange fnBpDoubleHalveSpec)

/-- ITS FALSE NEIGHBOUR: 'it returns false'. Refute it at one input. -/
def fnBpDoubleHalveWrong : ChangeSpec := { name := "fnBpDoubleHalve", fn := fun _ => fun
  | [d] => { results := [.lit (.bool false)], args := [d] }
  | _ => none }
def FnBpDoubleHalveWrongFalsely : Prop := fnBpDoubleHalveRow.holds Try.pinned (OpenSpec.ofChange fnBpDoubleHalveWrong)

/-- 'laws.FnBpVecSum': WHATEVER THE INPUT: true; the input reads as it did. -/
def fnBpVecSumSpec : ChangeSpec := { name := "fnBpVecSum", fn := fun _ => fun
  | [d] => { results := [.lit (.bool true)], args := [d] }
  | _ => none }
def fnBpVecSumRow : OpenClaim := { program := "ytmkmakeoidmdhaa", sum := "5a3ab62095ad71436490c0112886c41e3f84d61273c40061109f396c7efd30b1", func := "loop.example/pub-g03342/laws.FnBpVecSum", spec := "fnBpVecSum", inPlace := ["math/bits.Add64", "math/bits.Sub64"], apart := false }
def FnBpVecSumSaid : Prop := fnBpVecSumRow.holds Try.pinned (OpenSpec.ofChange fnBpVecSumSpec)

/-- ITS FALSE NEIGHBOUR: 'it returns false'. Refute it at one input. -/
def fnBpVecSumWrong : ChangeSpec := { name := "fnBpVecSum", fn := fun _ => fun
  | [d] => { results := [.lit (.bool false)], args := [d] }
  | _ => none }
def FnBpVecSumWrongFalsely : Prop := fnBpVecSumRow.holds Try.pinned (OpenSpec.ofChange fnBpVecSumWrong)

/-- 'laws.FnBpVecSub': WHATEVER THE INPUT: true; the input reads as it did. -/
def fnBpVecSubSpec : ChangeSpec := { name := "fnBpVecSub", fn := fun _ => fun
  | [d1, d2] => { results := [.lit (.bool true)], args := [d1, d2] }
  | _ => none }
def fnBpVecSubRow : OpenClaim := { program := "ytmkmakeoidmdhaa", sum := "5a3ab62095ad71436490c0112886c41e3f84d61273c40061109f396c7efd30b1", func := "loop.example/pub-g03342/laws.FnBpVecSub", spec := "fnBpVecSub", inPlace := ["math/bits.Sub64", "math/bits.Add64"], apart := false }
def FnBpVecSubSaid : Prop := fnBpVecSubRow.holds Try.pinned (OpenSpec.ofChange fnBpVecSubSpec)

/-- ITS FALSE NEIGHBOUR: 'it returns false'. Refute it at one input. -/
def fnBpVecSubWrong : ChangeSpec := { name := "fnBpVecSub", fn := fun _ => fun
  | [d1, d2] => { results := [.lit (.bool false)], args := [d1, d2] }
  | _ => none }
def FnBpVecSubWrongFalsely : Prop := fnBpVecSubRow.holds Try.pinned (OpenSpec.ofChange fnBpVecSubWrong)

/- THE SECOND FORM. 'bulk': how many values and letters a reading holds, each counted each time it is reached (what is shared counts as often as it is met; a slice's spare places count too). A statement '..UptoSaid' is the law's where the arguments, and the package variables that the reading takes, are together of bulk at most 1048576: NARROWER than '..Said'. Prove '..Said' where nothing that the law and all that it calls make is longer than what came in: it says more and counts as full. Else prove '..UptoSaid'. A law counts once. -/
mutual
def uptoBulk {H : Type} : DataW H → Nat
  | .lit (.string bytes) => bytes.length + 1
  | .lit _ => 1
  | .nil => 1
  | .ptr d => uptoBulk d + 1
  | .slice elems spare => uptoBulkAll elems + uptoBulkAll spare + 1
  | .agg parts => uptoBulkAll parts + 1
  | .iface _ d => uptoBulk d + 1
  | .map entries => uptoBulkEntries entries + 1
  | .held _ => 1
def uptoBulkAll {H : Type} : List (DataW H) → Nat
  | [] => 0
  | d :: r => uptoBulk d + uptoBulkAll r
def uptoBulkEntries {H : Type} : List (Lit × DataW H) → Nat
  | [] => 0
  | x :: r => uptoBulkEntry x + uptoBulkEntries r
def uptoBulkEntry {H : Type} : Lit × DataW H → Nat
  | (.string bytes, d) => bytes.length + uptoBulk d + 1
  | (_, d) => uptoBulk d + 1
 end
def uptoSmall : (H : Type) → List (DataW H) → Bool := fun _ ds => decide (uptoBulkAll ds ≤ 1048576)
def OpenSpec.upto (s : _root_.Go.ChangeSpec) : _root_.Go.OpenSpec := { _root_.Go.OpenSpec.ofChange s with cond := some uptoSmall }

/-- 'laws.FnBpSelect', WHERE WHAT IT READS IS OF BULK AT MOST 1048576: true; the input reads as it did. -/
def fnBpSelectUptoRow : OpenClaim := { program := "ytmkmakeoidmdhaa", sum := "5a3ab62095ad71436490c0112886c41e3f84d61273c40061109f396c7efd30b1", func := "loop.example/pub-g03342/laws.FnBpSelect", spec := "fnBpSelect", apart := false, narrowed := true }
def FnBpSelectUptoSaid : Prop := fnBpSelectUptoRow.holds Try.pinned (OpenSpec.upto fnBpSelectSpec)

/-- 'laws.FnBpBitLen', WHERE WHAT IT READS IS OF BULK AT MOST 1048576: true; the input reads as it did. -/
def fnBpBitLenUptoRow : OpenClaim := { program := "ytmkmakeoidmdhaa", sum := "5a3ab62095ad71436490c0112886c41e3f84d61273c40061109f396c7efd30b1", func := "loop.example/pub-g03342/laws.FnBpBitLen", spec := "fnBpBitLen", apart := false, narrowed := true }
def FnBpBitLenUptoSaid : Prop := fnBpBitLenUptoRow.holds Try.pinned (OpenSpec.upto fnBpBitLenSpec)

/-- 'laws.FnBpHalve', WHERE WHAT IT READS IS OF BULK AT MOST 1048576: true; the input reads as it did. -/
def fnBpHalveUptoRow : OpenClaim := { program := "ytmkmakeoidmdhaa", sum := "5a3ab62095ad71436490c0112886c41e3f84d61273c40061109f396c7efd30b1", func := "loop.example/pub-g03342/laws.FnBpHalve", spec := "fnBpHalve", inPlace := ["math/bits.Add64"], apart := false, narrowed := true }
def FnBpHalveUptoSaid : Prop := fnBpHalveUptoRow.holds Try.pinned (OpenSpec.upto fnBpHalveSpec)

/-- 'laws.FnBpAdd', WHERE WHAT IT READS IS OF BULK AT MOST 1048576: true; the input reads as it did. -/
def fnBpAddUptoRow : OpenClaim := { program := "ytmkmakeoidmdhaa", sum := "5a3ab62095ad71436490c0112886c41e3f84d61273c40061109f396c7efd30b1", func := "loop.example/pub-g03342/laws.FnBpAdd", spec := "fnBpAdd", inPlace := ["math/bits.Add64", "math/bits.Sub64"], apart := false, narrowed := true }
def FnBpAddUptoSaid : Prop := fnBpAddUptoRow.holds Try.pinned (OpenSpec.upto fnBpAddSpec)

/-- 'laws.FnBpAddGroup', WHERE WHAT IT READS IS OF BULK AT MOST 1048576: true; the input reads as it did. -/
def fnBpAddGroupUptoRow : OpenClaim := { program := "ytmkmakeoidmdhaa", sum := "5a3ab62095ad71436490c0112886c41e3f84d61273c40061109f396c7efd30b1", func := "loop.example/pub-g03342/laws.FnBpAddGroup", spec := "fnBpAddGroup", inPlace := ["math/bits.Add64", "math/bits.Sub64"], apart := false, narrowed := true }
def FnBpAddGroupUptoSaid : Prop := fnBpAddGroupUptoRow.holds Try.pinned (OpenSpec.upto fnBpAddGroupSpec)

/-- 'laws.FnBpDoubleHalve', WHERE WHAT IT READS IS OF BULK AT MOST 1048576: true; the input reads as it did. -/
def fnBpDoubleHalveUptoRow : OpenClaim := { program := "ytmkmakeoidmdhaa", sum := "5a3ab62095ad71436490c0112886c41e3f84d61273c40061109f396c7efd30b1", func := "loop.example/pub-g03342/laws.FnBpDoubleHalve", spec := "fnBpDoubleHalve", inPlace := ["math/bits.Add64", "math/bits.Sub64"], apart := false, narrowed := true }
def FnBpDoubleHalveUptoSaid : Prop := fnBpDoubleHalveUptoRow.holds Try.pinned (OpenSpec.upto fnBpDoubleHalveSpec)

/-- 'laws.FnBpVecSum', WHERE WHAT IT READS IS OF BULK AT MOST 1048576: true; the input reads as it did. -/
def fnBpVecSumUptoRow : OpenClaim := { program := "ytmkmakeoidmdhaa", sum := "5a3ab62095ad71436490c0112886c41e3f84d61273c40061109f396c7efd30b1", func := "loop.example/pub-g03342/laws.FnBpVecSum", spec := "fnBpVecSum", inPlace := ["math/bits.Add64", "math/bits.Sub64"], apart := false, narrowed := true }
def FnBpVecSumUptoSaid : Prop := fnBpVecSumUptoRow.holds Try.pinned (OpenSpec.upto fnBpVecSumSpec)

/-- 'laws.FnBpVecSub', WHERE WHAT IT READS IS OF BULK AT MOST 1048576: true; the input reads as it did. -/
def fnBpVecSubUptoRow : OpenClaim := { program := "ytmkmakeoidmdhaa", sum := "5a3ab62095ad71436490c0112886c41e3f84d61273c40061109f396c7efd30b1", func := "loop.example/pub-g03342/laws.FnBpVecSub", spec := "fnBpVecSub", inPlace := ["math/bits.Sub64", "math/bits.Add64"], apart := false, narrowed := true }
def FnBpVecSubUptoSaid : Prop := fnBpVecSubUptoRow.holds Try.pinned (OpenSpec.upto fnBpVecSubSpec)

end Rows
end Go.Proofs.Ytmkmakeoidmdhaa
