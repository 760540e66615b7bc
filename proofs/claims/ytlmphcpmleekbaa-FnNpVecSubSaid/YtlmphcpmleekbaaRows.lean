/-
  No cell of these rows narrows 'for every input' (looked for: loops, veiled, ifaces, maps, wideKeys, modest, calm, conditions, laid).
  DERIVED. THE GIVEN ROWS OF THIS SEAT. 8 by the template 'for every input the law returns true; each argument reads behind the call as it read before'; 0 by the template 'total and deterministic' (their statements: YtlmphcpmleekbaaTotals.lean).
  GIVEN WITH THE SEED: the statements are not yours to turn. If you find one false, say at which input.
  Laid BY PROGRAM, IN A SANDBOX (cutbox-rows.mjs): the forced cells as the released guide's own fill.sh prints them over the translation f6bb0b2b1adbfde2… (all of the seat's roots in one cut). By AI agents, Wed Nov 11 2026. No macro, syntax, notation, axiom, sorry.
-/
import Derived.Test.YtlmphcpmleekbaaChecked
import GoSem.Claim
import GoSem.ClaimJoined
import GoSem.ClaimMapViews
import Derived.JoinedTies
import Derived.KernelRfl
namespace Go.Proofs.Ytlmphcpmleekbaa
/- THE CELL 'sum', in the pinned program and in every row, IS THE sha256 OF THE DUMP (.gsa) THAT YtlmphcpmleekbaaProg.lean LOADS. Nothing in Lean hashes anything: it is a label: what it is worth is what the hold of that sum in a sandbox is worth. -/
noncomputable def Try.pinned : Pinned := { name := "ytlmphcpmleekbaa", sum := "f6bb0b2b1adbfde2021a607a47f0e86e2f0316438e8b5858d6c4e682fb3f7075", checked := Try.checked }
namespace Rows
def none {H : Type} : Left H := { results := [], args := [] }

/-- 'laws.FnNpSelect': WHATEVER THE INPUT: true; the input reads as it did. -/
def fnNpSelectSpec : ChangeSpec := { name := "fnNpSelect", fn := fun _ => fun
  | [d1, d2, d3] => { results := [.lit (.bool true)], args := [d1, d2, d3] }
  | _ => none }
def fnNpSelectRow : OpenClaim := { program := "ytlmphcpmleekbaa", sum := "f6bb0b2b1adbfde2021a607a47f0e86e2f0316438e8b5858d6c4e682fb3f7075", func := "loop.example/pub-g03342/laws.FnNpSelect", spec := "fnNpSelect", apart := false }
def FnNpSelectSaid : Prop := fnNpSelectRow.holds Try.pinned (OpenSpec.ofChange fnNpSelectSpec)

/-- ITS FALSE NEIGHBOUR: 'it returns false'. Refute it at one input. -/
def fnNpSelectWrong : ChangeSpec := { name := "fnNpSelect", fn := fun _ => fun
  | [d1, d2, d3] => { results := [.lit (.bool false)], args := [d1, d2, d3] }
  | _ => none }
def FnNpSelectWrongFalsely : Prop := fnNpSelectRow.holds Try.pinned (OpenSpec.ofChange fnNpSelectWrong)

/-- 'laws.FnNpBitLen': WHATEVER THE INPUT: true; the input reads as it did. -/
def fnNpBitLenSpec : ChangeSpec := { name := "fnNpBitLen", fn := fun _ => fun
  | [d] => { results := [.lit (.bool true)], args := [d] }
  | _ => none }
def fnNpBitLenRow : OpenClaim := { program := "ytlmphcpmleekbaa", sum := "f6bb0b2b1adbfde2021a607a47f0e86e2f0316438e8b5858d6c4e682fb3f7075", func := "loop.example/pub-g03342/laws.FnNpBitLen", spec := "fnNpBitLen", apart := false }
def FnNpBitLenSaid : Prop := fnNpBitLenRow.holds Try.pinned (OpenSpec.ofChange fnNpBitLenSpec)

/-- ITS FALSE NEIGHBOUR: 'it returns false'. Refute it at one input. -/
def fnNpBitLenWrong : ChangeSpec := { name := "fnNpBitLen", fn := fun _ => fun
  | [d] => { results := [.lit (.bool false)], args := [d] }
  | _ => none }
def FnNpBitLenWrongFalsely : Prop := fnNpBitLenRow.holds Try.pinned (OpenSpec.ofChange fnNpBitLenWrong)

/-- 'laws.FnNpHalve': WHATEVER THE INPUT: true; the input reads as it did. -/
def fnNpHalveSpec : ChangeSpec := { name := "fnNpHalve", fn := fun _ => fun
  | [d] => { results := [.lit (.bool true)], args := [d] }
  | _ => none }
def fnNpHalveRow : OpenClaim := { program := "ytlmphcpmleekbaa", sum := "f6bb0b2b1adbfde2021a607a47f0e86e2f0316438e8b5858d6c4e682fb3f7075", func := "loop.example/pub-g03342/laws.FnNpHalve", spec := "fnNpHalve", inPlace := ["math/bits.Add64"], apart := false }
def FnNpHalveSaid : Prop := fnNpHalveRow.holds Try.pinned (OpenSpec.ofChange fnNpHalveSpec)

/-- ITS FALSE NEIGHBOUR: 'it returns false'. Refute it at one input. -/
def fnNpHalveWrong : ChangeSpec := { name := "fnNpHalve", fn := fun _ => fun
  | [d] => { results := [.lit (.bool false)], args := [d] }
  | _ => none }
def FnNpHalveWrongFalsely : Prop := fnNpHalveRow.holds Try.pinned (OpenSpec.ofChange fnNpHalveWrong)

/-- 'laws.FnNpAdd': WHATEVER THE INPUT: true; the input reads as it did. -/
def fnNpAddSpec : ChangeSpec := { name := "fnNpAdd", fn := fun _ => fun
  | [d1, d2] => { results := [.lit (.bool true)], args := [d1, d2] }
  | _ => none }
def fnNpAddRow : OpenClaim := { program := "ytlmphcpmleekbaa", sum := "f6bb0b2b1adbfde2021a607a47f0e86e2f0316438e8b5858d6c4e682fb3f7075", func := "loop.example/pub-g03342/laws.FnNpAdd", spec := "fnNpAdd", inPlace := ["math/bits.Add64", "math/bits.Sub64"], apart := false }
def FnNpAddSaid : Prop := fnNpAddRow.holds Try.pinned (OpenSpec.ofChange fnNpAddSpec)

/-- ITS FALSE NEIGHBOUR: 'it returns false'. Refute it at one input. -/
def fnNpAddWrong : ChangeSpec := { name := "fnNpAdd", fn := fun _ => fun
  | [d1, d2] => { results := [.lit (.bool false)], args := [d1, d2] }
  | _ => none }
def FnNpAddWrongFalsely : Prop := fnNpAddRow.holds Try.pinned (OpenSpec.ofChange fnNpAddWrong)

/-- 'laws.FnNpAddGroup': WHATEVER THE INPUT: true; the input reads as it did. -/
def fnNpAddGroupSpec : ChangeSpec := { name := "fnNpAddGroup", fn := fun _ => fun
  | [d1, d2, d3] => { results := [.lit (.bool true)], args := [d1, d2, d3] }
  | _ => none }
def fnNpAddGroupRow : OpenClaim := { program := "ytlmphcpmleekbaa", sum := "f6bb0b2b1adbfde2021a607a47f0e86e2f0316438e8b5858d6c4e682fb3f7075", func := "loop.example/pub-g03342/laws.FnNpAddGroup", spec := "fnNpAddGroup", inPlace := ["math/bits.Add64", "math/bits.Sub64"], apart := false }
def FnNpAddGroupSaid : Prop := fnNpAddGroupRow.holds Try.pinned (OpenSpec.ofChange fnNpAddGroupSpec)

/-- ITS FALSE NEIGHBOUR: 'it returns false'. Refute it at one input. -/
def fnNpAddGroupWrong : ChangeSpec := { name := "fnNpAddGroup", fn := fun _ => fun
  | [d1, d2, d3] => { results := [.lit (.bool false)], args := [d1, d2, d3] }
  | _ => none }
def FnNpAddGroupWrongFalsely : Prop := fnNpAddGroupRow.holds Try.pinned (OpenSpec.ofChange fnNpAddGroupWrong)

/-- 'laws.FnNpDoubleHalve': WHATEVER THE INPUT: true; the input reads as it did. -/
def fnNpDoubleHalveSpec : ChangeSpec := { name := "fnNpDoubleHalve", fn := fun _ => fun
  | [d] => { results := [.lit (.bool true)], args := [d] }
  | _ => none }
def fnNpDoubleHalveRow : OpenClaim := { program := "ytlmphcpmleekbaa", sum := "f6bb0b2b1adbfde2021a607a47f0e86e2f0316438e8b5858d6c4e682fb3f7075", func := "loop.example/pub-g03342/laws.FnNpDoubleHalve", spec := "fnNpDoubleHalve", inPlace := ["math/bits.Add64", "math/bits.Sub64"], apart := false }
def FnNpDoubleHalveSaid : Prop := fnNpDoubleHalveRow.holds Try.pinned (OpenSpec.ofChange fnNpDoubleHalveSpec)

/-- ITS FALSE NEIGHBOUR: 'it returns false'. Refute it at one input. -/
def fnNpDoubleHalveWrong : ChangeSpec := { name := "fnNpDoubleHalve", fn := fun _ => fun
  | [d] => { results := [.lit (.bool false)], args := [d] }
  | _ => none }
def FnNpDoubleHalveWrongFalsely : Prop := fnNpDoubleHalveRow.holds Try.pinned (OpenSpec.ofChange fnNpDoubleHalveWrong)

/-- 'laws.FnNpVecSum': WHATEVER THE INPUT: true; the input reads as it did. -/
def fnNpVecSumSpec : ChangeSpec := { name := "fnNpVecSum", fn := fun _ => fun
  | [d] => { results := [.lit (.bool true)], args := [d] }
  | _ => none }
def fnNpVecSumRow : OpenClaim := { program := "ytlmphcpmleekbaa", sum := "f6bb0b2b1adbfde2021a607a47f0e86e2f0316438e8b5858d6c4e682fb3f7075", func := "loop.example/pub-g03342/laws.FnNpVecSum", spec := "fnNpVecSum", inPlace := ["math/bits.Add64", "math/bits.Sub64"], apart := false }
def FnNpVecSumSaid : Prop := fnNpVecSumRow.holds Try.pinned (OpenSpec.ofChange fnNpVecSumSpec)

/-- ITS FALSE NEIGHBOUR: 'it returns false'. Refute it at one input. -/
def fnNpVecSumWrong : ChangeSpec := { name := "fnNpVecSum", fn := fun _ => fun
  | [d] => { results := [.lit (.bool false)], args := [d] }
  | _ => none }
def FnNpVecSumWrongFalsely : Prop := fnNpVecSumRow.holds Try.pinned (OpenSpec.ofChange fnNpVecSumWrong)

/-- 'laws.FnNpVecSub': WHATEVER THE INPUT: true; the input reads as it did. -/
def fnNpVecSubSpec : ChangeSpec := { name := "fnNpVecSub", fn := fun _ => fun
  | [d1, d2] => { results := [.lit (.bool true)], args := [d1, d2] }
  | _ => none }
def fnNpVecSubRow : OpenClaim := { program := "ytlmphcpmleekbaa", sum := "f6bb0b2b1adbfde2021a607a47f0e86e2f0316438e8b5858d6c4e682fb3f7075", func := "loop.example/pub-g03342/laws.FnNpVecSub", spec := "fnNpVecSub", inPlace := ["math/bits.Sub64", "math/bits.Add64"], apart := false }
def FnNpVecSubSaid : Prop := fnNpVecSubRow.holds Try.pinned (OpenSpec.ofChange fnNpVecSubSpec)

/-- ITS FALSE NEIGHBOUR: 'it returns false'. Refute it at one input. -/
def fnNpVecSubWrong : ChangeSpec := { name := "fnNpVecSub", fn := fun _ => fun
  | [d1, d2] => { results := [.lit (.bool false)], args := [d1, d2] }
  | _ => none }
def FnNpVecSubWrongFalsely : Prop := fnNpVecSubRow.holds Try.pinned (OpenSpec.ofChange fnNpVecSubWrong)

/- THE SECOND FORM. 'bulk': how many values and letters a reading holds, each counted each time it is reached (what is shared counts as often as it is met; a slice's spare places count too). A statement '..UptoSaid' is the law's where the arguments, and the package variables that the reading takes, are together of bulk at most 1048576: NARROWER than '..Said'. Prove '..Said' where nothing that the law and all that it calls make is longer than what came in: it says more and counts as full. Else prove '..UptoSaid'. A law counts once. -/
mutual
def uptoBulk {H : Type} : DataW H → Nat
  | .lit (.string bytes) => bytes.length + 1
  | .lit _ => 1
  | .nil => 1
  | .ptr d => uptoBulk d + 1
  | .slice elems spare => uptoBulkAll elems + uptoBulkAll spare + 1
  | .agg parts => uptoBulkAll parts + 1
  | .iface _ d => uptoBulk d + 1
  | .map entries => uptoBulkEntries entries + 1
  | .held _ => 1
def uptoBulkAll {H : Type} : List (DataW H) → Nat
  | [] => 0
  | d :: r => uptoBulk d + uptoBulkAll r
def uptoBulkEntries {H : Type} : List (Lit × DataW H) → Nat
  | [] => 0
  | x :: r => uptoBulkEntry x + uptoBulkEntries r
def uptoBulkEntry {H : Type} : Lit × DataW H → Nat
  | (.string bytes, d) => bytes.length + uptoBulk d + 1
  | (_, d) => uptoBulk d + 1
 end
def uptoSmall : (H : Type) → List (DataW H) → Bool := fun _ ds => decide (uptoBulkAll ds ≤ 1048576)
def OpenSpec.upto (s : _root_.Go.ChangeSpec) : _root_.Go.OpenSpec := { _root_.Go.OpenSpec.ofChange s with cond := some uptoSmall }

/-- 'laws.FnNpSelect', WHERE WHAT IT READS IS OF BULK AT MOST 1048576: true; the input reads as it did. -/
def fnNpSelectUptoRow : OpenClaim := { program := "ytlmphcpmleekbaa", sum := "f6bb0b2b1adbfde2021a607a47f0e86e2f0316438e8b5858d6c4e682fb3f7075", func := "loop.example/pub-g03342/laws.FnNpSelect", spec := "fnNpSelect", apart := false, narrowed := true }
def FnNpSelectUptoSaid : Prop := fnNpSelectUptoRow.holds Try.pinned (OpenSpec.upto fnNpSelectSpec)

/-- 'laws.FnNpBitLen', WHERE WHAT IT READS IS OF BULK AT MOST 1048576: true; the input reads as it did. -/
def fnNpBitLenUptoRow : OpenClaim := { program := "ytlmphcpmleekbaa", sum := "f6bb0b2b1adbfde2021a607a47f0e86e2f0316438e8b5858d6c4e682fb3f7075", func := "loop.example/pub-g03342/laws.FnNpBitLen", spec := "fnNpBitLen", apart := false, narrowed := true }
def FnNpBitLenUptoSaid : Prop := fnNpBitLenUptoRow.holds Try.pinned (OpenSpec.upto fnNpBitLenSpec)

/-- 'laws.FnNpHalve', WHERE WHAT IT READS IS OF BULK AT MOST 1048576: true; the input reads as it did. -/
def fnNpHalveUptoRow : OpenClaim := { program := "ytlmphcpmleekbaa", sum := "f6bb0b2b1adbfde2021a607a47f0e86e2f0316438e8b5858d6c4e682fb3f7075", func := "loop.example/pub-g03342/laws.FnNpHalve", spec := "fnNpHalve", inPlace := ["math/bits.Add64"], apart := false, narrowed := true }
def FnNpHalveUptoSaid : Prop := fnNpHalveUptoRow.holds Try.pinned (OpenSpec.upto fnNpHalveSpec)

/-- 'laws.FnNpAdd', WHERE WHAT IT READS IS OF BULK AT MOST 1048576: true; the input reads as it did. -/
def fnNpAddUptoRow : OpenClaim := { program := "ytlmphcpmleekbaa", sum := "f6bb0b2b1adbfde2021a607a47f0e86e2f0316438e8b5858d6c4e682fb3f7075", func := "loop.example/pub-g03342/laws.FnNpAdd", spec := "fnNpAdd", inPlace := ["math/bits.Add64", "math/bits.Sub64"], apart := false, narrowed := true }
def FnNpAddUptoSaid : Prop := fnNpAddUptoRow.holds Try.pinned (OpenSpec.upto fnNpAddSpec)

/-- 'laws.FnNpAddGroup', WHERE WHAT IT READS IS OF BULK AT MOST 1048576: true; the input reads as it did. -/
def fnNpAddGroupUptoRow : OpenClaim := { program := "ytlmphcpmleekbaa", sum := "f6bb0b2b1adbfde2021a607a47f0e86e2f0316438e8b5858d6c4e682fb3f7075", func := "loop.example/pub-g03342/laws.FnNpAddGroup", spec := "fnNpAddGroup", inPlace := ["math/bits.Add64", "math/bits.Sub64"], apart := false, narrowed := true }
def FnNpAddGroupUptoSaid : Prop := fnNpAddGroupUptoRow.holds Try.pinned (OpenSpec.upto fnNpAddGroupSpec)

/-- 'laws.FnNpDoubleHalve', WHERE WHAT IT READS IS OF BULK AT MOST 1048576: true; the input reads as it did. -/
def fnNpDoubleHalveUptoRow : OpenClaim := { program := "ytlmphcpmleekbaa", sum := "f6bb0b2b1adbfde2021a607a47f0e86e2f0316438e8b5858d6c4e682fb3f7075", func := "loop.example/pub-g03342/laws.FnNpDoubleHalve", spec := "fnNpDoubleHalve", inPlace := ["math/bits.Add64", "math/bits.Sub64"], apart := false, narrowed := true }
def FnNpDoubleHalveUptoSaid : Prop := fnNpDoubleHalveUptoRow.holds Try.pinned (OpenSpec.upto fnNpDoubleHalveSpec)

/-- 'laws.FnNpVecSum', WHERE WHAT IT READS IS OF BULK AT MOST 1048576: true; the input reads as it did. -/
def fnNpVecSumUptoRow : OpenClaim := { program := "ytlmphcpmleekbaa", sum := "f6bb0b2b1adbfde2021a607a47f0e86e2f0316438e8b5858d6c4e682fb3f7075", func := "loop.example/pub-g03342/laws.FnNpVecSum", spec := "fnNpVecSum", inPlace := ["math/bits.Add64", "math/bits.Sub64"], apart := false, narrowed := true }
def FnNpVecSumUptoSaid : Prop := fnNpVecSumUptoRow.holds Try.pinned (OpenSpec.upto fnNpVecSumSpec)

/-- 'laws.FnNpVecSub', WHERE WHAT IT READS IS OF BULK AT MOST 1048576: true; the input reads as it did. -/
def fnNpVecSubUptoRow : OpenClaim := { program := "ytlmphcpmleekbaa", sum := "f6bb0b2b1adbfde2021a607a47f0e86e2f0316438e8b5858d6c4e682fb3f7075", func := "loop.example/pub-g03342/laws.FnNpVecSub", spec := "fnNpVecSub", inPlace := ["math/bits.Sub64", "math/bits.Add64"], apart := false, narrowed := true }
def FnNpVecSubUptoSaid : Prop := fnNpVecSubUptoRow.holds Try.pinned (OpenSpec.upto fnNpVecSubSpec)

end Rows
end Go.Proofs.Ytlmphcpmleekbaa
