/-
  No cell of these rows narrows 'for every input' (looked for: loops, veiled, ifaces, maps, wideKeys, modest, calm, conditions, laid).
  DERIVED. THE GIVEN ROWS OF THIS SEAT. 2 by the template 'for every input the law returns true; each argument reads behind the call as it read before'; 0 by the template 'total and deterministic' (their statements: YtgcdhkbhobnojaaTotals.lean).
  GIVEN WITH THE SEED: the statements are not yours to turn. If you find one false, say at which input.
  Laid BY PROGRAM, IN A SANDBOX (cutbox-rows.mjs): the forced cells as the released guide's own fill.sh prints them over the translation be10030bdf25e685… (all of the seat's roots in one cut). By AI agents, Wed Nov 11 2026. No macro, syntax, notation, axiom, sorry.
-/
import Derived.Test.YtgcdhkbhobnojaaChecked
import GoSem.Claim
import GoSem.ClaimJoined
import GoSem.ClaimMapViews
import Derived.JoinedTies
import Derived.KernelRfl
namespace Go.Proofs.Ytgcdhkbhobnojaa
/- THE CELL 'sum', in the pinned program and in every row, IS THE sha256 OF THE DUMP (.gsa) THAT YtgcdhkbhobnojaaProg.lean LOADS. Nothing in Lean hashes anything: it is a label: what it is worth is what the hold of that sum in a sandbox is worth. -/
noncomputable def Try.pinned : Pinned := { name := "ytgcdhkbhobnojaa", sum := "be10030bdf25e68568de5edb5d87da8ebec36dbab3b801fe4dafd7b75fa0bb49", checked := Try.checked }
namespace Rows
def none {H : Type} : Left H := { results := [], args := [] }

/-- 'laws.FnNrLargest': WHATEVER THE INPUT: true; the input reads as it did. -/
def fnNrLargestSpec : ChangeSpec := { name := "fnNrLargest", fn := fun _ => fun
  | [d] => { results := [.lit (.bool true)], args := [d] }
  | _ => none }
def fnNrLargestRow : OpenClaim := { program := "ytgcdhkbhobnojaa", sum := "be10030bdf25e68568de5edb5d87da8ebec36dbab3b801fe4dafd7b75fa0bb49", func := "loop.example/pub-g03342/laws.FnNrLargest", spec := "fnNrLargest", inPlace := ["math/bits.Add64", "math/bits.Sub64"], apart := false }
def FnNrLargestSaid : Prop := fnNrLargestRow.holds Try.pinned (OpenSpec.ofChange fnNrLargestSpec)

/-- ITS FALSE NEIGHBOUR: 'it returns false'. Refute it at one input. -/
def fnNrLargestWrong : ChangeSpec := { name := "fnNrLargest", fn := fun _ => fun
  | [d] => { results := [.lit (.bool false)], args := [d] }
  | _ => none }
def FnNrLargestWrongFalsely : Prop := fnNrLargestRow.holds Try.pinned (OpenSpec.ofChange fnNrLargestWrong)

/-- 'laws.FnNrLegendre': WHATEVER THE INPUT: true; the input reads as it did. -/
def fnNrLegendreSpec : ChangeSpec := { name := "fnNrLegendre", fn := fun _ => fun
  | [d] => { results := [.lit (.bool true)], args := [d] }
  | _ => none }
def fnNrLegendreRow : OpenClaim := { program := "ytgcdhkbhobnojaa", sum := "be10030bdf25e68568de5edb5d87da8ebec36dbab3b801fe4dafd7b75fa0bb49", func := "loop.example/pub-g03342/laws.FnNrLegendre", spec := "fnNrLegendre", inPlace := ["math/bits.Sub64", "math/bits.Add64"], apart := false }
def FnNrLegendreSaid : Prop := fnNrLegendreRow.holds Try.pinned (OpenSpec.ofChange fnNrLegendreSpec)

/-- ITS FALSE NEIGHBOUR: 'it returns false'. Refute it at one input. -/
def fnNrLegendreWrong : ChangeSpec := { name := "fnNrLegendre", fn := fun _ => fun
  | [d] => { results := [.lit (.bool false)], args := [d] }
  | _ => none }
def FnNrLegendreWrongFalsely : Prop := fnNrLegendreRow.holds Try.pinned (OpenSpec.ofChange fnNrLegendreWrong)

/- THE SECOND FORM. 'bulk': how many values and letters a reading holds, each counted each time it is reached (what is shared counts as often as it is met; a slice's spare places count too). A statement '..UptoSaid' is the law's where the arguments, and the package variables that the reading takes, are together of bulk at most 1048576: NARROWER than '..Said'. Prove '..Said' where nothing that the law and all that it calls make is longer than what came in: it says more and counts as full. Else prove '..UptoSaid'. A law counts once. -/
mutual
def uptoBulk {H : Type} : DataW H → Nat
  | .lit (.string bytes) => bytes.length + 1
  | .lit _ => 1
  | .nil => 1
  | .ptr d => uptoBulk d + 1
  | .slice elems spare => uptoBulkAll elems + uptoBulkAll spare + 1
  | .agg parts => uptoBulkAll parts + 1
  | .iface _ d => uptoBulk d + 1
  | .map entries => uptoBulkEntries entries + 1
  | .held _ => 1
def uptoBulkAll {H : Type} : List (DataW H) → Nat
  | [] => 0
  | d :: r => uptoBulk d + uptoBulkAll r
def uptoBulkEntries {H : Type} : List (Lit × DataW H) → Nat
  | [] => 0
  | x :: r => uptoBulkEntry x + uptoBulkEntries r
def uptoBulkEntry {H : Type} : Lit × DataW H → Nat
  | (.string bytes, d) => bytes.length + uptoBulk d + 1
  | (_, d) => uptoBulk d + 1
 end
def uptoSmall : (H : Type) → List (DataW H) → Bool := fun _ ds => decide (uptoBulkAll ds ≤ 1048576)
def OpenSpec.upto (s : _root_.Go.ChangeSpec) : _root_.Go.OpenSpec := { _root_.Go.OpenSpec.ofChange s with cond := some uptoSmall }

/-- 'laws.FnNrLargest', WHERE WHAT IT READS IS OF BULK AT MOST 1048576: true; the input reads as it did. -/
def fnNrLargestUptoRow : OpenClaim := { program := "ytgcdhkbhobnojaa", sum := "be10030bdf25e68568de5edb5d87da8ebec36dbab3b801fe4dafd7b75fa0bb49", func := "loop.example/pub-g03342/laws.FnNrLargest", spec := "fnNrLargest", inPlace := ["math/bits.Add64", "math/bits.Sub64"], apart := false, narrowed := true }
def FnNrLargestUptoSaid : Prop := fnNrLargestUptoRow.holds Try.pinned (OpenSpec.upto fnNrLargestSpec)

/-- 'laws.FnNrLegendre', WHERE WHAT IT READS IS OF BULK AT MOST 1048576: true; the input reads as it did. -/
def fnNrLegendreUptoRow : OpenClaim := { program := "ytgcdhkbhobnojaa", sum := "be10030bdf25e68568de5edb5d87da8ebec36dbab3b801fe4dafd7b75fa0bb49", func := "loop.example/pub-g03342/laws.FnNrLegendre", spec := "fnNrLegendre", inPlace := ["math/bits.Sub64", "math/bits.Add64"], apart := false, narrowed := true }
def FnNrLegendreUptoSaid : Prop := fnNrLegendreUptoRow.holds Try.pinned (OpenSpec.upto fnNrLegendreSpec)

end Rows
end Go.Proofs.Ytgcdhkbhobnojaa
