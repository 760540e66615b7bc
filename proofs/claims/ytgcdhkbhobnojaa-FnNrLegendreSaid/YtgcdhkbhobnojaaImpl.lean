/- Contracts of the thin package's functions on elements. -/
import Derived.Test.YtgcdhkbhobnojaaElem
import Derived.Test.YtgcdhkbhobnojaaHalf
import Derived.Test.YtgcdhkbhobnojaaSpec
namespace Go.Proofs.Ytgcdhkbhobnojaa
open Go.RowKit Num

/-- A value of the words of A. -/
def el (A : Nat) : Value := .agg #[.int .u64 (wd A 0 : Nat), .int .u64 (wd A 1 : Nat), .int .u64 (wd A 2 : Nat), .int .u64 (wd A 3 : Nat)]
/-- A new block of the words of A. -/
theorem own_new (w : World) (A : Nat) (t : TypeId) : Own (w.alloc (.cells #[.int .u64 (wd A 0 : Nat), .int .u64 (wd A 1 : Nat), .int .u64 (wd A 2 : Nat), .int .u64 (wd A 3 : Nat)] t)) w.heap.size 4 A := by
  refine ⟨fun j hj => ⟨?_, World.frozen?_alloc_new _ _ _ _⟩, by simp⟩
  rw [World.cell?_alloc_new]
  match j, hj with
  | 0, _ => rfl
  | 1, _ => rfl
  | 2, _ => rfl
  | 3, _ => rfl
/-- A block whose words have been stored. -/
theorem own_stored (w : World) (b A : Nat) (z0 z1 z2 z3 : Value) (hz0 : w.cell? ⟨b, 0, none⟩ = some z0) (hz1 : w.cell? ⟨b, 1, none⟩ = some z1) (hz2 : w.cell? ⟨b, 2, none⟩ = some z2) (hz3 : w.cell? ⟨b, 3, none⟩ = some z3) (fz0 : w.frozen? ⟨b, 0, none⟩ = false) (fz1 : w.frozen? ⟨b, 1, none⟩ = false) (fz2 : w.frozen? ⟨b, 2, none⟩ = false) (fz3 : w.frozen? ⟨b, 3, none⟩ = false) (hb : b < w.heap.size) : Own ((((w.setCell ⟨b, 0, none⟩ (.int .u64 (wd A 0 : Nat))).setCell ⟨b, 1, none⟩ (.int .u64 (wd A 1 : Nat))).setCell ⟨b, 2, none⟩ (.int .u64 (wd A 2 : Nat))).setCell ⟨b, 3, none⟩ (.int .u64 (wd A 3 : Nat))) b 4 A := by
  refine ⟨fun j hj => ?_, by simp only [World.size_setCell]; exact hb⟩
  simp only [World.frozen?_setCell]
  match j, hj with
  | 0, _ => exact ⟨keep (keep (keep (hit (hz0)) (by omega)) (by omega)) (by omega), fz0⟩
  | 1, _ => exact ⟨keep (keep (hit (keep (hz1) (by omega))) (by omega)) (by omega), fz1⟩
  | 2, _ => exact ⟨keep (hit (keep (keep (hz2) (by omega)) (by omega))) (by omega), fz2⟩
  | 3, _ => exact ⟨hit (keep (keep (keep (hz3) (by omega)) (by omega)) (by omega)), fz3⟩
theorem wdP0 : (4891460686036598785 : Int) = (wd 21888242871839275222246405745257275088548364400416034343698204186575808495617 0 : Nat) := by decide +kernel
theorem wdP1 : (2896914383306846353 : Int) = (wd 21888242871839275222246405745257275088548364400416034343698204186575808495617 1 : Nat) := by decide +kernel
theorem wdP2 : (13281191951274694749 : Int) = (wd 21888242871839275222246405745257275088548364400416034343698204186575808495617 2 : Nat) := by decide +kernel
theorem wdP3 : (3486998266802970665 : Int) = (wd 21888242871839275222246405745257275088548364400416034343698204186575808495617 3 : Nat) := by decide +kernel
theorem prime_any (w : World) : Calls Try.prog 6 #[] w (Gives w 4 21888242871839275222246405745257275088548364400416034343698204186575808495617 (fun v => v)) := by
  go_enter Try.func6, Try.ntmps6
  go_wp2
  go_ret
  refine ⟨w.heap.size, rfl, Nat.le_refl _, ?_, (Below.refl _ _).alloc (Nat.le_refl _) _⟩
  rw [wdP0, wdP1, wdP2, wdP3]
  exact own_new w _ _
end Go.Proofs.Ytgcdhkbhobnojaa
