/- Contracts of the thin package's functions on elements. -/
import Derived.Test.YtfdmgelaiigocaaElem
import Derived.Test.YtfdmgelaiigocaaHalf
import Derived.Test.YtfdmgelaiigocaaSpec
namespace Go.Proofs.Ytfdmgelaiigocaa
open Go.RowKit Num

/-- A value of the words of A. -/
def el (A : Nat) : Value := .agg #[.int .u64 (wd A 0 : Nat), .int .u64 (wd A 1 : Nat), .int .u64 (wd A 2 : Nat), .int .u64 (wd A 3 : Nat), .int .u64 (wd A 4 : Nat), .int .u64 (wd A 5 : Nat)]
/-- A new block of the words of A. -/
theorem own_new (w : World) (A : Nat) (t : TypeId) : Own (w.alloc (.cells #[.int .u64 (wd A 0 : Nat), .int .u64 (wd A 1 : Nat), .int .u64 (wd A 2 : Nat), .int .u64 (wd A 3 : Nat), .int .u64 (wd A 4 : Nat), .int .u64 (wd A 5 : Nat)] t)) w.heap.size 6 A := by
  refine ⟨fun j hj => ⟨?_, World.frozen?_alloc_new _ _ _ _⟩, by simp⟩
  rw [World.cell?_alloc_new]
  match j, hj with
  | 0, _ => rfl
  | 1, _ => rfl
  | 2, _ => rfl
  | 3, _ => rfl
  | 4, _ => rfl
  | 5, _ => rfl
/-- A block whose words have been stored. -/
theorem own_stored (w : World) (b A : Nat) (z0 z1 z2 z3 z4 z5 : Value) (hz0 : w.cell? ⟨b, 0, none⟩ = some z0) (hz1 : w.cell? ⟨b, 1, none⟩ = some z1) (hz2 : w.cell? ⟨b, 2, none⟩ = some z2) (hz3 : w.cell? ⟨b, 3, none⟩ = some z3) (hz4 : w.cell? ⟨b, 4, none⟩ = some z4) (hz5 : w.cell? ⟨b, 5, none⟩ = some z5) (fz0 : w.frozen? ⟨b, 0, none⟩ = false) (fz1 : w.frozen? ⟨b, 1, none⟩ = false) (fz2 : w.frozen? ⟨b, 2, none⟩ = false) (fz3 : w.frozen? ⟨b, 3, none⟩ = false) (fz4 : w.frozen? ⟨b, 4, none⟩ = false) (fz5 : w.frozen? ⟨b, 5, none⟩ = false) (hb : b < w.heap.size) : Own ((((((w.setCell ⟨b, 0, none⟩ (.int .u64 (wd A 0 : Nat))).setCell ⟨b, 1, none⟩ (.int .u64 (wd A 1 : Nat))).setCell ⟨b, 2, none⟩ (.int .u64 (wd A 2 : Nat))).setCell ⟨b, 3, none⟩ (.int .u64 (wd A 3 : Nat))).setCell ⟨b, 4, none⟩ (.int .u64 (wd A 4 : Nat))).setCell ⟨b, 5, none⟩ (.int .u64 (wd A 5 : Nat))) b 6 A := by
  refine ⟨fun j hj => ?_, by simp only [World.size_setCell]; exact hb⟩
  simp only [World.frozen?_setCell]
  match j, hj with
  | 0, _ => exact ⟨keep (keep (keep (keep (keep (hit (hz0)) (by omega)) (by omega)) (by omega)) (by omega)) (by omega), fz0⟩
  | 1, _ => exact ⟨keep (keep (keep (keep (hit (keep (hz1) (by omega))) (by omega)) (by omega)) (by omega)) (by omega), fz1⟩
  | 2, _ => exact ⟨keep (keep (keep (hit (keep (keep (hz2) (by omega)) (by omega))) (by omega)) (by omega)) (by omega), fz2⟩
  | 3, _ => exact ⟨keep (keep (hit (keep (keep (keep (hz3) (by omega)) (by omega)) (by omega))) (by omega)) (by omega), fz3⟩
  | 4, _ => exact ⟨keep (hit (keep (keep (keep (keep (hz4) (by omega)) (by omega)) (by omega)) (by omega))) (by omega), fz4⟩
  | 5, _ => exact ⟨hit (keep (keep (keep (keep (keep (hz5) (by omega)) (by omega)) (by omega)) (by omega)) (by omega)), fz5⟩
theorem wdP0 : (13402431016077863595 : Int) = (wd 4002409555221667393417789825735904156556882819939007885332058136124031650490837864442687629129015664037894272559787 0 : Nat) := by decide +kernel
theorem wdP1 : (2210141511517208575 : Int) = (wd 4002409555221667393417789825735904156556882819939007885332058136124031650490837864442687629129015664037894272559787 1 : Nat) := by decide +kernel
theorem wdP2 : (7435674573564081700 : Int) = (wd 4002409555221667393417789825735904156556882819939007885332058136124031650490837864442687629129015664037894272559787 2 : Nat) := by decide +kernel
theorem wdP3 : (7239337960414712511 : Int) = (wd 4002409555221667393417789825735904156556882819939007885332058136124031650490837864442687629129015664037894272559787 3 : Nat) := by decide +kernel
theorem wdP4 : (5412103778470702295 : Int) = (wd 4002409555221667393417789825735904156556882819939007885332058136124031650490837864442687629129015664037894272559787 4 : Nat) := by decide +kernel
theorem wdP5 : (1873798617647539866 : Int) = (wd 4002409555221667393417789825735904156556882819939007885332058136124031650490837864442687629129015664037894272559787 5 : Nat) := by decide +kernel
theorem prime_any (w : World) : Calls Try.prog 6 #[] w (Gives w 6 4002409555221667393417789825735904156556882819939007885332058136124031650490837864442687629129015664037894272559787 (fun v => v)) := by
  go_enter Try.func6, Try.ntmps6
  go_wp2
  go_ret
  refine ⟨w.heap.size, rfl, Nat.le_refl _, ?_, (Below.refl _ _).alloc (Nat.le_refl _) _⟩
  rw [wdP0, wdP1, wdP2, wdP3, wdP4, wdP5]
  exact own_new w _ _
end Go.Proofs.Ytfdmgelaiigocaa
