/- Contracts of the thin package's functions. -/
import Derived.Test.YtlmphcpmleekbaaElem
import Derived.Test.YtlmphcpmleekbaaSpec
import Derived.Deep.RegionHeld3
namespace Go.Proofs.Ytlmphcpmleekbaa
open Go.RowKit Num

/-- A new block of the words of A. -/
theorem own_new (w : World) (A : Nat) (t : TypeId) : Own (w.alloc (.cells #[.int .u64 (wd A 0 : Nat), .int .u64 (wd A 1 : Nat), .int .u64 (wd A 2 : Nat), .int .u64 (wd A 3 : Nat)] t)) w.heap.size 4 A := by
  refine ⟨fun j hj => ⟨?_, World.frozen?_alloc_new _ _ _ _⟩, by simp⟩
  rw [World.cell?_alloc_new]
  match j, hj with
  | 0, _ => rfl
  | 1, _ => rfl
  | 2, _ => rfl
  | 3, _ => rfl
theorem wdP0 : (4332616871279656263 : Int) = (wd 21888242871839275222246405745257275088696311157297823662689037894645226208583 0 : Nat) := by decide +kernel
theorem wdP1 : (10917124144477883021 : Int) = (wd 21888242871839275222246405745257275088696311157297823662689037894645226208583 1 : Nat) := by decide +kernel
theorem wdP2 : (13281191951274694749 : Int) = (wd 21888242871839275222246405745257275088696311157297823662689037894645226208583 2 : Nat) := by decide +kernel
theorem wdP3 : (3486998266802970665 : Int) = (wd 21888242871839275222246405745257275088696311157297823662689037894645226208583 3 : Nat) := by decide +kernel
theorem prime_any (w : World) : Calls Try.prog 12 #[] w (Gives w 4 21888242871839275222246405745257275088696311157297823662689037894645226208583 (fun v => v)) := by
  go_enter Try.func12, Try.ntmps12
  go_wp2
  go_ret
  refine ⟨w.heap.size, rfl, Nat.le_refl _, ?_, (Below.refl _ _).alloc (Nat.le_refl _) _⟩
  rw [wdP0, wdP1, wdP2, wdP3]
  exact own_new w _ _
theorem num_wd {A : Nat} (h : A < 115792089237316195423570985008687907853269984665640564039457584007913129639936) : num (wd A 0 : Nat) (wd A 1 : Nat) (wd A 2 : Nat) (wd A 3 : Nat) = (A : Int) := by
  unfold num wd; omega
theorem wd_num {x0 x1 x2 x3 : Int} {A : Nat} (g0 : Wd x0) (g1 : Wd x1) (g2 : Wd x2) (g3 : Wd x3) (h : num x0 x1 x2 x3 = (A : Int)) : x0 = (wd A 0 : Nat) ∧ x1 = (wd A 1 : Nat) ∧ x2 = (wd A 2 : Nat) ∧ x3 = (wd A 3 : Nat) := by
  unfold Wd at *; unfold num at h; unfold wd; omega
theorem eadd (bz oz bx ox b_y o_y X Y : Nat) (z0 z1 z2 z3 : Int) (w : World) (hzx : bz ≠ bx ∨ oz = ox ∨ oz + 4 ≤ ox ∨ ox + 4 ≤ oz) (hzy : bz ≠ b_y ∨ oz = o_y ∨ oz + 4 ≤ o_y ∨ o_y + 4 ≤ oz) (hX : X < 21888242871839275222246405745257275088696311157297823662689037894645226208583) (hY : Y < 21888242871839275222246405745257275088696311157297823662689037894645226208583)
    (hx0 : w.cell? ⟨bx, ox, none⟩ = some (.int .u64 (wd X 0 : Nat))) (hx1 : w.cell? ⟨bx, ox + 1, none⟩ = some (.int .u64 (wd X 1 : Nat))) (hx2 : w.cell? ⟨bx, ox + 2, none⟩ = some (.int .u64 (wd X 2 : Nat))) (hx3 : w.cell? ⟨bx, ox + 3, none⟩ = some (.int .u64 (wd X 3 : Nat)))
    (hy0 : w.cell? ⟨b_y, o_y, none⟩ = some (.int .u64 (wd Y 0 : Nat))) (hy1 : w.cell? ⟨b_y, o_y + 1, none⟩ = some (.int .u64 (wd Y 1 : Nat))) (hy2 : w.cell? ⟨b_y, o_y + 2, none⟩ = some (.int .u64 (wd Y 2 : Nat))) (hy3 : w.cell? ⟨b_y, o_y + 3, none⟩ = some (.int .u64 (wd Y 3 : Nat)))
    (hz0 : w.cell? ⟨bz, oz, none⟩ = some (.int .u64 z0)) (hz1 : w.cell? ⟨bz, oz + 1, none⟩ = some (.int .u64 z1)) (hz2 : w.cell? ⟨bz, oz + 2, none⟩ = some (.int .u64 z2)) (hz3 : w.cell? ⟨bz, oz + 3, none⟩ = some (.int .u64 z3))
    (fz0 : w.frozen? ⟨bz, oz, none⟩ = false) (fz1 : w.frozen? ⟨bz, oz + 1, none⟩ = false) (fz2 : w.frozen? ⟨bz, oz + 2, none⟩ = false) (fz3 : w.frozen? ⟨bz, oz + 3, none⟩ = false) :
    Calls Try.prog 31 #[.pointer (some ⟨bz, oz, none⟩), .pointer (some ⟨bx, ox, none⟩), .pointer (some ⟨b_y, o_y, none⟩)] w fun e w' => e = .returned (.pointer (some ⟨bz, oz, none⟩)) ∧
      ∃ m, w' = ((((w.setCell ⟨bz, oz, none⟩ (.int .u64 (wd ((X + Y) % 21888242871839275222246405745257275088696311157297823662689037894645226208583) 0 : Nat))).setCell ⟨bz, oz + 1, none⟩ (.int .u64 (wd ((X + Y) % 21888242871839275222246405745257275088696311157297823662689037894645226208583) 1 : Nat))).setCell ⟨bz, oz + 2, none⟩ (.int .u64 (wd ((X + Y) % 21888242871839275222246405745257275088696311157297823662689037894645226208583) 2 : Nat))).setCell ⟨bz, oz + 3, none⟩ (.int .u64 (wd ((X + Y) % 21888242871839275222246405745257275088696311157297823662689037894645226208583) 3 : Nat))).drewN m := by
  have nX : num (wd X 0 : Nat) (wd X 1 : Nat) (wd X 2 : Nat) (wd X 3 : Nat) = (X : Int) := num_wd (by omega)
  have nY : num (wd Y 0 : Nat) (wd Y 1 : Nat) (wd Y 2 : Nat) (wd Y 3 : Nat) = (Y : Int) := num_wd (by omega)
  refine (eadd_t bz oz bx ox b_y o_y z0 z1 z2 z3 _ _ _ _ _ _ _ _ w hzx hzy (by rw [nX]; omega) (by rw [nY]; omega) (wd_nat _ _) (wd_nat _ _) (wd_nat _ _) (wd_nat _ _) (wd_nat _ _) (wd_nat _ _) (wd_nat _ _) (wd_nat _ _) hx0 hx1 hx2 hx3 hy0 hy1 hy2 hy3 hz0 hz1 hz2 hz3 fz0 fz1 fz2 fz3).mono ?_
  rintro e w' ⟨he, d0, d1, d2, d3, ⟨g0, g1, g2, g3⟩, hn, m, hw⟩
  obtain ⟨r0, r1, r2, r3⟩ := wd_num (A := (X + Y) % 21888242871839275222246405745257275088696311157297823662689037894645226208583) g0 g1 g2 g3 (by rw [hn, nX, nY]; omega)
  subst d0 d1 d2 d3
  exact ⟨he, m, hw⟩
/-- A value of the words of A. -/
def el (A : Nat) : Value := .agg #[.int .u64 (wd A 0 : Nat), .int .u64 (wd A 1 : Nat), .int .u64 (wd A 2 : Nat), .int .u64 (wd A 3 : Nat)]
set_option maxHeartbeats 400000 in
theorem impl_add (X Y : Nat) (hX : X < 21888242871839275222246405745257275088696311157297823662689037894645226208583) (hY : Y < 21888242871839275222246405745257275088696311157297823662689037894645226208583) (w : World) : Calls Try.prog 19 #[.agg #[.int .u64 (wd (X) 0 : Nat), .int .u64 (wd (X) 1 : Nat), .int .u64 (wd (X) 2 : Nat), .int .u64 (wd (X) 3 : Nat)], .agg #[.int .u64 (wd (Y) 0 : Nat), .int .u64 (wd (Y) 1 : Nat), .int .u64 (wd (Y) 2 : Nat), .int .u64 (wd (Y) 3 : Nat)]] w (Keeps w (.agg #[.int .u64 (wd ((X + Y) % 21888242871839275222246405745257275088696311157297823662689037894645226208583) 0 : Nat), .int .u64 (wd ((X + Y) % 21888242871839275222246405745257275088696311157297823662689037894645226208583) 1 : Nat), .int .u64 (wd ((X + Y) % 21888242871839275222246405745257275088696311157297823662689037894645226208583) 2 : Nat), .int .u64 (wd ((X + Y) % 21888242871839275222246405745257275088696311157297823662689037894645226208583) 3 : Nat)])) := by
  have HX := Lib.hid hX; have HY := Lib.hid hY; clear hX hY
  go_enter Try.func19, Try.ntmps19
  go_wp2_with fail
  go_region
  all_goals
    go_wp2_with fail
    refine (eadd _ _ _ _ _ _ X Y 0 0 0 0 _ (by omega) (by omega) HX.out HY.out (by simp [go_sem]) (by simp [go_sem]) (by simp [go_sem]) (by simp [go_sem]) (by simp [go_sem]) (by simp [go_sem]) (by simp [go_sem]) (by simp [go_sem]) (by simp [go_sem]) (by simp [go_sem]) (by simp [go_sem]) (by simp [go_sem]) (by simp [go_sem]) (by simp [go_sem]) (by simp [go_sem]) (by simp [go_sem])).mono ?_
    rintro e w' ⟨rfl, m, rfl⟩
    go_wp2_with fail
    refine bodyPost_ret (v := .agg #[.int .u64 (wd ((X + Y) % 21888242871839275222246405745257275088696311157297823662689037894645226208583) 0 : Nat), .int .u64 (wd ((X + Y) % 21888242871839275222246405745257275088696311157297823662689037894645226208583) 1 : Nat), .int .u64 (wd ((X + Y) % 21888242871839275222246405745257275088696311157297823662689037894645226208583) 2 : Nat), .int .u64 (wd ((X + Y) % 21888242871839275222246405745257275088696311157297823662689037894645226208583) 3 : Nat)]) ?_ rfl ?_
    · simp [results, Try.results19, go_sem]
    · refine And.intro rfl ?_
      repeat (first | with_reducible exact Below.refl _ _ | with_reducible refine below_drawn ?_ _ | with_reducible refine Below.drew ?_ | with_reducible refine Below.setCell ?_ (by simp <;> omega) _ | with_reducible refine Below.alloc ?_ (by simp <;> omega) _)
end Go.Proofs.Ytlmphcpmleekbaa
