/- What the symbol's loop keeps, in memory and in numbers. -/
import Derived.Test.YtfdmgelaiigocaaComb
import Derived.Test.YtfdmgelaiigocaaApx
import Derived.Test.YtfdmgelaiigocaaZer
import Derived.Test.YtfdmgelaiigocaaDec
import Derived.Test.YtfdmgelaiigocaaGcd
import Derived.Deep.LoopGhost
import Derived.Deep.DeepCutAuto
namespace Go.Proofs.Ytfdmgelaiigocaa
open Go.RowKit Num

/-- Cells of a block, one by one. -/
theorem own_cells {w : World} {b A : Nat} (h : Own w b 6 A) : w.cell? ⟨b, 0, none⟩ = some (.int .u64 (wd A 0 : Nat)) ∧ w.cell? ⟨b, 1, none⟩ = some (.int .u64 (wd A 1 : Nat)) ∧ w.cell? ⟨b, 2, none⟩ = some (.int .u64 (wd A 2 : Nat)) ∧ w.cell? ⟨b, 3, none⟩ = some (.int .u64 (wd A 3 : Nat)) ∧ w.cell? ⟨b, 4, none⟩ = some (.int .u64 (wd A 4 : Nat)) ∧ w.cell? ⟨b, 5, none⟩ = some (.int .u64 (wd A 5 : Nat)) := ⟨(h.1 0 (by decide)).1, (h.1 1 (by decide)).1, (h.1 2 (by decide)).1, (h.1 3 (by decide)).1, (h.1 4 (by decide)).1, (h.1 5 (by decide)).1⟩
theorem own_frozen {w : World} {b A : Nat} (h : Own w b 6 A) : w.frozen? ⟨b, 0, none⟩ = false ∧ w.frozen? ⟨b, 1, none⟩ = false ∧ w.frozen? ⟨b, 2, none⟩ = false ∧ w.frozen? ⟨b, 3, none⟩ = false ∧ w.frozen? ⟨b, 4, none⟩ = false ∧ w.frozen? ⟨b, 5, none⟩ = false := ⟨(h.1 0 (by decide)).2, (h.1 1 (by decide)).2, (h.1 2 (by decide)).2, (h.1 3 (by decide)).2, (h.1 4 (by decide)).2, (h.1 5 (by decide)).2⟩
theorem own_of {w : World} {b A : Nat} (h : w.cell? ⟨b, 0, none⟩ = some (.int .u64 (wd A 0 : Nat)) ∧ w.cell? ⟨b, 1, none⟩ = some (.int .u64 (wd A 1 : Nat)) ∧ w.cell? ⟨b, 2, none⟩ = some (.int .u64 (wd A 2 : Nat)) ∧ w.cell? ⟨b, 3, none⟩ = some (.int .u64 (wd A 3 : Nat)) ∧ w.cell? ⟨b, 4, none⟩ = some (.int .u64 (wd A 4 : Nat)) ∧ w.cell? ⟨b, 5, none⟩ = some (.int .u64 (wd A 5 : Nat))) (f : w.frozen? ⟨b, 0, none⟩ = false ∧ w.frozen? ⟨b, 1, none⟩ = false ∧ w.frozen? ⟨b, 2, none⟩ = false ∧ w.frozen? ⟨b, 3, none⟩ = false ∧ w.frozen? ⟨b, 4, none⟩ = false ∧ w.frozen? ⟨b, 5, none⟩ = false) (hb : b < w.heap.size) : Own w b 6 A := by
  refine ⟨fun j hj => ?_, hb⟩
  obtain ⟨h0, h1, h2, h3, h4, h5⟩ := h
  obtain ⟨f0, f1, f2, f3, f4, f5⟩ := f
  match j, hj with
  | 0, _ => exact ⟨h0, f0⟩
  | 1, _ => exact ⟨h1, f1⟩
  | 2, _ => exact ⟨h2, f2⟩
  | 3, _ => exact ⟨h3, f3⟩
  | 4, _ => exact ⟨h4, f4⟩
  | 5, _ => exact ⟨h5, f5⟩
/-- The approximation of a number of n bits. -/
theorem approx (b X n : Nat) (w : World) (hn : n ≤ 384) (hX : X < 2 ^ n) (h : Own w b 6 X) : Calls Try.prog 23 #[.pointer (some ⟨b, 0, none⟩), .int .i64 n] w fun e w' => e = .returned (.int .u64 (apx X n : Nat)) ∧ w = w' := by
  obtain ⟨h0, h1, h2, h3, h4, h5⟩ := own_cells h
  by_cases c0 : n ≤ 64
  · exact approx_small b 0 X n w c0 h0
  by_cases c1 : n ≤ 128
  · exact approx_1 b 0 X n w (by omega) c1 hX h0 h1
  by_cases c2 : n ≤ 192
  · exact approx_2 b 0 X n w (by omega) c2 hX h0 h1 h2
  by_cases c3 : n ≤ 256
  · exact approx_3 b 0 X n w (by omega) c3 hX h0 h2 h3
  by_cases c4 : n ≤ 320
  · exact approx_4 b 0 X n w (by omega) c4 hX h0 h3 h4
  exact approx_5 b 0 X n w (by omega) hn hX h0 h4 h5
/-- What the loop keeps: a and b in blocks of their own, so that l times their symbol is the one that is asked for; k is not below their sum. -/
structure Keep (w : World) (Z : Int) (A B S : Nat) (k : Nat) (l : Int) (wr : World) : Prop where
  now : Now w.heap.size w wr
  oa : Own wr w.heap.size 6 A
  ob : Own wr (w.heap.size + 1) 6 B
  os : Own wr (w.heap.size + 2) 6 S
  ha : A < 39402006196394479212279040100143613805079739270465446667948293404245721771497210611414266254884915640806627990306816
  hb : B < 39402006196394479212279040100143613805079739270465446667948293404245721771497210611414266254884915640806627990306816
  odd : B % 2 = 1
  one : l = 1 ∨ l = -1
  sy : l * Sym.K A B = Z
  sum : A + B ≤ k
theorem Keep.drewN {w : World} {Z : Int} {A B S k : Nat} {l : Int} {wr : World} (h : Keep w Z A B S k l wr) (m : Nat) : Keep w Z A B S k l (wr.drewN m) :=
  ⟨h.now.drewN m, h.oa.drewN m, h.ob.drewN m, h.os.drewN m, h.ha, h.hb, h.odd, h.one, h.sy, h.sum⟩
theorem blen_lt (X : Nat) : X < 2 ^ blen X := by
  unfold blen
  by_cases h : X = 0
  · subst h; decide
  · rw [if_neg h]; exact (Nat.log2_lt h).1 (Nat.lt_succ_self _)
theorem blen_sq {X k : Nat} (h : X < 2 ^ k * 2 ^ k) : blen X ≤ k + k := blen_le (by rw [Nat.pow_add]; exact h)
theorem blen_top {X : Nat} (h : X < 39402006196394479212279040100143613805079739270465446667948293404245721771497210611414266254884915640806627990306816) : blen X ≤ 384 := by
  have := blen_sq (k := 192) h
  omega
theorem blen_ge {X : Nat} (h : X ≠ 0) : 2 ^ (blen X - 1) ≤ X := by
  unfold blen
  rw [if_neg h, Nat.add_sub_cancel]
  exact Nat.log2_self_le h

/-- One round's approximations are near enough, in the sense that the sum falls. -/
theorem apx_near {A B n : Nat} (hA : A < 2 ^ n) (hB : B < 2 ^ n) (hn : n = max (blen A) (blen B)) (h0 : A ≠ 0) : ∃ E ε : Int, 0 ≤ E ∧ ((((A : Int) - E * (apx A n : Nat)).natAbs : Nat) : Int) ≤ ε ∧ ((((B : Int) - E * (apx B n : Nat)).natAbs : Nat) : Int) ≤ ε ∧ 6 * ε < A + B := by
  by_cases h : n ≤ 64
  · have hp : 2 ^ n ≤ 18446744073709551616 := pow64 h
    refine ⟨1, 0, by omega, ?_, ?_, by omega⟩
    · unfold apx; rw [if_pos h, show wd A 0 = A from by unfold wd; omega]; omega
    · unfold apx; rw [if_pos h, show wd B 0 = B from by unfold wd; omega]; omega
  · have key : ∀ X : Nat, ((((X : Int) - (2 ^ (n - 64) : Nat) * (apx X n : Nat)).natAbs : Nat) : Int) ≤ (2 ^ (n - 32) : Nat) := by
      intro X
      unfold apx
      rw [if_neg h]
      have e1 : 2 ^ (n - 32) = 2 ^ (n - 64) * 4294967296 := by rw [show n - 32 = n - 64 + 32 from by omega, Nat.pow_add]
      have h1 := Nat.div_add_mod X (2 ^ (n - 32))
      have h2 := Nat.mod_lt X (Nat.pow_pos (n := n - 32) (show 0 < 2 by decide))
      have h3 : 2 ^ (n - 64) * (X % 4294967296) < 2 ^ (n - 64) * 4294967296 := Nat.mul_lt_mul_of_pos_left (Nat.mod_lt _ (by decide)) (Nat.pow_pos (by decide))
      rw [← e1] at h3
      have e2 : 2 ^ (n - 64) * (X % 4294967296 + 4294967296 * (X / 2 ^ (n - 32))) = 2 ^ (n - 64) * (X % 4294967296) + 2 ^ (n - 32) * (X / 2 ^ (n - 32)) := by
        rw [Nat.mul_add, ← Nat.mul_assoc, ← e1]
      rw [← Int.natCast_mul, e2]
      generalize 2 ^ (n - 32) * (X / 2 ^ (n - 32)) = q at *
      generalize 2 ^ (n - 64) * (X % 4294967296) = r at *
      generalize 2 ^ (n - 32) = p at *
      omega
    refine ⟨(2 ^ (n - 64) : Nat), (2 ^ (n - 32) : Nat), Int.natCast_nonneg _, key A, key B, ?_⟩
    have h3 : 2 ^ (n - 1) ≤ A + B := by
      by_cases hle : blen B ≤ blen A
      · have := blen_ge h0
        rw [show n = blen A from by omega]
        omega
      · have hB0 : B ≠ 0 := by intro e; subst e; exact hle (by rw [blen_zero]; omega)
        have := blen_ge hB0
        rw [show n = blen B from by omega]
        omega
    have e : 2 ^ (n - 1) = 2 ^ (n - 32) * 2147483648 := by rw [show n - 1 = n - 32 + 31 from by omega, Nat.pow_add]
    have := Nat.pow_pos (n := n - 32) (show 0 < 2 by decide)
    rw [e] at h3
    generalize 2 ^ (n - 32) = p at *
    omega
theorem apx_low32 {X n : Nat} : apx X n % 4294967296 = X % 4294967296 := by
  unfold apx
  split
  · exact apx_low
  · omega
theorem apx_lt {X n : Nat} (hX : X < 2 ^ n) : apx X n < 18446744073709551616 := by
  unfold apx
  split
  · exact wd_lt X 0
  · have h : X / 2 ^ (n - 32) < 4294967296 := by
      rw [Nat.div_lt_iff_lt_mul (Nat.pow_pos (by decide)), show (4294967296 : Nat) = 2 ^ 32 from rfl, ← Nat.pow_add, show 32 + (n - 32) = n from by omega]
      exact hX
    omega

theorem own_alloc {w : World} {b n A : Nat} (h : Own w b n A) (o : Obj) : Own (w.alloc o) b n A := h.below ((Below.refl w.heap.size w).alloc (Nat.le_refl _) o) h.2
/-- What the inner loop keeps. -/
structure Inn (a b x y k : Int) (j α β : Nat) (c0 c1 l : Int) : Prop where
  ex : ∃ f0 g0 f1 g1 A B t u : Int, Sym.St a b x y k j α β f0 g0 f1 g1 A B t u l ∧ c0 = f0 + 4294967296 * g0 ∧ c1 = f1 + 4294967296 * g1
  one : l = 1 ∨ l = -1
  la : α < 18446744073709551616
  lb : β < 18446744073709551616
theorem inn_start {a b x y : Nat} {k l : Int} (hb : b % 2 = 1) (dx : x % 4294967296 = a % 4294967296) (dy : y % 4294967296 = b % 4294967296) (hs : l * Sym.K a b = k) (one : l = 1 ∨ l = -1) (la : x < 18446744073709551616) (lb : y < 18446744073709551616) :
    Inn a b x y k 0 x y 1 4294967296 l := by
  obtain ⟨t, u, h⟩ := Sym.St.start (a := a) (b := b) (x := x) (y := y) k l (by omega) (by omega) (by omega) (by omega) (by omega) (by omega) hs
  exact ⟨⟨1, 0, 0, 1, a, b, t, u, h, by omega, by omega⟩, one, la, lb⟩
theorem sub_run_le (a b : Nat) (ha : a < 18446744073709551616) (hb : b < 18446744073709551616) (h : b ≤ a) : ∀ w, (callFunc 20 #[.int .u64 (a : Int), .int .u64 (b : Int), .int .u64 0]).run Try.prog w = .ok (.value (.tuple #[.int .u64 ((a - b : Nat) : Int), .int .u64 0])) w := by
  obtain ⟨s, k, m, r⟩ := sub64 (x := a) (y := b) ⟨by omega, by omega⟩ ⟨by omega, by omega⟩ (c := 0) Bt.zero
  unfold Subs at m
  obtain rfl : k = 0 := by omega
  obtain rfl : s = ((a - b : Nat) : Int) := by omega
  exact r
theorem sub_run_lt (a b : Nat) (ha : a < 18446744073709551616) (hb : b < 18446744073709551616) (h : a < b) : ∃ s : Int, ∀ w, (callFunc 20 #[.int .u64 (a : Int), .int .u64 (b : Int), .int .u64 0]).run Try.prog w = .ok (.value (.tuple #[.int .u64 s, .int .u64 1])) w := by
  obtain ⟨s, k, m, r⟩ := sub64 (x := a) (y := b) ⟨by omega, by omega⟩ ⟨by omega, by omega⟩ (c := 0) Bt.zero
  unfold Subs at m
  obtain rfl : k = 1 := by omega
  exact ⟨s, r⟩
theorem half_val {x : Nat} (h : x / 2 < 18446744073709551616) : IntKind.u64.wrap ((x : Int) / 2) = ((x / 2 : Nat) : Int) := by rw [u64wrap]; omega
theorem ch8_one (b : Int) : Sym.ch8 b = 1 ∨ Sym.ch8 b = -1 := by unfold Sym.ch8; split <;> simp
theorem ch4_one (a b : Int) : Sym.ch4 a b = 1 ∨ Sym.ch4 a b = -1 := by unfold Sym.ch4; split <;> simp
theorem one_mul_one {c l : Int} (h : c = 1 ∨ c = -1) (g : l = 1 ∨ l = -1) : c * l = 1 ∨ c * l = -1 := by
  rcases h with rfl | rfl <;> rcases g with rfl | rfl <;> simp
theorem pow_le30 {j : Nat} (hj : j < 30) : (2 : Int) ^ j ≤ 536870912 ∧ (0 : Int) ≤ 2 ^ j := by
  have h : 2 ^ j ≤ 2 ^ 29 := Nat.pow_le_pow_right (by decide) (by omega)
  have e : ((2 : Int) ^ j) = ((2 ^ j : Nat) : Int) := by simp
  rw [e]
  generalize 2 ^ j = p at *
  omega
theorem Inn.even {a b x y k : Int} {j α β : Nat} {c0 c1 l l' : Int} (h : Inn a b x y k j α β c0 c1 l) (hj : j < 30) (he : α % 2 = 0) (hl : l' = Sym.ch8 β * l) :
    Inn a b x y k (j + 1) (α / 2) β c0 (wrap64 (c1 * 2)) l' := by
  obtain ⟨⟨f0, g0, f1, g1, A, B, t, u, hs, e0, e1⟩, one, la, lb⟩ := h
  obtain ⟨A', t', u', hs'⟩ := hs.even hj (by omega)
  obtain ⟨hp, -⟩ := pow_le30 hj
  have r1 := hs.r1
  refine ⟨⟨f0, g0, 2 * f1, 2 * g1, A', B, t', u', by rw [hl]; simpa using hs', e0, by unfold wrap64; omega⟩, by rw [hl]; exact one_mul_one (ch8_one _) one, by omega, lb⟩
theorem Inn.sub {a b x y k : Int} {j α β : Nat} {c0 c1 l l' : Int} (h : Inn a b x y k j α β c0 c1 l) (hj : j < 30) (he : α % 2 = 1) (hle : β ≤ α) (hl : l' = Sym.ch8 β * l) :
    Inn a b x y k (j + 1) ((α - β) / 2) β (wrap64 (c0 - c1)) (wrap64 (c1 * 2)) l' := by
  obtain ⟨⟨f0, g0, f1, g1, A, B, t, u, hs, e0, e1⟩, one, la, lb⟩ := h
  obtain ⟨A', t', u', hs'⟩ := hs.sub hj (by omega) (by omega)
  obtain ⟨hp, -⟩ := pow_le30 hj
  have r0 := hs.r0
  have r1 := hs.r1
  have ea : (((α - β) / 2 : Nat) : Int) = ((α : Int) - β) / 2 := by omega
  refine ⟨⟨f0 - f1, g0 - g1, 2 * f1, 2 * g1, A', B, t', u', by rw [hl, ea]; exact hs', by unfold wrap64; omega, by unfold wrap64; omega⟩, by rw [hl]; exact one_mul_one (ch8_one _) one, by omega, lb⟩
theorem Inn.swap {a b x y k : Int} {j α β : Nat} {c0 c1 l l' : Int} (h : Inn a b x y k j α β c0 c1 l) (hj : j < 30) (he : α % 2 = 1) (hlt : α < β) (hl : l' = Sym.ch8 α * (Sym.ch4 α β * l)) :
    Inn a b x y k (j + 1) ((β - α) / 2) α (wrap64 (c1 - c0)) (wrap64 (c0 * 2)) l' := by
  obtain ⟨⟨f0, g0, f1, g1, A, B, t, u, hs, e0, e1⟩, one, la, lb⟩ := h
  obtain ⟨A', t', u', hs'⟩ := hs.swap hj (by omega) (by omega)
  obtain ⟨hp, -⟩ := pow_le30 hj
  have r0 := hs.r0
  have r1 := hs.r1
  have ea : (((β - α) / 2 : Nat) : Int) = ((β : Int) - α) / 2 := by omega
  refine ⟨⟨f1 - f0, g1 - g0, 2 * f0, 2 * g0, A', A, t', u', by rw [hl, ea]; exact hs', by unfold wrap64; omega, by unfold wrap64; omega⟩, by rw [hl]; exact one_mul_one (ch8_one _) (one_mul_one (ch4_one _ _) one), by omega, la⟩
theorem and_one (x : Nat) (hx : x < 18446744073709551616) : bits .and .u64 (x : Int) 1 = ((x % 2 : Nat) : Int) := by
  rw [show (1 : Int) = ((2 ^ 1 - 1 : Nat) : Int) from rfl, u64_and_nat _ _ hx (by decide), Nat.and_two_pow_sub_one_eq_mod]
theorem and_three (x : Nat) (hx : x < 18446744073709551616) : bits .and .u64 (x : Int) 3 = ((x % 4 : Nat) : Int) := by
  rw [show (3 : Int) = ((2 ^ 2 - 1 : Nat) : Int) from rfl, u64_and_nat _ _ hx (by decide), Nat.and_two_pow_sub_one_eq_mod]
theorem and_seven (x : Nat) (hx : x < 18446744073709551616) : bits .and .u64 (x : Int) 7 = ((x % 8 : Nat) : Int) := by
  rw [show (7 : Int) = ((2 ^ 3 - 1 : Nat) : Int) from rfl, u64_and_nat _ _ hx (by decide), Nat.and_two_pow_sub_one_eq_mod]
end Go.Proofs.Ytfdmgelaiigocaa
