/- math/bits.Add64 and Sub64, as the walks meet them: each call's two results under names of their own. -/
import Derived.Test.YtfdmgelaiigocaaRows
import Derived.Test.YtfdmgelaiigocaaMem
import Derived.Shelf.Spec.BitsCarry
import Derived.WalkKit
namespace Go.Proofs.Ytfdmgelaiigocaa
open Go.RowKit Num

/-- x + y + c is s, and k carried. -/
def Adds (x y c s k : Int) : Prop := x + y + c = s + 18446744073709551616 * k ∧ 0 ≤ s ∧ s < 18446744073709551616 ∧ 0 ≤ k ∧ k ≤ 1
/-- x - y - c is s, and k owed. -/
def Subs (x y c s k : Int) : Prop := x - y - c = s - 18446744073709551616 * k ∧ 0 ≤ s ∧ s < 18446744073709551616 ∧ 0 ≤ k ∧ k ≤ 1
/-- x * y is h words and l. -/
def Muls (x y h l : Int) : Prop := x * y = l + 18446744073709551616 * h ∧ 0 ≤ l ∧ l < 18446744073709551616 ∧ 0 ≤ h ∧ h < 18446744073709551616

/-- A word. -/
def Wd (x : Int) : Prop := 0 ≤ x ∧ x < 18446744073709551616
theorem Adds.wd {x y c s k : Int} (h : Adds x y c s k) : Wd s := ⟨h.2.1, h.2.2.1⟩
theorem Subs.wd {x y c s k : Int} (h : Subs x y c s k) : Wd s := ⟨h.2.1, h.2.2.1⟩
/-- A bit. -/
def Bt (x : Int) : Prop := 0 ≤ x ∧ x ≤ 1
theorem Adds.bt {x y c s k : Int} (h : Adds x y c s k) : Bt k := h.2.2.2
theorem Subs.bt {x y c s k : Int} (h : Subs x y c s k) : Bt k := h.2.2.2
theorem Bt.zero : Bt 0 := ⟨by omega, by omega⟩
theorem wd_nat (a i : Nat) : Wd (wd a i : Nat) := ⟨by omega, by have := wd_lt a i; omega⟩

theorem add64 {x y c : Int} (hx : Wd x) (hy : Wd y) (hc : Bt c) : ∃ s k : Int, Adds x y c s k ∧ ∀ w, (callFunc 31 #[.int .u64 x, .int .u64 y, .int .u64 c]).run Try.prog w =
    .ok (.value (.tuple #[.int .u64 s, .int .u64 k])) w := by
  obtain ⟨hx0, hx1⟩ := hx
  obtain ⟨hy0, hy1⟩ := hy
  obtain ⟨hc0, hc1⟩ := hc
  refine ⟨(x + y + c) % 18446744073709551616, (x + y + c) / 18446744073709551616, ⟨by omega, by omega, by omega, by omega, by omega⟩, fun w => ?_⟩
  rw [run_callFunc_extern Try.func31 (by kernel_rfl) (by kernel_rfl) (by kernel_rfl) (e := add64Entry) (by kernel_rfl)]
  obtain ⟨x, rfl⟩ := Int.eq_ofNat_of_zero_le hx0
  obtain ⟨y, rfl⟩ := Int.eq_ofNat_of_zero_le hy0
  obtain ⟨c, rfl⟩ := Int.eq_ofNat_of_zero_le hc0
  rw [run_add64 x y c (by omega) (by omega) (by omega) (by omega)]
  simp only [Result.andThen]

theorem sub64 {x y c : Int} (hx : Wd x) (hy : Wd y) (hc : Bt c) : ∃ s k : Int, Subs x y c s k ∧ ∀ w, (callFunc 20 #[.int .u64 x, .int .u64 y, .int .u64 c]).run Try.prog w =
    .ok (.value (.tuple #[.int .u64 s, .int .u64 k])) w := by
  obtain ⟨hx0, hx1⟩ := hx
  obtain ⟨hy0, hy1⟩ := hy
  obtain ⟨hc0, hc1⟩ := hc
  refine ⟨(x - y - c) % 18446744073709551616, if x < y + c then 1 else 0, ⟨by split <;> omega, by omega, by omega, by split <;> omega, by split <;> omega⟩, fun w => ?_⟩
  rw [run_callFunc_extern Try.func20 (by kernel_rfl) (by kernel_rfl) (by kernel_rfl) (e := sub64Entry) (by kernel_rfl)]
  obtain ⟨x, rfl⟩ := Int.eq_ofNat_of_zero_le hx0
  obtain ⟨y, rfl⟩ := Int.eq_ofNat_of_zero_le hy0
  obtain ⟨c, rfl⟩ := Int.eq_ofNat_of_zero_le hc0
  rw [run_sub64 x y c (by omega)]
  have e1 : (((x + 18446744073709551616 - y - c) % 18446744073709551616 : Nat) : Int) = ((x : Int) - y - c) % 18446744073709551616 := by omega
  have e2 : ((if x < y + c then 1 else 0 : Nat) : Int) = if (x : Int) < y + c then 1 else 0 := by split <;> split <;> omega
  rw [e1, e2]
  simp only [Result.andThen]

end Go.Proofs.Ytfdmgelaiigocaa
