/- The library's product of two words, laid at this program; products with one and two words added. -/
import Derived.Test.YtfdmgelaiigocaaBits
import Derived.Shelf.Bits.Mul64
import Derived.WalkSpells
import Derived.WalkLawsBesides
namespace Go.Proofs.Ytfdmgelaiigocaa
open Go.RowKit Num

def mul_ren : Go.Shelf.Ren := ⟨fun | 264 => 34 | n => n, fun | 53 => 22 | 46 => 34 | n => n, fun | n => n⟩
theorem mul_lays : Go.Proofs.Lays.n264 Try.prog mul_ren := {
  mixed := by kernel_rfl
  f264 := Try.func34.trans (congrArg some (by kernel_rfl))
  t46 := Try.underlying34
  a46 := Try.isAgg34
  z46 := Try.sizeOf34
  v46 := Try.zeroValue34
  t53 := Try.underlying22
  a53 := Try.isAgg22
  z53 := Try.sizeOf22
  v53 := Try.zeroValue22 }
theorem mul_raw (x y : Nat) (hx : x < 18446744073709551616) (hy : y < 18446744073709551616) (w : World) :
    Calls Try.prog 34 #[.int .u64 x, .int .u64 y] w fun e w' => e = .returned (.tuple #[.int .u64 ((x * y / 18446744073709551616 : Nat) : Int), .int .u64 ((x * y % 18446744073709551616 : Nat) : Int)]) ∧ w' = w := Any.bits_Mul64 mul_lays x y hx hy w

/-- x * y is h words and l; never the greatest word. -/
def MulsT (x y h l : Int) : Prop := x * y = l + 18446744073709551616 * h ∧ 0 ≤ l ∧ l < 18446744073709551616 ∧ 0 ≤ h ∧ h ≤ 18446744073709551614
theorem mul64 {x y : Int} (hx : Wd x) (hy : Wd y) : ∃ h l : Int, MulsT x y h l ∧ ∀ w, Calls Try.prog 34 #[.int .u64 x, .int .u64 y] w fun e w' => e = .returned (.tuple #[.int .u64 h, .int .u64 l]) ∧ w = w' := by
  obtain ⟨hx0, hx1⟩ := hx
  obtain ⟨hy0, hy1⟩ := hy
  obtain ⟨x, rfl⟩ := Int.eq_ofNat_of_zero_le hx0
  obtain ⟨y, rfl⟩ := Int.eq_ofNat_of_zero_le hy0
  refine ⟨_, _, ?_, fun w => (mul_raw x y (by omega) (by omega) w).mono fun _ _ h => ⟨h.1, h.2.symm⟩⟩
  have h1 : x * y ≤ 18446744073709551615 * 18446744073709551615 := Nat.mul_le_mul (by omega) (by omega)
  unfold MulsT
  rw [← Int.natCast_mul]
  generalize x * y = p at *
  omega

/-- a * b + c is h words and l. -/
def Madd1 (a b c h l : Int) : Prop := a * b + c = l + 18446744073709551616 * h ∧ Wd h ∧ Wd l
def Madd2 (a b c d h l : Int) : Prop := a * b + c + d = l + 18446744073709551616 * h ∧ Wd h ∧ Wd l

theorem madd0 {a b c : Int} (ha : Wd a) (hb : Wd b) (hc : Wd c) : ∃ h l : Int, Madd1 a b c h l ∧ ∀ w, Calls Try.prog 37 #[.int .u64 a, .int .u64 b, .int .u64 c] w fun e w' => e = .returned (.int .u64 h) ∧ w = w' := by
  obtain ⟨h, l, m1, r1⟩ := mul64 ha hb
  obtain ⟨s, k, m2, r2⟩ := add64 (x := l) (y := c) (c := 0) ⟨m1.2.1, m1.2.2.1⟩ hc Bt.zero
  obtain ⟨h2, k2, m3, r3⟩ := add64 (x := h) (y := 0) (c := k) ⟨m1.2.2.2.1, by have := m1.2.2.2.2; omega⟩ ⟨by omega, by omega⟩ m2.bt
  refine ⟨h2, s, ?_, fun w => ?_⟩
  · unfold MulsT at m1; unfold Adds at m2 m3; unfold Madd1 Wd
    generalize a * b = p at *
    omega
  · have M := shut (And.intro m1 (And.intro m2 m3))
    have R1 := shut r1
    clear r1 m1 m2 m3 ha hb hc
    go_enter Try.func37, Try.ntmps37
    go_wp2_with fail
    refine (R1.out _).mono ?_
    rintro e w' ⟨rfl, rfl⟩
    go_wp2_with fail
    go_ret
    exact ⟨rfl, rfl⟩

theorem madd1 {a b c : Int} (ha : Wd a) (hb : Wd b) (hc : Wd c) : ∃ h l : Int, Madd1 a b c h l ∧ ∀ w, Calls Try.prog 35 #[.int .u64 a, .int .u64 b, .int .u64 c] w fun e w' => e = .returned (.tuple #[.int .u64 h, .int .u64 l]) ∧ w = w' := by
  obtain ⟨h, l, m1, r1⟩ := mul64 ha hb
  obtain ⟨s, k, m2, r2⟩ := add64 (x := l) (y := c) (c := 0) ⟨m1.2.1, m1.2.2.1⟩ hc Bt.zero
  obtain ⟨h2, k2, m3, r3⟩ := add64 (x := h) (y := 0) (c := k) ⟨m1.2.2.2.1, by have := m1.2.2.2.2; omega⟩ ⟨by omega, by omega⟩ m2.bt
  refine ⟨h2, s, ?_, fun w => ?_⟩
  · unfold MulsT at m1; unfold Adds at m2 m3; unfold Madd1 Wd
    generalize a * b = p at *
    omega
  · have M := shut (And.intro m1 (And.intro m2 m3))
    have R1 := shut r1
    clear r1 m1 m2 m3 ha hb hc
    go_enter Try.func35, Try.ntmps35
    go_wp2_with fail
    refine (R1.out _).mono ?_
    rintro e w' ⟨rfl, rfl⟩
    go_wp2_with fail
    go_ret2
    exact ⟨rfl, rfl⟩

theorem madd2 {a b c d : Int} (ha : Wd a) (hb : Wd b) (hc : Wd c) (hd : Wd d) : ∃ h l : Int, Madd2 a b c d h l ∧ ∀ w, Calls Try.prog 38 #[.int .u64 a, .int .u64 b, .int .u64 c, .int .u64 d] w fun e w' => e = .returned (.tuple #[.int .u64 h, .int .u64 l]) ∧ w = w' := by
  obtain ⟨h, l, m1, r1⟩ := mul64 ha hb
  obtain ⟨s, k, m2, r2⟩ := add64 (x := c) (y := d) (c := 0) hc hd Bt.zero
  obtain ⟨h2, k2, m3, r3⟩ := add64 (x := h) (y := 0) (c := k) ⟨m1.2.2.2.1, by have := m1.2.2.2.2; omega⟩ ⟨by omega, by omega⟩ m2.bt
  obtain ⟨l2, k3, m4, r4⟩ := add64 (x := l) (y := s) (c := 0) ⟨m1.2.1, m1.2.2.1⟩ m2.wd Bt.zero
  obtain ⟨h3, k4, m5, r5⟩ := add64 (x := h2) (y := 0) (c := k3) m3.wd ⟨by omega, by omega⟩ m4.bt
  refine ⟨h3, l2, ?_, fun w => ?_⟩
  · have hp : a * b ≤ 18446744073709551615 * 18446744073709551615 := Int.mul_le_mul (by have := ha.2; omega) (by have := hb.2; omega) hb.1 (by omega)
    unfold MulsT at m1; unfold Adds at m2 m3 m4 m5; unfold Madd2; unfold Wd at *
    generalize a * b = p at *
    omega
  · have M := shut (And.intro m1 (And.intro m2 m3))
    have R1 := shut r1
    clear r1 m1 m2 m3 m4 m5 ha hb hc hd
    go_enter Try.func38, Try.ntmps38
    go_wp2_with fail
    refine (R1.out _).mono ?_
    rintro e w' ⟨rfl, rfl⟩
    go_wp2_with fail
    go_ret2
    exact ⟨rfl, rfl⟩

end Go.Proofs.Ytfdmgelaiigocaa
