/- The symbol of signed numbers (not both below 0) over odd ones, and its rules. Plain numbers; no program in sight. -/
import Derived.Test.YtfdmgelaiigocaaSym
namespace Go.Proofs.Ytfdmgelaiigocaa
namespace Sym

/-- The symbol of a signed number over a signed odd one (not both below 0). -/
def K (a b : Int) : Int := if a < 0 then sg (b.natAbs / 2) * G b.natAbs a.natAbs else G b.natAbs a.natAbs

theorem K_nat (a b : Nat) : K a b = G b a := by
  unfold K
  rw [if_neg (by omega)]
  rfl

theorem K_negb (a b : Int) : K a (-b) = K a b := by unfold K; rw [Int.natAbs_neg]

theorem K_res (a b : Int) (hb : b % 2 = 1) : K a b = G b.natAbs (a % (b.natAbs : Int)).toNat := by
  have h1 : b.natAbs % 2 = 1 := by omega
  unfold K
  split
  · refine (G_neg h1 ?_).symm
    have e := Int.emod_add_mul_ediv a (b.natAbs : Int)
    have p := Int.emod_nonneg a (show (b.natAbs : Int) ≠ 0 by omega)
    generalize b.natAbs = n at *
    have e2 : (((a % (n : Int)).toNat + a.natAbs : Nat) : Int) = (n : Int) * (- (a / (n : Int))) := by
      rw [Int.mul_neg]
      generalize (n : Int) * (a / (n : Int)) = q at *
      generalize a % (n : Int) = r at *
      omega
    have e3 : (n : Int) ∣ (((a % (n : Int)).toNat + a.natAbs : Nat) : Int) := ⟨_, e2⟩
    exact Nat.mod_eq_zero_of_dvd (Int.natCast_dvd_natCast.1 e3)
  · have ea : a = (a.natAbs : Int) := by omega
    rw [← G_mod]
    congr 1
    conv => rhs; rw [ea]
    rw [← Int.natCast_emod, Int.toNat_natCast]

theorem K_congr {a a' b : Int} (hb : b % 2 = 1) (h : a % (b.natAbs : Int) = a' % (b.natAbs : Int)) : K a b = K a' b := by
  rw [K_res a b hb, K_res a' b hb, h]

theorem K_sub (a b : Int) (hb : b % 2 = 1) : K (a - b) b = K a b := by
  apply K_congr hb
  apply Int.emod_eq_emod_iff_emod_sub_eq_zero.2
  rw [show a - b - a = -b from by omega]
  exact Int.emod_eq_zero_of_dvd (Int.dvd_neg.2 (Int.natAbs_dvd.2 (Int.dvd_refl b)))

/-- What a halving turns. -/
def ch8 (b : Int) : Int := if b % 8 = 3 ∨ b % 8 = 5 then -1 else 1
theorem chi8_abs (b : Int) : chi8 b.natAbs = ch8 b := by
  unfold chi8 ch8
  by_cases h : b % 8 = 3 ∨ b % 8 = 5
  · rw [if_pos h, if_pos (by omega)]
  · rw [if_neg h, if_neg (by omega)]

theorem K_two (a b : Int) (hb : b % 2 = 1) : K (2 * a) b = ch8 b * K a b := by
  have h1 : b.natAbs % 2 = 1 := by omega
  have h2 : (2 * a).natAbs = 2 * a.natAbs := by omega
  unfold K
  rw [h2, G_two h1, chi8_abs]
  by_cases h : a < 0
  · rw [if_pos h, if_pos (by omega), ← Int.mul_assoc, ← Int.mul_assoc, Int.mul_comm (sg _)]
  · rw [if_neg h, if_neg (by omega)]

theorem sg_mul (x y : Nat) : sg (x * y) = if x % 2 = 1 ∧ y % 2 = 1 then -1 else 1 := by
  unfold sg
  rw [Nat.mul_mod]
  rcases Nat.mod_two_eq_zero_or_one x with h | h <;> rcases Nat.mod_two_eq_zero_or_one y with g | g <;> simp [h, g]

/-- What an exchange turns. -/
def ch4 (a b : Int) : Int := if a % 4 = 3 ∧ b % 4 = 3 then -1 else 1
theorem K_swap (a b : Int) (ha : a % 2 = 1) (hb : b % 2 = 1) (hn : ¬ (a < 0 ∧ b < 0)) : K a b = ch4 a b * K b a := by
  have h1 : a.natAbs % 2 = 1 := by omega
  have h2 : b.natAbs % 2 = 1 := by omega
  unfold K
  rw [G_recip h1 h2, sg_mul]
  unfold ch4 sg
  generalize G a.natAbs b.natAbs = g
  by_cases ha0 : a < 0
  · have hb0 : ¬ b < 0 := fun h => hn ⟨ha0, h⟩
    rw [if_pos ha0, if_neg hb0]
    split <;> split <;> split <;> first | omega | (exfalso; omega)
  · rw [if_neg ha0]
    by_cases hb0 : b < 0
    · rw [if_pos hb0]
      split <;> split <;> split <;> first | omega | (exfalso; omega)
    · rw [if_neg hb0]
      split <;> split <;> first | omega | (exfalso; omega)

theorem K_nega (a b : Int) (ha : a < 0) (hb : b % 2 = 1) (h0 : 0 ≤ b) : K (-a) b = ch4 3 b * K a b := by
  have e : sg (b.natAbs / 2) * sg (b.natAbs / 2) = 1 := by rw [← sg_add]; unfold sg; rw [if_pos (by omega)]
  have e2 : ch4 3 b = sg (b.natAbs / 2) := by
    unfold ch4 sg
    split <;> split <;> first | rfl | (exfalso; omega)
  unfold K
  rw [if_pos ha, if_neg (by omega), Int.natAbs_neg, e2, ← Int.mul_assoc, e, Int.one_mul]

theorem K_zero (b : Int) (_hb : b % 2 = 1) (_h0 : 0 ≤ b) : K 0 b = if b = 1 then 1 else 0 := by
  unfold K
  rw [if_neg (by omega), show Int.natAbs 0 = 0 from rfl]
  split
  · next h => subst h; exact G_one 0
  · exact G_zero (by rw [Nat.gcd_zero_left]; omega)
end Sym
end Go.Proofs.Ytfdmgelaiigocaa
