/- Euler's criterion, as the statement puts it: the power of the regular form tells the symbol of the Montgomery form. Plain numbers; no program in sight. -/
import Derived.Test.YtgcdhkbhobnojaaCert
import Derived.Test.YtgcdhkbhobnojaaKro
import Derived.Test.YtgcdhkbhobnojaaPowW
namespace Go.Proofs.Ytgcdhkbhobnojaa
open Num Sym

theorem cop_pow (k : Nat) : Nat.Coprime (2 ^ k) 21888242871839275222246405745257275088548364400416034343698204186575808495617 := Nat.Coprime.pow_left k (cop_two (by decide))
theorem G_square (k : Nat) : G 21888242871839275222246405745257275088548364400416034343698204186575808495617 (2 ^ (k + k)) = 1 := by
  rw [Nat.pow_add, G_mul (by decide) (cop_pow k), G_pos (cop_pow k), ← sg_add]
  unfold sg
  rw [if_pos (by omega)]
theorem chr_zero {e m : Nat} (h : 0 < e) : chr (0 ^ e % m) = 0 := by rw [Nat.zero_pow h, Nat.zero_mod]; rfl
theorem char_of {p A : Nat} (hp : Prm p) (hodd : p % 2 = 1) (h2 : 2 < p) (hA : A < p) : chr (A ^ (p / 2) % p) = G p A := by
  by_cases h0 : A = 0
  · subst h0
    rw [G_zero (by rw [Nat.gcd_zero_left]; omega)]
    exact chr_zero (by omega)
  · have hm : A % p ≠ 0 := by rw [Nat.mod_eq_of_lt hA]; exact h0
    rw [euler hp hodd hm, G_pos (hp.cop hm)]
    unfold sg
    by_cases hmu : mu p A % 2 = 0
    · rw [if_pos hmu, if_pos hmu]; rfl
    · rw [if_neg hmu, if_neg hmu]
      unfold chr
      rw [if_neg (by omega), if_neg (by omega)]
theorem char_sym {X A : Nat} (hA : A < 21888242871839275222246405745257275088548364400416034343698204186575808495617) (h : A * 2 ^ 256 % 21888242871839275222246405745257275088548364400416034343698204186575808495617 = X % 21888242871839275222246405745257275088548364400416034343698204186575808495617) : chr (A ^ (21888242871839275222246405745257275088548364400416034343698204186575808495617 / 2) % 21888242871839275222246405745257275088548364400416034343698204186575808495617) = K (X : Int) 21888242871839275222246405745257275088548364400416034343698204186575808495617 := by
  have e : K (X : Int) 21888242871839275222246405745257275088548364400416034343698204186575808495617 = G 21888242871839275222246405745257275088548364400416034343698204186575808495617 A := by
    rw [show (21888242871839275222246405745257275088548364400416034343698204186575808495617 : Int) = ((21888242871839275222246405745257275088548364400416034343698204186575808495617 : Nat) : Int) from rfl, K_nat, ← G_congr h, G_mul (by decide) (cop_pow _), show (256 : Nat) = 128 + 128 from rfl, G_square, Int.mul_one]
  rw [e]
  exact char_of (p := 21888242871839275222246405745257275088548364400416034343698204186575808495617) (A := A) prm (by decide) (by decide) hA
end Go.Proofs.Ytgcdhkbhobnojaa
