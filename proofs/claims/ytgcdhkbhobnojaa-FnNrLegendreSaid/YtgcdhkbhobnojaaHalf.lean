/- Contract of the field's half, and of the choice between two elements. -/
import Derived.Test.YtgcdhkbhobnojaaElem
import Derived.WalkSmall
namespace Go.Proofs.Ytgcdhkbhobnojaa
open Go.RowKit Num

theorem half_word {x y : Int} (hx : Wd x) (hy : Wd y) : ∃ d : Int, (d = x / 2 + 9223372036854775808 * (y % 2) ∧ Wd d) ∧ bits .or .u64 (x / 2) (IntKind.u64.wrap (y * 9223372036854775808)) = d := by
  obtain ⟨h0, h1⟩ := hx
  obtain ⟨g0, g1⟩ := hy
  refine ⟨x / 2 + 9223372036854775808 * (y % 2), ⟨rfl, by omega, by omega⟩, ?_⟩
  rw [u64wrap, u64_or _ _ (by omega) (by omega) (by omega) (by omega)]
  obtain ⟨x, rfl⟩ := Int.eq_ofNat_of_zero_le h0
  obtain ⟨y, rfl⟩ := Int.eq_ofNat_of_zero_le g0
  have e1 : ((x : Int) / 2).toNat = x / 2 := by omega
  have e2 : ((y : Int) * 9223372036854775808 % 18446744073709551616).toNat = y % 2 * 9223372036854775808 := by omega
  rw [e1, e2, Nat.or_comm, nat_join 63 _ _ (by omega) (by omega)]
  omega

/-- Half of a number, or of it and the prime. -/
def halve (X : Nat) : Nat := if X % 2 = 1 then (X + 21888242871839275222246405745257275088548364400416034343698204186575808495617) / 2 else X / 2

/-- The same of an integer. -/
def halveI (Z : Int) : Int := if Z % 2 = 1 then (Z + 21888242871839275222246405745257275088548364400416034343698204186575808495617) / 2 else Z / 2
theorem half_odd {Z S k : Int} (h : Z + 21888242871839275222246405745257275088548364400416034343698204186575808495617 = S + 115792089237316195423570985008687907853269984665640564039457584007913129639936 * k) (z0 : 0 ≤ Z) (_s0 : 0 ≤ S) (hk : Bt k) (hz : Z < 21888242871839275222246405745257275088548364400416034343698204186575808495617) (ho : Z % 2 = 1) : S / 2 = halveI Z := by
  obtain ⟨h0, h1⟩ := hk
  unfold halveI
  rw [if_pos ho]; omega
theorem half_even {Z : Int} (ho : ¬ Z % 2 = 1) : Z / 2 = halveI Z := by
  unfold halveI
  rw [if_neg ho]


end Go.Proofs.Ytgcdhkbhobnojaa
