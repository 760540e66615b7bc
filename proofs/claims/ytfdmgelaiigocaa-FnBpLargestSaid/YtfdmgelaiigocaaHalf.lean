/- Contract of the field's half, and of the choice between two elements. -/
import Derived.Test.YtfdmgelaiigocaaElem
import Derived.WalkSmall
namespace Go.Proofs.Ytfdmgelaiigocaa
open Go.RowKit Num

theorem half_word {x y : Int} (hx : Wd x) (hy : Wd y) : ∃ d : Int, (d = x / 2 + 9223372036854775808 * (y % 2) ∧ Wd d) ∧ bits .or .u64 (x / 2) (IntKind.u64.wrap (y * 9223372036854775808)) = d := by
  obtain ⟨h0, h1⟩ := hx
  obtain ⟨g0, g1⟩ := hy
  refine ⟨x / 2 + 9223372036854775808 * (y % 2), ⟨rfl, by omega, by omega⟩, ?_⟩
  rw [u64wrap, u64_or _ _ (by omega) (by omega) (by omega) (by omega)]
  obtain ⟨x, rfl⟩ := Int.eq_ofNat_of_zero_le h0
  obtain ⟨y, rfl⟩ := Int.eq_ofNat_of_zero_le g0
  have e1 : ((x : Int) / 2).toNat = x / 2 := by omega
  have e2 : ((y : Int) * 9223372036854775808 % 18446744073709551616).toNat = y % 2 * 9223372036854775808 := by omega
  rw [e1, e2, Nat.or_comm, nat_join 63 _ _ (by omega) (by omega)]
  omega

/-- Half of a number, or of it and the prime. -/
def halve (X : Nat) : Nat := if X % 2 = 1 then (X + 4002409555221667393417789825735904156556882819939007885332058136124031650490837864442687629129015664037894272559787) / 2 else X / 2

/-- The same of an integer. -/
def halveI (Z : Int) : Int := if Z % 2 = 1 then (Z + 4002409555221667393417789825735904156556882819939007885332058136124031650490837864442687629129015664037894272559787) / 2 else Z / 2
theorem half_odd {Z S k : Int} (h : Z + 4002409555221667393417789825735904156556882819939007885332058136124031650490837864442687629129015664037894272559787 = S + 39402006196394479212279040100143613805079739270465446667948293404245721771497210611414266254884915640806627990306816 * k) (z0 : 0 ≤ Z) (_s0 : 0 ≤ S) (hk : Bt k) (hz : Z < 4002409555221667393417789825735904156556882819939007885332058136124031650490837864442687629129015664037894272559787) (ho : Z % 2 = 1) : S / 2 = halveI Z := by
  obtain ⟨h0, h1⟩ := hk
  unfold halveI
  rw [if_pos ho]; omega
theorem half_even {Z : Int} (ho : ¬ Z % 2 = 1) : Z / 2 = halveI Z := by
  unfold halveI
  rw [if_neg ho]


end Go.Proofs.Ytfdmgelaiigocaa
