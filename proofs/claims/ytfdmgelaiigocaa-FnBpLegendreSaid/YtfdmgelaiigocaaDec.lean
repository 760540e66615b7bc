/- Contract of the field's parting of two factors that lie in one word. -/
import Derived.Test.YtfdmgelaiigocaaBits
import Derived.Laws.BitsLemmas
import Derived.WalkSpells
import Derived.WalkLawsBesides
namespace Go.Proofs.Ytfdmgelaiigocaa
open Go.RowKit Num

theorem i64wrap (x : Int) : IntKind.i64.wrap x = (x + 9223372036854775808) % 18446744073709551616 - 9223372036854775808 := IntKind.wrap_i64 x

/-- The low word of 32 bits. -/
theorem low32 (x : Int) : bits .and .i64 x 4294967295 = x % 4294967296 := by
  have h : (BitVec.ofInt 64 x &&& BitVec.ofInt 64 4294967295).toNat = (x % 4294967296).toNat := by
    rw [BitVec.toNat_and, BitVec.toNat_ofInt, BitVec.toNat_ofInt, show (4294967295 % ((2 ^ 64 : Nat) : Int)).toNat = 2 ^ 32 - 1 from by decide, Nat.and_two_pow_sub_one_eq_mod]
    omega
  show IntKind.i64.wrap ((BitVec.ofInt 64 x &&& BitVec.ofInt 64 4294967295).toNat : Int) = _
  rw [h, i64wrap]
  omega

theorem dec_f {c f g : Int} (h : c = f + 4294967296 * g) (f0 : -2147483647 ≤ f) (f1 : f ≤ 2147483648) :
    wrap64 (bits .and .i64 (wrap64 (c + 9223372034707292159)) 4294967295 - 2147483647) = f := by
  rw [low32]; unfold wrap64; omega
theorem dec_g {c f g : Int} (h : c = f + 4294967296 * g) (f0 : -2147483647 ≤ f) (f1 : f ≤ 2147483648) (g0 : -2147483647 ≤ g) (g1 : g ≤ 2147483648) :
    wrap64 (bits .and .i64 (wrap64 (c + 9223372034707292159) / 4294967296) 4294967295 - 2147483647) = g := by
  rw [low32]; unfold wrap64; omega

set_option maxHeartbeats 400000 in
theorem decompose (c f g : Int) (w : World) (h : c = f + 4294967296 * g) (f0 : -2147483647 ≤ f) (f1 : f ≤ 2147483648) (g0 : -2147483647 ≤ g) (g1 : g ≤ 2147483648) :
    Calls Try.prog 24 #[.int .i64 c] w fun e w' => e = .returned (.tuple #[.int .i64 f, .int .i64 g]) ∧ w = w' := by
  have ef := dec_f h f0 f1
  have eg := dec_g h f0 f1 g0 g1
  have H := shut (And.intro ef eg)
  clear h f0 f1 g0 g1 ef eg
  go_enter Try.func24, Try.ntmps24
  go_wp2
  go_ret2
  exact ⟨by rw [← H.out.1, ← H.out.2]; rfl, rfl⟩
end Go.Proofs.Ytfdmgelaiigocaa
