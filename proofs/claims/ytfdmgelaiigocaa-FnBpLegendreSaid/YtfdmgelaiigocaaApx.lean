/- Contract of the field's approximation of a number by its highest and lowest bits. -/
import Derived.Test.YtfdmgelaiigocaaLen
import Derived.Laws.BitsAllLaws
namespace Go.Proofs.Ytfdmgelaiigocaa
open Go.RowKit Num

/-- The approximation of X of n bits. -/
def apx (X n : Nat) : Nat := if n ≤ 64 then wd X 0 else X % 4294967296 + 4294967296 * (X / 2 ^ (n - 32))

/-- A mask of all bits from v on. -/
theorem high_mask (x v : Nat) (hx : x < 18446744073709551616) (hv : v ≤ 64) : x &&& (18446744073709551616 - 2 ^ v) = 2 ^ v * (x / 2 ^ v) := by
  have e : 18446744073709551616 - 2 ^ v = 2 ^ v * (2 ^ (64 - v) - 1) := by
    rw [Nat.mul_sub, ← Nat.pow_add, show v + (64 - v) = 64 from by omega, Nat.mul_one]
  rw [e]
  apply Nat.eq_of_testBit_eq
  intro i
  rw [Nat.testBit_and, Nat.testBit_two_pow_mul, Nat.testBit_two_pow_mul, Nat.testBit_two_pow_sub_one, Nat.testBit_div_two_pow]
  by_cases h1 : i ≥ v
  · rw [show i - v + v = i from by omega]
    by_cases h2 : i < 64
    · simp [h1]; intro; omega
    · rw [Nat.testBit_lt_two_pow (show x < 2 ^ i from Nat.lt_of_lt_of_le hx (Nat.pow_le_pow_right (n := 2) (by decide) (show 64 ≤ i by omega)))]
      simp
  · simp [h1]
theorem pow64 {v : Nat} (hv : v ≤ 64) : 2 ^ v ≤ 18446744073709551616 := Nat.pow_le_pow_right (n := 2) (by decide) hv
theorem mask_val (v : Nat) (hv : v ≤ 64) : bits .xor .u64 IntKind.u64.max (IntKind.u64.wrap (IntKind.u64.wrap (2 ^ v) - 1)) = ((18446744073709551616 - 2 ^ v : Nat) : Int) := by
  have hp := Nat.pow_pos (n := v) (show 0 < 2 by decide)
  have hle := pow64 hv
  have e : IntKind.u64.wrap (IntKind.u64.wrap (2 ^ v) - 1) = ((2 ^ v - 1 : Nat) : Int) := by
    rw [u64wrap, u64wrap, show ((2 : Int) ^ v) = ((2 ^ v : Nat) : Int) from by simp]
    generalize 2 ^ v = p at *
    omega
  rw [e, show IntKind.u64.max = ((18446744073709551615 : Nat) : Int) from rfl, u64_xor_nat _ _ (by omega) (by omega)]
  congr 1
  have h : (18446744073709551615 : Nat) = 2 ^ 64 - 1 := by decide
  apply Nat.eq_of_testBit_eq
  intro i
  have e2 : 18446744073709551616 - 2 ^ v = 2 ^ v * (2 ^ (64 - v) - 1) := by
    rw [Nat.mul_sub, ← Nat.pow_add, show v + (64 - v) = 64 from by omega, Nat.mul_one]
  rw [e2, h, Nat.testBit_xor, Nat.testBit_two_pow_sub_one, Nat.testBit_two_pow_sub_one, Nat.testBit_two_pow_mul, Nat.testBit_two_pow_sub_one]
  by_cases h1 : i < v
  · have h3 : i < 64 := by omega
    have h4 : ¬ i ≥ v := by omega
    simp [h1, h3, h4]
  · by_cases h2 : i < 64
    · have h4 : i ≥ v := by omega
      have h5 : i - v < 64 - v := by omega
      simp [h1, h2, h4, h5]
    · have h5 : ¬ i - v < 64 - v := by omega
      simp [h1, h2, h5]
theorem mask_and (x v : Nat) (hx : x < 18446744073709551616) (hv : v ≤ 64) : bits .and .u64 (x : Int) (bits .xor .u64 IntKind.u64.max (IntKind.u64.wrap (IntKind.u64.wrap (2 ^ v) - 1))) = ((2 ^ v * (x / 2 ^ v) : Nat) : Int) := by
  have hp := Nat.pow_pos (n := v) (show 0 < 2 by decide)
  rw [mask_val v hv, u64_and_nat _ _ hx (by omega), high_mask x v hx hv]
theorem mask_and' (x v : Nat) (hx : x < 18446744073709551616) (hv : v ≤ 64) : bits .and .u64 (bits .xor .u64 IntKind.u64.max (IntKind.u64.wrap (IntKind.u64.wrap (2 ^ v) - 1))) (x : Int) = ((2 ^ v * (x / 2 ^ v) : Nat) : Int) := by
  have hp := Nat.pow_pos (n := v) (show 0 < 2 by decide)
  rw [mask_val v hv, u64_and_nat _ _ (by omega) hx, Nat.and_comm, high_mask x v hx hv]
theorem low_and (x : Nat) (hx : x < 18446744073709551616) : bits .and .u64 4294967295 (x : Int) = ((x % 4294967296 : Nat) : Int) := by
  rw [show (4294967295 : Int) = ((2 ^ 32 - 1 : Nat) : Int) from rfl, u64_and_nat _ _ (by decide) hx, Nat.and_comm, Nat.and_two_pow_sub_one_eq_mod]
theorem or_join (k y z : Nat) (hy : y < 2 ^ k) (h : 2 ^ k * z < 18446744073709551616) (hy2 : y < 18446744073709551616) : bits .or .u64 (y : Int) ((2 ^ k * z : Nat) : Int) = ((y + 2 ^ k * z : Nat) : Int) := by
  rw [u64_or_nat _ _ hy2 h, Nat.or_comm, ← Nat.two_pow_add_eq_or_of_lt hy, Nat.add_comm]

/-- The parts, as they are put together, are the approximation. -/
theorem apx_parts {X i m u v s t : Nat} (hX : X < 2 ^ (64 * (i + 1) + m)) (hm1 : m ≤ 64) (hu : u = min m 32) (hv : v = m - u) (hs : s = 64 - m) (ht : t = 32 + u) :
    ∃ y z : Nat, 2 ^ t * (wd X i / 2 ^ t) / 2 ^ u = 2 ^ 32 * y ∧ 2 ^ v * (wd X (i + 1) / 2 ^ v) * 2 ^ s = 2 ^ (64 - u) * z ∧ 2 ^ 32 * y + 4294967296 ≤ 2 ^ (64 - u) ∧ 2 ^ (64 - u) * z < 18446744073709551616 ∧
      2 ^ 32 * y + 2 ^ (64 - u) * z = 4294967296 * (X / 2 ^ (64 * (i + 1) + m - 32)) := by
  obtain ⟨Q, hQ⟩ : ∃ Q, X / 18446744073709551616 ^ i = Q := ⟨_, rfl⟩
  have ha : wd X i = Q % 18446744073709551616 := by rw [← hQ]; rfl
  have hQlt : Q < 18446744073709551616 * 2 ^ m := by
    rw [← hQ, Nat.div_lt_iff_lt_mul (pow_pos' i)]
    refine Nat.lt_of_lt_of_eq hX ?_
    rw [show (18446744073709551616 : Nat) = 2 ^ 64 from rfl, ← Nat.pow_mul, ← Nat.pow_add, ← Nat.pow_add]
    congr 1; omega
  have hc : wd X (i + 1) = Q / 18446744073709551616 := by
    unfold wd
    rw [Nat.pow_succ, ← Nat.div_div_eq_div_mul, hQ]
    exact Nat.mod_eq_of_lt (by rw [Nat.div_lt_iff_lt_mul (by decide)]; exact Nat.lt_of_lt_of_le hQlt (by rw [Nat.mul_comm]; exact Nat.mul_le_mul_right _ (pow64 hm1)))
  have hD : X / 2 ^ (64 * (i + 1) + m - 32) = Q / 2 ^ (32 + m) := by
    rw [← hQ, show (18446744073709551616 : Nat) = 2 ^ 64 from rfl, ← Nat.pow_mul, Nat.div_div_eq_div_mul, ← Nat.pow_add]
    congr 2; omega
  rw [ha, hc, hD]
  by_cases hm : m ≤ 32
  · obtain rfl : u = m := by omega
    obtain rfl : v = 0 := by omega
    subst hs ht
    obtain ⟨r, hr⟩ : ∃ r, 32 = u + r := ⟨32 - u, by omega⟩
    refine ⟨Q % 18446744073709551616 / 2 ^ (32 + u), Q / 18446744073709551616, ?_, by simp [Nat.mul_comm], ?_, ?_, ?_⟩
    · rw [Nat.pow_add, Nat.mul_comm (2 ^ 32), Nat.mul_assoc, Nat.mul_div_cancel_left _ (Nat.pow_pos (by decide))]
    · have h1 : Q % 18446744073709551616 / 2 ^ (32 + u) < 2 ^ r := by
        rw [Nat.div_lt_iff_lt_mul (Nat.pow_pos (by decide)), ← Nat.pow_add, show r + (32 + u) = 64 from by omega]
        exact Nat.mod_lt _ (by decide)
      rw [show 64 - u = 32 + r from by omega, Nat.pow_add 2 32 r]
      have := Nat.mul_le_mul_left (2 ^ 32) h1
      rw [Nat.mul_succ] at this
      exact this
    · have h1 : Q / 18446744073709551616 < 2 ^ u := by rw [Nat.div_lt_iff_lt_mul (by decide), Nat.mul_comm]; exact hQlt
      have h2 := Nat.mul_lt_mul_of_pos_left h1 (Nat.pow_pos (n := 64 - u) (show 0 < 2 by decide))
      rw [← Nat.pow_add, show 64 - u + u = 64 from by omega] at h2
      exact h2
    · have e : Q = Q % 18446744073709551616 + 2 ^ (32 + u) * (2 ^ r * (Q / 18446744073709551616)) := by
        rw [← Nat.mul_assoc, ← Nat.pow_add, show 32 + u + r = 64 from by omega]
        exact (Nat.mod_add_div Q 18446744073709551616).symm
      conv => rhs; rw [e]
      rw [Nat.add_mul_div_left _ _ (Nat.pow_pos (by decide)), Nat.mul_add, show 64 - u = 32 + r from by omega, Nat.pow_add 2 32 r, Nat.mul_assoc]
  · obtain rfl : u = 32 := by omega
    obtain rfl : t = 64 := by omega
    obtain ⟨r, hr⟩ : ∃ r, v + s = 32 := ⟨0, by omega⟩
    refine ⟨0, Q / 18446744073709551616 / 2 ^ v, ?_, ?_, by decide, ?_, ?_⟩
    · rw [Nat.div_eq_of_lt (Nat.mod_lt _ (by decide))]
    · rw [Nat.mul_right_comm, ← Nat.pow_add, hr]
    · have h1 : Q / 18446744073709551616 / 2 ^ v < 2 ^ 32 := by
        rw [Nat.div_lt_iff_lt_mul (Nat.pow_pos (by decide)), ← Nat.pow_add, show 32 + v = m from by omega, Nat.div_lt_iff_lt_mul (by decide), Nat.mul_comm]; exact hQlt
      omega
    · rw [Nat.mul_zero, Nat.zero_add, show 32 + m = 64 + v from by omega, Nat.pow_add, ← Nat.div_div_eq_div_mul]
theorem apx_low {X : Nat} : wd X 0 % 4294967296 = X % 4294967296 := by unfold wd; omega

set_option maxHeartbeats 800000 in
theorem approx_small (b o X n : Nat) (w : World) (hn : n ≤ 64) (h0 : w.cell? ⟨b, o, none⟩ = some (.int .u64 (wd X 0 : Nat))) :
    Calls Try.prog 23 #[.pointer (some ⟨b, o, none⟩), .int .i64 n] w fun e w' => e = .returned (.int .u64 (apx X n : Nat)) ∧ w = w' := by
  have HA : Shut (apx X n = wd X 0) := shut (by unfold apx; rw [if_pos hn])
  have hd : decide (n ≤ 64) = true := by simpa using hn
  have i0 : (n : Int) ≤ 64 := by omega
  clear hn
  go_enter Try.func23, Try.ntmps23
  go_wp2
  go_ret
  exact ⟨by rw [HA.out]; rfl, rfl⟩
set_option maxRecDepth 100000 in
set_option maxHeartbeats 1600000 in
theorem approx_1 (b o X n : Nat) (w : World) (hn : 64 < n) (hn1 : n ≤ 128) (hX : X < 2 ^ n) (h0 : w.cell? ⟨b, o, none⟩ = some (.int .u64 (wd X 0 : Nat))) (h1 : w.cell? ⟨b, o + 1, none⟩ = some (.int .u64 (wd X 1 : Nat))) :
    Calls Try.prog 23 #[.pointer (some ⟨b, o, none⟩), .int .i64 n] w fun e w' => e = .returned (.int .u64 (apx X n : Nat)) ∧ w = w' := by
  obtain ⟨m, hm⟩ : ∃ m : Nat, n = 64 + m := ⟨n - 64, by omega⟩
  obtain ⟨u, hu⟩ : ∃ u, u = min m 32 := ⟨_, rfl⟩
  obtain ⟨v, hv⟩ : ∃ v, v = m - u := ⟨_, rfl⟩
  obtain ⟨s, hs⟩ : ∃ s, s = 64 - m := ⟨_, rfl⟩
  obtain ⟨t, ht⟩ : ∃ t, t = 32 + u := ⟨_, rfl⟩
  obtain ⟨y, z, ey, ez, b1, b2, es⟩ := apx_parts (X := X) (i := 0) (m := m) (u := u) (v := v) (s := s) (t := t) (by rw [hm] at hX; exact hX) (by omega) hu hv hs ht
  obtain ⟨Y, hY⟩ : ∃ Y, 2 ^ 32 * y = Y := ⟨_, rfl⟩
  obtain ⟨Z, hZ⟩ : ∃ Z, 2 ^ (64 - u) * z = Z := ⟨_, rfl⟩
  obtain ⟨c, hc⟩ : ∃ c, 2 ^ t * (wd X 0 / 2 ^ t) = c := ⟨_, rfl⟩
  obtain ⟨d, hd⟩ : ∃ d, 2 ^ v * (wd X 1 / 2 ^ v) = d := ⟨_, rfl⟩
  have hp : 2 ^ (64 - u) ≤ 18446744073709551616 := pow64 (by omega)
  have e1 : ((n : Int) - 1) / 64 = 1 := by omega
  have e2 : (n : Int) - 64 = (m : Int) := by omega
  have e3 : min (m : Int) 32 = (u : Int) := by omega
  have e4 : (m : Int) - (u : Int) = (v : Int) := by omega
  have e5 : (64 : Int) - (m : Int) = (s : Int) := by omega
  have e6 : (32 : Int) + (u : Int) = (t : Int) := by omega
  have e7 := mask_and (wd X 1) v (wd_lt X 1) (by omega)
  have e8 := mask_and' (wd X 0) t (wd_lt X 0) (by omega)
  have e9 := low_and (wd X 0) (wd_lt X 0)
  rw [hd] at e7
  rw [hc] at e8
  rw [apx_low] at e9
  have e10 : IntKind.u64.wrap ((d : Int) * 2 ^ s) = (Z : Int) := by
    rw [hd, hZ] at ez
    rw [show ((2 : Int) ^ s) = ((2 ^ s : Nat) : Int) from by simp, ← Int.natCast_mul, ez, u64wrap]
    omega
  have e11 : ((c : Int) / 2 ^ u) = (Y : Int) := by
    rw [hc, hY] at ey
    rw [show ((2 : Int) ^ u) = ((2 ^ u : Nat) : Int) from by simp, ← Int.natCast_ediv, ey]
  have hlow : X % 4294967296 < 4294967296 := Nat.mod_lt _ (by decide)
  obtain ⟨j, hj⟩ : ∃ j, X % 4294967296 = j := ⟨_, rfl⟩
  rw [hj] at e9 hlow
  have e12 := or_join 32 j y hlow (by omega) (by omega)
  rw [hY] at e12
  obtain ⟨k, hk⟩ : ∃ k, j + Y = k := ⟨_, rfl⟩
  rw [hk] at e12
  have e13 := or_join (64 - u) k z (by omega) b2 (by omega)
  rw [hZ] at e13
  have HA : Shut (apx X n = k + Z) := shut (by unfold apx; rw [if_neg (by omega), hm, hj, ← es, hY, hZ]; omega)
  obtain ⟨r, hr⟩ : ∃ r, k + Z = r := ⟨_, rfl⟩
  rw [hr] at e13 HA
  have i0 : ¬ (n : Int) ≤ 64 := by omega
  have hdn : decide (n ≤ 64) = false := by simp; omega
  clear hn hn1 hX hm hu hv hs ht ey ez b1 b2 es hY hZ hc hd hp hlow hj hk hr
  go_enter Try.func23, Try.ntmps23
  go_wp2
  go_ret
  exact ⟨by rw [HA.out]; rfl, rfl⟩
set_option maxRecDepth 100000 in
set_option maxHeartbeats 1600000 in
theorem approx_2 (b o X n : Nat) (w : World) (hn : 128 < n) (hn1 : n ≤ 192) (hX : X < 2 ^ n) (h0 : w.cell? ⟨b, o, none⟩ = some (.int .u64 (wd X 0 : Nat))) (h1 : w.cell? ⟨b, o + 1, none⟩ = some (.int .u64 (wd X 1 : Nat))) (h2 : w.cell? ⟨b, o + 2, none⟩ = some (.int .u64 (wd X 2 : Nat))) :
    Calls Try.prog 23 #[.pointer (some ⟨b, o, none⟩), .int .i64 n] w fun e w' => e = .returned (.int .u64 (apx X n : Nat)) ∧ w = w' := by
  obtain ⟨m, hm⟩ : ∃ m : Nat, n = 128 + m := ⟨n - 128, by omega⟩
  obtain ⟨u, hu⟩ : ∃ u, u = min m 32 := ⟨_, rfl⟩
  obtain ⟨v, hv⟩ : ∃ v, v = m - u := ⟨_, rfl⟩
  obtain ⟨s, hs⟩ : ∃ s, s = 64 - m := ⟨_, rfl⟩
  obtain ⟨t, ht⟩ : ∃ t, t = 32 + u := ⟨_, rfl⟩
  obtain ⟨y, z, ey, ez, b1, b2, es⟩ := apx_parts (X := X) (i := 1) (m := m) (u := u) (v := v) (s := s) (t := t) (by rw [hm] at hX; exact hX) (by omega) hu hv hs ht
  obtain ⟨Y, hY⟩ : ∃ Y, 2 ^ 32 * y = Y := ⟨_, rfl⟩
  obtain ⟨Z, hZ⟩ : ∃ Z, 2 ^ (64 - u) * z = Z := ⟨_, rfl⟩
  obtain ⟨c, hc⟩ : ∃ c, 2 ^ t * (wd X 1 / 2 ^ t) = c := ⟨_, rfl⟩
  obtain ⟨d, hd⟩ : ∃ d, 2 ^ v * (wd X 2 / 2 ^ v) = d := ⟨_, rfl⟩
  have hp : 2 ^ (64 - u) ≤ 18446744073709551616 := pow64 (by omega)
  have e1 : ((n : Int) - 1) / 64 = 2 := by omega
  have e2 : (n : Int) - 128 = (m : Int) := by omega
  have e3 : min (m : Int) 32 = (u : Int) := by omega
  have e4 : (m : Int) - (u : Int) = (v : Int) := by omega
  have e5 : (64 : Int) - (m : Int) = (s : Int) := by omega
  have e6 : (32 : Int) + (u : Int) = (t : Int) := by omega
  have e7 := mask_and (wd X 2) v (wd_lt X 2) (by omega)
  have e8 := mask_and' (wd X 1) t (wd_lt X 1) (by omega)
  have e9 := low_and (wd X 0) (wd_lt X 0)
  rw [hd] at e7
  rw [hc] at e8
  rw [apx_low] at e9
  have e10 : IntKind.u64.wrap ((d : Int) * 2 ^ s) = (Z : Int) := by
    rw [hd, hZ] at ez
    rw [show ((2 : Int) ^ s) = ((2 ^ s : Nat) : Int) from by simp, ← Int.natCast_mul, ez, u64wrap]
    omega
  have e11 : ((c : Int) / 2 ^ u) = (Y : Int) := by
    rw [hc, hY] at ey
    rw [show ((2 : Int) ^ u) = ((2 ^ u : Nat) : Int) from by simp, ← Int.natCast_ediv, ey]
  have hlow : X % 4294967296 < 4294967296 := Nat.mod_lt _ (by decide)
  obtain ⟨j, hj⟩ : ∃ j, X % 4294967296 = j := ⟨_, rfl⟩
  rw [hj] at e9 hlow
  have e12 := or_join 32 j y hlow (by omega) (by omega)
  rw [hY] at e12
  obtain ⟨k, hk⟩ : ∃ k, j + Y = k := ⟨_, rfl⟩
  rw [hk] at e12
  have e13 := or_join (64 - u) k z (by omega) b2 (by omega)
  rw [hZ] at e13
  have HA : Shut (apx X n = k + Z) := shut (by unfold apx; rw [if_neg (by omega), hm, hj, ← es, hY, hZ]; omega)
  obtain ⟨r, hr⟩ : ∃ r, k + Z = r := ⟨_, rfl⟩
  rw [hr] at e13 HA
  have i0 : ¬ (n : Int) ≤ 64 := by omega
  have hdn : decide (n ≤ 64) = false := by simp; omega
  clear hn hn1 hX hm hu hv hs ht ey ez b1 b2 es hY hZ hc hd hp hlow hj hk hr
  go_enter Try.func23, Try.ntmps23
  go_wp2
  go_ret
  exact ⟨by rw [HA.out]; rfl, rfl⟩
set_option maxRecDepth 100000 in
set_option maxHeartbeats 1600000 in
theorem approx_3 (b o X n : Nat) (w : World) (hn : 192 < n) (hn1 : n ≤ 256) (hX : X < 2 ^ n) (h0 : w.cell? ⟨b, o, none⟩ = some (.int .u64 (wd X 0 : Nat))) (h2 : w.cell? ⟨b, o + 2, none⟩ = some (.int .u64 (wd X 2 : Nat))) (h3 : w.cell? ⟨b, o + 3, none⟩ = some (.int .u64 (wd X 3 : Nat))) :
    Calls Try.prog 23 #[.pointer (some ⟨b, o, none⟩), .int .i64 n] w fun e w' => e = .returned (.int .u64 (apx X n : Nat)) ∧ w = w' := by
  obtain ⟨m, hm⟩ : ∃ m : Nat, n = 192 + m := ⟨n - 192, by omega⟩
  obtain ⟨u, hu⟩ : ∃ u, u = min m 32 := ⟨_, rfl⟩
  obtain ⟨v, hv⟩ : ∃ v, v = m - u := ⟨_, rfl⟩
  obtain ⟨s, hs⟩ : ∃ s, s = 64 - m := ⟨_, rfl⟩
  obtain ⟨t, ht⟩ : ∃ t, t = 32 + u := ⟨_, rfl⟩
  obtain ⟨y, z, ey, ez, b1, b2, es⟩ := apx_parts (X := X) (i := 2) (m := m) (u := u) (v := v) (s := s) (t := t) (by rw [hm] at hX; exact hX) (by omega) hu hv hs ht
  obtain ⟨Y, hY⟩ : ∃ Y, 2 ^ 32 * y = Y := ⟨_, rfl⟩
  obtain ⟨Z, hZ⟩ : ∃ Z, 2 ^ (64 - u) * z = Z := ⟨_, rfl⟩
  obtain ⟨c, hc⟩ : ∃ c, 2 ^ t * (wd X 2 / 2 ^ t) = c := ⟨_, rfl⟩
  obtain ⟨d, hd⟩ : ∃ d, 2 ^ v * (wd X 3 / 2 ^ v) = d := ⟨_, rfl⟩
  have hp : 2 ^ (64 - u) ≤ 18446744073709551616 := pow64 (by omega)
  have e1 : ((n : Int) - 1) / 64 = 3 := by omega
  have e2 : (n : Int) - 192 = (m : Int) := by omega
  have e3 : min (m : Int) 32 = (u : Int) := by omega
  have e4 : (m : Int) - (u : Int) = (v : Int) := by omega
  have e5 : (64 : Int) - (m : Int) = (s : Int) := by omega
  have e6 : (32 : Int) + (u : Int) = (t : Int) := by omega
  have e7 := mask_and (wd X 3) v (wd_lt X 3) (by omega)
  have e8 := mask_and' (wd X 2) t (wd_lt X 2) (by omega)
  have e9 := low_and (wd X 0) (wd_lt X 0)
  rw [hd] at e7
  rw [hc] at e8
  rw [apx_low] at e9
  have e10 : IntKind.u64.wrap ((d : Int) * 2 ^ s) = (Z : Int) := by
    rw [hd, hZ] at ez
    rw [show ((2 : Int) ^ s) = ((2 ^ s : Nat) : Int) from by simp, ← Int.natCast_mul, ez, u64wrap]
    omega
  have e11 : ((c : Int) / 2 ^ u) = (Y : Int) := by
    rw [hc, hY] at ey
    rw [show ((2 : Int) ^ u) = ((2 ^ u : Nat) : Int) from by simp, ← Int.natCast_ediv, ey]
  have hlow : X % 4294967296 < 4294967296 := Nat.mod_lt _ (by decide)
  obtain ⟨j, hj⟩ : ∃ j, X % 4294967296 = j := ⟨_, rfl⟩
  rw [hj] at e9 hlow
  have e12 := or_join 32 j y hlow (by omega) (by omega)
  rw [hY] at e12
  obtain ⟨k, hk⟩ : ∃ k, j + Y = k := ⟨_, rfl⟩
  rw [hk] at e12
  have e13 := or_join (64 - u) k z (by omega) b2 (by omega)
  rw [hZ] at e13
  have HA : Shut (apx X n = k + Z) := shut (by unfold apx; rw [if_neg (by omega), hm, hj, ← es, hY, hZ]; omega)
  obtain ⟨r, hr⟩ : ∃ r, k + Z = r := ⟨_, rfl⟩
  rw [hr] at e13 HA
  have i0 : ¬ (n : Int) ≤ 64 := by omega
  have hdn : decide (n ≤ 64) = false := by simp; omega
  clear hn hn1 hX hm hu hv hs ht ey ez b1 b2 es hY hZ hc hd hp hlow hj hk hr
  go_enter Try.func23, Try.ntmps23
  go_wp2
  go_ret
  exact ⟨by rw [HA.out]; rfl, rfl⟩
set_option maxRecDepth 100000 in
set_option maxHeartbeats 1600000 in
theorem approx_4 (b o X n : Nat) (w : World) (hn : 256 < n) (hn1 : n ≤ 320) (hX : X < 2 ^ n) (h0 : w.cell? ⟨b, o, none⟩ = some (.int .u64 (wd X 0 : Nat))) (h3 : w.cell? ⟨b, o + 3, none⟩ = some (.int .u64 (wd X 3 : Nat))) (h4 : w.cell? ⟨b, o + 4, none⟩ = some (.int .u64 (wd X 4 : Nat))) :
    Calls Try.prog 23 #[.pointer (some ⟨b, o, none⟩), .int .i64 n] w fun e w' => e = .returned (.int .u64 (apx X n : Nat)) ∧ w = w' := by
  obtain ⟨m, hm⟩ : ∃ m : Nat, n = 256 + m := ⟨n - 256, by omega⟩
  obtain ⟨u, hu⟩ : ∃ u, u = min m 32 := ⟨_, rfl⟩
  obtain ⟨v, hv⟩ : ∃ v, v = m - u := ⟨_, rfl⟩
  obtain ⟨s, hs⟩ : ∃ s, s = 64 - m := ⟨_, rfl⟩
  obtain ⟨t, ht⟩ : ∃ t, t = 32 + u := ⟨_, rfl⟩
  obtain ⟨y, z, ey, ez, b1, b2, es⟩ := apx_parts (X := X) (i := 3) (m := m) (u := u) (v := v) (s := s) (t := t) (by rw [hm] at hX; exact hX) (by omega) hu hv hs ht
  obtain ⟨Y, hY⟩ : ∃ Y, 2 ^ 32 * y = Y := ⟨_, rfl⟩
  obtain ⟨Z, hZ⟩ : ∃ Z, 2 ^ (64 - u) * z = Z := ⟨_, rfl⟩
  obtain ⟨c, hc⟩ : ∃ c, 2 ^ t * (wd X 3 / 2 ^ t) = c := ⟨_, rfl⟩
  obtain ⟨d, hd⟩ : ∃ d, 2 ^ v * (wd X 4 / 2 ^ v) = d := ⟨_, rfl⟩
  have hp : 2 ^ (64 - u) ≤ 18446744073709551616 := pow64 (by omega)
  have e1 : ((n : Int) - 1) / 64 = 4 := by omega
  have e2 : (n : Int) - 256 = (m : Int) := by omega
  have e3 : min (m : Int) 32 = (u : Int) := by omega
  have e4 : (m : Int) - (u : Int) = (v : Int) := by omega
  have e5 : (64 : Int) - (m : Int) = (s : Int) := by omega
  have e6 : (32 : Int) + (u : Int) = (t : Int) := by omega
  have e7 := mask_and (wd X 4) v (wd_lt X 4) (by omega)
  have e8 := mask_and' (wd X 3) t (wd_lt X 3) (by omega)
  have e9 := low_and (wd X 0) (wd_lt X 0)
  rw [hd] at e7
  rw [hc] at e8
  rw [apx_low] at e9
  have e10 : IntKind.u64.wrap ((d : Int) * 2 ^ s) = (Z : Int) := by
    rw [hd, hZ] at ez
    rw [show ((2 : Int) ^ s) = ((2 ^ s : Nat) : Int) from by simp, ← Int.natCast_mul, ez, u64wrap]
    omega
  have e11 : ((c : Int) / 2 ^ u) = (Y : Int) := by
    rw [hc, hY] at ey
    rw [show ((2 : Int) ^ u) = ((2 ^ u : Nat) : Int) from by simp, ← Int.natCast_ediv, ey]
  have hlow : X % 4294967296 < 4294967296 := Nat.mod_lt _ (by decide)
  obtain ⟨j, hj⟩ : ∃ j, X % 4294967296 = j := ⟨_, rfl⟩
  rw [hj] at e9 hlow
  have e12 := or_join 32 j y hlow (by omega) (by omega)
  rw [hY] at e12
  obtain ⟨k, hk⟩ : ∃ k, j + Y = k := ⟨_, rfl⟩
  rw [hk] at e12
  have e13 := or_join (64 - u) k z (by omega) b2 (by omega)
  rw [hZ] at e13
  have HA : Shut (apx X n = k + Z) := shut (by unfold apx; rw [if_neg (by omega), hm, hj, ← es, hY, hZ]; omega)
  obtain ⟨r, hr⟩ : ∃ r, k + Z = r := ⟨_, rfl⟩
  rw [hr] at e13 HA
  have i0 : ¬ (n : Int) ≤ 64 := by omega
  have hdn : decide (n ≤ 64) = false := by simp; omega
  clear hn hn1 hX hm hu hv hs ht ey ez b1 b2 es hY hZ hc hd hp hlow hj hk hr
  go_enter Try.func23, Try.ntmps23
  go_wp2
  go_ret
  exact ⟨by rw [HA.out]; rfl, rfl⟩
set_option maxRecDepth 100000 in
set_option maxHeartbeats 1600000 in
theorem approx_5 (b o X n : Nat) (w : World) (hn : 320 < n) (hn1 : n ≤ 384) (hX : X < 2 ^ n) (h0 : w.cell? ⟨b, o, none⟩ = some (.int .u64 (wd X 0 : Nat))) (h4 : w.cell? ⟨b, o + 4, none⟩ = some (.int .u64 (wd X 4 : Nat))) (h5 : w.cell? ⟨b, o + 5, none⟩ = some (.int .u64 (wd X 5 : Nat))) :
    Calls Try.prog 23 #[.pointer (some ⟨b, o, none⟩), .int .i64 n] w fun e w' => e = .returned (.int .u64 (apx X n : Nat)) ∧ w = w' := by
  obtain ⟨m, hm⟩ : ∃ m : Nat, n = 320 + m := ⟨n - 320, by omega⟩
  obtain ⟨u, hu⟩ : ∃ u, u = min m 32 := ⟨_, rfl⟩
  obtain ⟨v, hv⟩ : ∃ v, v = m - u := ⟨_, rfl⟩
  obtain ⟨s, hs⟩ : ∃ s, s = 64 - m := ⟨_, rfl⟩
  obtain ⟨t, ht⟩ : ∃ t, t = 32 + u := ⟨_, rfl⟩
  obtain ⟨y, z, ey, ez, b1, b2, es⟩ := apx_parts (X := X) (i := 4) (m := m) (u := u) (v := v) (s := s) (t := t) (by rw [hm] at hX; exact hX) (by omega) hu hv hs ht
  obtain ⟨Y, hY⟩ : ∃ Y, 2 ^ 32 * y = Y := ⟨_, rfl⟩
  obtain ⟨Z, hZ⟩ : ∃ Z, 2 ^ (64 - u) * z = Z := ⟨_, rfl⟩
  obtain ⟨c, hc⟩ : ∃ c, 2 ^ t * (wd X 4 / 2 ^ t) = c := ⟨_, rfl⟩
  obtain ⟨d, hd⟩ : ∃ d, 2 ^ v * (wd X 5 / 2 ^ v) = d := ⟨_, rfl⟩
  have hp : 2 ^ (64 - u) ≤ 18446744073709551616 := pow64 (by omega)
  have e1 : ((n : Int) - 1) / 64 = 5 := by omega
  have e2 : (n : Int) - 320 = (m : Int) := by omega
  have e3 : min (m : Int) 32 = (u : Int) := by omega
  have e4 : (m : Int) - (u : Int) = (v : Int) := by omega
  have e5 : (64 : Int) - (m : Int) = (s : Int) := by omega
  have e6 : (32 : Int) + (u : Int) = (t : Int) := by omega
  have e7 := mask_and (wd X 5) v (wd_lt X 5) (by omega)
  have e8 := mask_and' (wd X 4) t (wd_lt X 4) (by omega)
  have e9 := low_and (wd X 0) (wd_lt X 0)
  rw [hd] at e7
  rw [hc] at e8
  rw [apx_low] at e9
  have e10 : IntKind.u64.wrap ((d : Int) * 2 ^ s) = (Z : Int) := by
    rw [hd, hZ] at ez
    rw [show ((2 : Int) ^ s) = ((2 ^ s : Nat) : Int) from by simp, ← Int.natCast_mul, ez, u64wrap]
    omega
  have e11 : ((c : Int) / 2 ^ u) = (Y : Int) := by
    rw [hc, hY] at ey
    rw [show ((2 : Int) ^ u) = ((2 ^ u : Nat) : Int) from by simp, ← Int.natCast_ediv, ey]
  have hlow : X % 4294967296 < 4294967296 := Nat.mod_lt _ (by decide)
  obtain ⟨j, hj⟩ : ∃ j, X % 4294967296 = j := ⟨_, rfl⟩
  rw [hj] at e9 hlow
  have e12 := or_join 32 j y hlow (by omega) (by omega)
  rw [hY] at e12
  obtain ⟨k, hk⟩ : ∃ k, j + Y = k := ⟨_, rfl⟩
  rw [hk] at e12
  have e13 := or_join (64 - u) k z (by omega) b2 (by omega)
  rw [hZ] at e13
  have HA : Shut (apx X n = k + Z) := shut (by unfold apx; rw [if_neg (by omega), hm, hj, ← es, hY, hZ]; omega)
  obtain ⟨r, hr⟩ : ∃ r, k + Z = r := ⟨_, rfl⟩
  rw [hr] at e13 HA
  have i0 : ¬ (n : Int) ≤ 64 := by omega
  have hdn : decide (n ≤ 64) = false := by simp; omega
  clear hn hn1 hX hm hu hv hs ht ey ez b1 b2 es hY hZ hc hd hp hlow hj hk hr
  go_enter Try.func23, Try.ntmps23
  go_wp2
  go_ret
  exact ⟨by rw [HA.out]; rfl, rfl⟩
end Go.Proofs.Ytfdmgelaiigocaa
