/- Contract of the field's choice between two elements, and the thin package's. -/
import Derived.Test.YtmkmakeoidmdhaaImpl
namespace Go.Proofs.Ytmkmakeoidmdhaa
open Go.RowKit Num

/-- What the choice is made by: all bits or none. -/
def chI (c : Int) : Int := if c = 0 then 0 else 18446744073709551615
theorem ch_bits (c : Int) (h0 : -9223372036854775808 ≤ c) (h1 : c < 9223372036854775808) : IntKind.u64.wrap (bits .or .i64 c (wrap64 (-c)) / 9223372036854775808) = chI c := by
  unfold chI
  by_cases hc : c = 0
  · subst hc
    rw [if_pos rfl]
    decide +kernel
  · rw [if_neg hc]
    have hs : bits .or .i64 c (wrap64 (-c)) < 0 ∧ -9223372036854775808 ≤ bits .or .i64 c (wrap64 (-c)) := by
      show IntKind.i64.wrap ((BitVec.ofInt 64 c ||| BitVec.ofInt 64 (wrap64 (-c))).toNat : Int) < 0 ∧ -9223372036854775808 ≤ IntKind.i64.wrap ((BitVec.ofInt 64 c ||| BitVec.ofInt 64 (wrap64 (-c))).toNat : Int)
      have e1 : (BitVec.ofInt 64 c).toNat = (c % 18446744073709551616).toNat := by rw [BitVec.toNat_ofInt]; rfl
      have e2 : (BitVec.ofInt 64 (wrap64 (-c))).toNat = (-c % 18446744073709551616).toNat := by
        rw [BitVec.toNat_ofInt]; unfold wrap64; congr 1; omega
      rw [BitVec.toNat_or, e1, e2]
      have a1 : (c % 18446744073709551616).toNat < 2 ^ 64 := by omega
      have a2 : (-c % 18446744073709551616).toNat < 2 ^ 64 := by omega
      have l : (c % 18446744073709551616).toNat ||| (-c % 18446744073709551616).toNat < 2 ^ 64 := Nat.or_lt_two_pow a1 a2
      have g1 : (c % 18446744073709551616).toNat ≤ (c % 18446744073709551616).toNat ||| (-c % 18446744073709551616).toNat := Nat.left_le_or
      have g2 : (-c % 18446744073709551616).toNat ≤ (c % 18446744073709551616).toNat ||| (-c % 18446744073709551616).toNat := Nat.right_le_or
      generalize (c % 18446744073709551616).toNat ||| (-c % 18446744073709551616).toNat = s at *
      simp [IntKind.wrap, IntKind.bits, IntKind.signed]
      split <;> omega
    obtain ⟨s1, s2⟩ := hs
    rw [u64wrap]
    omega

theorem ch_word {x y : Int} (hx : Wd x) (hy : Wd y) (c : Int) : bits .xor .u64 x (bits .and .u64 (chI c) (bits .xor .u64 x y)) = if c = 0 then x else y := by
  obtain ⟨h0, h1⟩ := hx
  obtain ⟨g0, g1⟩ := hy
  obtain ⟨x, rfl⟩ := Int.eq_ofNat_of_zero_le h0
  obtain ⟨y, rfl⟩ := Int.eq_ofNat_of_zero_le g0
  have lx : x ^^^ y < 2 ^ 64 := Nat.xor_lt_two_pow (by omega) (by omega)
  rw [u64_xor_nat x y (by omega) (by omega)]
  unfold chI
  by_cases hc : c = 0
  · rw [if_pos hc, if_pos hc, show (0 : Int) = ((0 : Nat) : Int) from rfl, u64_and_nat 0 _ (by omega) (by omega), Nat.zero_and, u64_xor_nat x 0 (by omega) (by omega), Nat.xor_zero]
  · rw [if_neg hc, if_neg hc, show (18446744073709551615 : Int) = ((18446744073709551615 : Nat) : Int) from rfl, u64_and_nat _ _ (by omega) (by omega)]
    rw [show 18446744073709551615 &&& (x ^^^ y) = x ^^^ y from by
      rw [Nat.and_comm, show 18446744073709551615 = 2 ^ 64 - 1 from rfl, Nat.and_two_pow_sub_one_eq_mod, Nat.mod_eq_of_lt lx]]
    rw [u64_xor_nat x _ (by omega) (by omega), ← Nat.xor_assoc, Nat.xor_self, Nat.zero_xor]

set_option maxRecDepth 100000 in
set_option maxHeartbeats 6400000 in
theorem esel (bz oz bx ox b_y o_y X Y R : Nat) (c z0 z1 z2 z3 z4 z5 : Int) (w : World) (c0 : -9223372036854775808 ≤ c) (c1 : c < 9223372036854775808) (hR : R = if c = 0 then X else Y) (hzx : bz ≠ bx ∨ oz = ox ∨ oz + 6 ≤ ox ∨ ox + 6 ≤ oz) (hzy : bz ≠ b_y ∨ oz = o_y ∨ oz + 6 ≤ o_y ∨ o_y + 6 ≤ oz)
    (hx0 : w.cell? ⟨bx, ox, none⟩ = some (.int .u64 (wd X 0 : Nat))) (hx1 : w.cell? ⟨bx, ox + 1, none⟩ = some (.int .u64 (wd X 1 : Nat))) (hx2 : w.cell? ⟨bx, ox + 2, none⟩ = some (.int .u64 (wd X 2 : Nat))) (hx3 : w.cell? ⟨bx, ox + 3, none⟩ = some (.int .u64 (wd X 3 : Nat))) (hx4 : w.cell? ⟨bx, ox + 4, none⟩ = some (.int .u64 (wd X 4 : Nat))) (hx5 : w.cell? ⟨bx, ox + 5, none⟩ = some (.int .u64 (wd X 5 : Nat)))
    (hy0 : w.cell? ⟨b_y, o_y, none⟩ = some (.int .u64 (wd Y 0 : Nat))) (hy1 : w.cell? ⟨b_y, o_y + 1, none⟩ = some (.int .u64 (wd Y 1 : Nat))) (hy2 : w.cell? ⟨b_y, o_y + 2, none⟩ = some (.int .u64 (wd Y 2 : Nat))) (hy3 : w.cell? ⟨b_y, o_y + 3, none⟩ = some (.int .u64 (wd Y 3 : Nat))) (hy4 : w.cell? ⟨b_y, o_y + 4, none⟩ = some (.int .u64 (wd Y 4 : Nat))) (hy5 : w.cell? ⟨b_y, o_y + 5, none⟩ = some (.int .u64 (wd Y 5 : Nat)))
    (hz0 : w.cell? ⟨bz, oz, none⟩ = some (.int .u64 z0)) (hz1 : w.cell? ⟨bz, oz + 1, none⟩ = some (.int .u64 z1)) (hz2 : w.cell? ⟨bz, oz + 2, none⟩ = some (.int .u64 z2)) (hz3 : w.cell? ⟨bz, oz + 3, none⟩ = some (.int .u64 z3)) (hz4 : w.cell? ⟨bz, oz + 4, none⟩ = some (.int .u64 z4)) (hz5 : w.cell? ⟨bz, oz + 5, none⟩ = some (.int .u64 z5))
    (fz0 : w.frozen? ⟨bz, oz, none⟩ = false) (fz1 : w.frozen? ⟨bz, oz + 1, none⟩ = false) (fz2 : w.frozen? ⟨bz, oz + 2, none⟩ = false) (fz3 : w.frozen? ⟨bz, oz + 3, none⟩ = false) (fz4 : w.frozen? ⟨bz, oz + 4, none⟩ = false) (fz5 : w.frozen? ⟨bz, oz + 5, none⟩ = false) :
    Calls Try.prog 26 #[.pointer (some ⟨bz, oz, none⟩), .int .i64 c, .pointer (some ⟨bx, ox, none⟩), .pointer (some ⟨b_y, o_y, none⟩)] w fun e w' => e = .returned (.pointer (some ⟨bz, oz, none⟩)) ∧
      ∃ m, w' = ((((((w.setCell ⟨bz, oz, none⟩ (.int .u64 (wd R 0 : Nat))).setCell ⟨bz, oz + 1, none⟩ (.int .u64 (wd R 1 : Nat))).setCell ⟨bz, oz + 2, none⟩ (.int .u64 (wd R 2 : Nat))).setCell ⟨bz, oz + 3, none⟩ (.int .u64 (wd R 3 : Nat))).setCell ⟨bz, oz + 4, none⟩ (.int .u64 (wd R 4 : Nat))).setCell ⟨bz, oz + 5, none⟩ (.int .u64 (wd R 5 : Nat))).drewN m := by
  have r0 : bits .xor .u64 (wd X 0 : Nat) (bits .and .u64 (chI c) (bits .xor .u64 (wd X 0 : Nat) (wd Y 0 : Nat))) = (wd R 0 : Nat) := by rw [ch_word (wd_nat _ _) (wd_nat _ _), hR]; split <;> rfl
  have r1 : bits .xor .u64 (wd X 1 : Nat) (bits .and .u64 (chI c) (bits .xor .u64 (wd X 1 : Nat) (wd Y 1 : Nat))) = (wd R 1 : Nat) := by rw [ch_word (wd_nat _ _) (wd_nat _ _), hR]; split <;> rfl
  have r2 : bits .xor .u64 (wd X 2 : Nat) (bits .and .u64 (chI c) (bits .xor .u64 (wd X 2 : Nat) (wd Y 2 : Nat))) = (wd R 2 : Nat) := by rw [ch_word (wd_nat _ _) (wd_nat _ _), hR]; split <;> rfl
  have r3 : bits .xor .u64 (wd X 3 : Nat) (bits .and .u64 (chI c) (bits .xor .u64 (wd X 3 : Nat) (wd Y 3 : Nat))) = (wd R 3 : Nat) := by rw [ch_word (wd_nat _ _) (wd_nat _ _), hR]; split <;> rfl
  have r4 : bits .xor .u64 (wd X 4 : Nat) (bits .and .u64 (chI c) (bits .xor .u64 (wd X 4 : Nat) (wd Y 4 : Nat))) = (wd R 4 : Nat) := by rw [ch_word (wd_nat _ _) (wd_nat _ _), hR]; split <;> rfl
  have r5 : bits .xor .u64 (wd X 5 : Nat) (bits .and .u64 (chI c) (bits .xor .u64 (wd X 5 : Nat) (wd Y 5 : Nat))) = (wd R 5 : Nat) := by rw [ch_word (wd_nat _ _) (wd_nat _ _), hR]; split <;> rfl
  have hC := ch_bits c c0 c1
  have cx0 : w.cell? ⟨bx, ox, none⟩ = some (.int .u64 (wd X 0 : Nat)) := hx0
  have cy0 : w.cell? ⟨b_y, o_y, none⟩ = some (.int .u64 (wd Y 0 : Nat)) := hy0
  have cz0 : w.cell? ⟨bz, oz, none⟩ = some (.int .u64 z0) := hz0
  have cx1 : (w.setCell ⟨bz, oz, none⟩ (.int .u64 (wd R 0 : Nat))).cell? ⟨bx, ox + 1, none⟩ = some (.int .u64 (wd X 1 : Nat)) := keep (hx1) (by omega)
  have cy1 : (w.setCell ⟨bz, oz, none⟩ (.int .u64 (wd R 0 : Nat))).cell? ⟨b_y, o_y + 1, none⟩ = some (.int .u64 (wd Y 1 : Nat)) := keep (hy1) (by omega)
  have cz1 : (w.setCell ⟨bz, oz, none⟩ (.int .u64 (wd R 0 : Nat))).cell? ⟨bz, oz + 1, none⟩ = some (.int .u64 z1) := keep (hz1) (by omega)
  have cx2 : ((w.setCell ⟨bz, oz, none⟩ (.int .u64 (wd R 0 : Nat))).setCell ⟨bz, oz + 1, none⟩ (.int .u64 (wd R 1 : Nat))).cell? ⟨bx, ox + 2, none⟩ = some (.int .u64 (wd X 2 : Nat)) := keep (keep (hx2) (by omega)) (by omega)
  have cy2 : ((w.setCell ⟨bz, oz, none⟩ (.int .u64 (wd R 0 : Nat))).setCell ⟨bz, oz + 1, none⟩ (.int .u64 (wd R 1 : Nat))).cell? ⟨b_y, o_y + 2, none⟩ = some (.int .u64 (wd Y 2 : Nat)) := keep (keep (hy2) (by omega)) (by omega)
  have cz2 : ((w.setCell ⟨bz, oz, none⟩ (.int .u64 (wd R 0 : Nat))).setCell ⟨bz, oz + 1, none⟩ (.int .u64 (wd R 1 : Nat))).cell? ⟨bz, oz + 2, none⟩ = some (.int .u64 z2) := keep (keep (hz2) (by omega)) (by omega)
  have cx3 : (((w.setCell ⟨bz, oz, none⟩ (.int .u64 (wd R 0 : Nat))).setCell ⟨bz, oz + 1, none⟩ (.int .u64 (wd R 1 : Nat))).setCell ⟨bz, oz + 2, none⟩ (.int .u64 (wd R 2 : Nat))).cell? ⟨bx, ox + 3, none⟩ = some (.int .u64 (wd X 3 : Nat)) := keep (keep (keep (hx3) (by omega)) (by omega)) (by omega)
  have cy3 : (((w.setCell ⟨bz, oz, none⟩ (.int .u64 (wd R 0 : Nat))).setCell ⟨bz, oz + 1, none⟩ (.int .u64 (wd R 1 : Nat))).setCell ⟨bz, oz + 2, none⟩ (.int .u64 (wd R 2 : Nat))).cell? ⟨b_y, o_y + 3, none⟩ = some (.int .u64 (wd Y 3 : Nat)) := keep (keep (keep (hy3) (by omega)) (by omega)) (by omega)
  have cz3 : (((w.setCell ⟨bz, oz, none⟩ (.int .u64 (wd R 0 : Nat))).setCell ⟨bz, oz + 1, none⟩ (.int .u64 (wd R 1 : Nat))).setCell ⟨bz, oz + 2, none⟩ (.int .u64 (wd R 2 : Nat))).cell? ⟨bz, oz + 3, none⟩ = some (.int .u64 z3) := keep (keep (keep (hz3) (by omega)) (by omega)) (by omega)
  have cx4 : ((((w.setCell ⟨bz, oz, none⟩ (.int .u64 (wd R 0 : Nat))).setCell ⟨bz, oz + 1, none⟩ (.int .u64 (wd R 1 : Nat))).setCell ⟨bz, oz + 2, none⟩ (.int .u64 (wd R 2 : Nat))).setCell ⟨bz, oz + 3, none⟩ (.int .u64 (wd R 3 : Nat))).cell? ⟨bx, ox + 4, none⟩ = some (.int .u64 (wd X 4 : Nat)) := keep (keep (keep (keep (hx4) (by omega)) (by omega)) (by omega)) (by omega)
  have cy4 : ((((w.setCell ⟨bz, oz, none⟩ (.int .u64 (wd R 0 : Nat))).setCell ⟨bz, oz + 1, none⟩ (.int .u64 (wd R 1 : Nat))).setCell ⟨bz, oz + 2, none⟩ (.int .u64 (wd R 2 : Nat))).setCell ⟨bz, oz + 3, none⟩ (.int .u64 (wd R 3 : Nat))).cell? ⟨b_y, o_y + 4, none⟩ = some (.int .u64 (wd Y 4 : Nat)) := keep (keep (keep (keep (hy4) (by omega)) (by omega)) (by omega)) (by omega)
  have cz4 : ((((w.setCell ⟨bz, oz, none⟩ (.int .u64 (wd R 0 : Nat))).setCell ⟨bz, oz + 1, none⟩ (.int .u64 (wd R 1 : Nat))).setCell ⟨bz, oz + 2, none⟩ (.int .u64 (wd R 2 : Nat))).setCell ⟨bz, oz + 3, none⟩ (.int .u64 (wd R 3 : Nat))).cell? ⟨bz, oz + 4, none⟩ = some (.int .u64 z4) := keep (keep (keep (keep (hz4) (by omega)) (by omega)) (by omega)) (by omega)
  have cx5 : (((((w.setCell ⟨bz, oz, none⟩ (.int .u64 (wd R 0 : Nat))).setCell ⟨bz, oz + 1, none⟩ (.int .u64 (wd R 1 : Nat))).setCell ⟨bz, oz + 2, none⟩ (.int .u64 (wd R 2 : Nat))).setCell ⟨bz, oz + 3, none⟩ (.int .u64 (wd R 3 : Nat))).setCell ⟨bz, oz + 4, none⟩ (.int .u64 (wd R 4 : Nat))).cell? ⟨bx, ox + 5, none⟩ = some (.int .u64 (wd X 5 : Nat)) := keep (keep (keep (keep (keep (hx5) (by omega)) (by omega)) (by omega)) (by omega)) (by omega)
  have cy5 : (((((w.setCell ⟨bz, oz, none⟩ (.int .u64 (wd R 0 : Nat))).setCell ⟨bz, oz + 1, none⟩ (.int .u64 (wd R 1 : Nat))).setCell ⟨bz, oz + 2, none⟩ (.int .u64 (wd R 2 : Nat))).setCell ⟨bz, oz + 3, none⟩ (.int .u64 (wd R 3 : Nat))).setCell ⟨bz, oz + 4, none⟩ (.int .u64 (wd R 4 : Nat))).cell? ⟨b_y, o_y + 5, none⟩ = some (.int .u64 (wd Y 5 : Nat)) := keep (keep (keep (keep (keep (hy5) (by omega)) (by omega)) (by omega)) (by omega)) (by omega)
  have cz5 : (((((w.setCell ⟨bz, oz, none⟩ (.int .u64 (wd R 0 : Nat))).setCell ⟨bz, oz + 1, none⟩ (.int .u64 (wd R 1 : Nat))).setCell ⟨bz, oz + 2, none⟩ (.int .u64 (wd R 2 : Nat))).setCell ⟨bz, oz + 3, none⟩ (.int .u64 (wd R 3 : Nat))).setCell ⟨bz, oz + 4, none⟩ (.int .u64 (wd R 4 : Nat))).cell? ⟨bz, oz + 5, none⟩ = some (.int .u64 z5) := keep (keep (keep (keep (keep (hz5) (by omega)) (by omega)) (by omega)) (by omega)) (by omega)
  have Hr0 := shut r0; have Hcx0 := shut cx0; have Hcy0 := shut cy0; have Hcz0 := shut cz0; have Hfz0 := shut fz0; clear r0 cx0 cy0 cz0 fz0
  have Hr1 := shut r1; have Hcx1 := shut cx1; have Hcy1 := shut cy1; have Hcz1 := shut cz1; have Hfz1 := shut fz1; clear r1 cx1 cy1 cz1 fz1
  have Hr2 := shut r2; have Hcx2 := shut cx2; have Hcy2 := shut cy2; have Hcz2 := shut cz2; have Hfz2 := shut fz2; clear r2 cx2 cy2 cz2 fz2
  have Hr3 := shut r3; have Hcx3 := shut cx3; have Hcy3 := shut cy3; have Hcz3 := shut cz3; have Hfz3 := shut fz3; clear r3 cx3 cy3 cz3 fz3
  have Hr4 := shut r4; have Hcx4 := shut cx4; have Hcy4 := shut cy4; have Hcz4 := shut cz4; have Hfz4 := shut fz4; clear r4 cx4 cy4 cz4 fz4
  have Hr5 := shut r5; have Hcx5 := shut cx5; have Hcy5 := shut cy5; have Hcz5 := shut cz5; have Hfz5 := shut fz5; clear r5 cx5 cy5 cz5 fz5
  have HhR := shut hR; clear hR
  clear hx0 hy0 hz0 hx1 hy1 hz1 hx2 hy2 hz2 hx3 hy3 hz3 hx4 hy4 hz4 hx5 hy5 hz5
  go_enter Try.func26, Try.ntmps26
  go_wp2_with fail
  clear hC
  generalize chI c = C at *
  have o0 := Hcx0.out
  have o1 := Hcy0.out
  have o2 := Hcz0.out
  have o3 := Hr0.out
  have o4 := Hfz0.out
  go_region
  clear o0 o1 o2 o3 o4
  go_wp2_with fail
  have o0 := Hcx1.out
  have o1 := Hcy1.out
  have o2 := Hcz1.out
  have o3 := Hr1.out
  have o4 := Hfz1.out
  go_region
  clear o0 o1 o2 o3 o4
  go_wp2_with fail
  have o0 := Hcx2.out
  have o1 := Hcy2.out
  have o2 := Hcz2.out
  have o3 := Hr2.out
  have o4 := Hfz2.out
  go_region
  clear o0 o1 o2 o3 o4
  go_wp2_with fail
  have o0 := Hcx3.out
  have o1 := Hcy3.out
  have o2 := Hcz3.out
  have o3 := Hr3.out
  have o4 := Hfz3.out
  go_region
  clear o0 o1 o2 o3 o4
  go_wp2_with fail
  have o0 := Hcx4.out
  have o1 := Hcy4.out
  have o2 := Hcz4.out
  have o3 := Hr4.out
  have o4 := Hfz4.out
  go_region
  clear o0 o1 o2 o3 o4
  go_wp2_with fail
  have o0 := Hcx5.out
  have o1 := Hcy5.out
  have o2 := Hcz5.out
  have o3 := Hr5.out
  have o4 := Hfz5.out
  go_region
  clear o0 o1 o2 o3 o4
  go_wp2_with fail
  go_ret
  exact ⟨rfl, 6, by with_reducible exact drewn_6 _⟩

set_option maxRecDepth 100000 in
set_option maxHeartbeats 3200000 in
theorem impl_select (X Y R : Nat) (c : Int) (c0 : -9223372036854775808 ≤ c) (c1 : c < 9223372036854775808) (hR : R = if c = 0 then X else Y) (w : World) : Calls Try.prog 13 #[.int .i64 c, .agg #[.int .u64 (wd (X) 0 : Nat), .int .u64 (wd (X) 1 : Nat), .int .u64 (wd (X) 2 : Nat), .int .u64 (wd (X) 3 : Nat), .int .u64 (wd (X) 4 : Nat), .int .u64 (wd (X) 5 : Nat)], .agg #[.int .u64 (wd (Y) 0 : Nat), .int .u64 (wd (Y) 1 : Nat), .int .u64 (wd (Y) 2 : Nat), .int .u64 (wd (Y) 3 : Nat), .int .u64 (wd (Y) 4 : Nat), .int .u64 (wd (Y) 5 : Nat)]] w (Keeps w (.agg #[.int .u64 (wd (R) 0 : Nat), .int .u64 (wd (R) 1 : Nat), .int .u64 (wd (R) 2 : Nat), .int .u64 (wd (R) 3 : Nat), .int .u64 (wd (R) 4 : Nat), .int .u64 (wd (R) 5 : Nat)])) := by
  have HR := shut hR; clear hR
  go_enter Try.func13, Try.ntmps13
  go_wp2_with fail
  go_region
  all_goals
    go_wp2_with fail
    refine (esel _ _ _ _ _ _ X Y R c 0 0 0 0 0 0 _ c0 c1 HR.out (by omega) (by omega) (by simp [go_sem]) (by simp [go_sem]) (by simp [go_sem]) (by simp [go_sem]) (by simp [go_sem]) (by simp [go_sem]) (by simp [go_sem]) (by simp [go_sem]) (by simp [go_sem]) (by simp [go_sem]) (by simp [go_sem]) (by simp [go_sem]) (by simp [go_sem]) (by simp [go_sem]) (by simp [go_sem]) (by simp [go_sem]) (by simp [go_sem]) (by simp [go_sem]) (by simp [go_sem]) (by simp [go_sem]) (by simp [go_sem]) (by simp [go_sem]) (by simp [go_sem]) (by simp [go_sem])).mono ?_
    rintro e w' ⟨rfl, m, rfl⟩
    go_wp2_with fail
    refine bodyPost_ret (v := .agg #[.int .u64 (wd (R) 0 : Nat), .int .u64 (wd (R) 1 : Nat), .int .u64 (wd (R) 2 : Nat), .int .u64 (wd (R) 3 : Nat), .int .u64 (wd (R) 4 : Nat), .int .u64 (wd (R) 5 : Nat)]) ?_ rfl ?_
    · simp [results, Try.results13, go_sem]
    · refine And.intro rfl ?_
      repeat (first | with_reducible exact Below.refl _ _ | with_reducible refine below_drawn ?_ _ | with_reducible refine Below.drew ?_ | with_reducible refine Below.setCell ?_ (by simp <;> omega) _ | with_reducible refine Below.alloc ?_ (by simp <;> omega) _)

end Go.Proofs.Ytmkmakeoidmdhaa
