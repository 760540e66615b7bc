/- How many bits a number has: the library's count of a word's bits, laid at this program; the field's count; the reference's count. -/
import Derived.Test.YtfdmgelaiigocaaImpl
import Derived.Shelf.Strconv.Itoa0
import Derived.Lib.ItoaNum
namespace Go.Proofs.Ytfdmgelaiigocaa
open Go.RowKit Num

def len_ren : Go.Shelf.Ren := ⟨fun | 129 => 29 | n => n, fun | 53 => 22 | 3 => 3 | 4 => 4 | 46 => 34 | 5 => 5 | 9 => 9 | n => n, fun | n => n⟩
theorem len_lays : Go.Proofs.Lays.n129 Try.prog len_ren := {
  mixed := by kernel_rfl
  f129 := Try.func29.trans (congrArg some (by kernel_rfl))
  t3 := Try.underlying3
  a3 := Try.isAgg3
  z3 := Try.sizeOf3
  v3 := Try.zeroValue3
  t4 := Try.underlying4
  a4 := Try.isAgg4
  z4 := Try.sizeOf4
  v4 := Try.zeroValue4
  t5 := Try.underlying5
  a5 := Try.isAgg5
  z5 := Try.sizeOf5
  v5 := Try.zeroValue5
  t9 := Try.underlying9
  a9 := Try.isAgg9
  z9 := Try.sizeOf9
  v9 := Try.zeroValue9
  t46 := Try.underlying34
  a46 := Try.isAgg34
  z46 := Try.sizeOf34
  v46 := Try.zeroValue34
  t53 := Try.underlying22
  a53 := Try.isAgg22
  z53 := Try.sizeOf22
  v53 := Try.zeroValue22 }

theorem bit_test (x k : Nat) : (((x : Int) / 2 ^ k).tmod 2 == 1) = decide (x / 2 ^ k % 2 = 1) := by
  have e : ((x : Int) / 2 ^ k).tmod 2 = ((x / 2 ^ k % 2 : Nat) : Int) := by
    rw [show ((2 : Int) ^ k) = ((2 ^ k : Nat) : Int) from by simp, ← Int.natCast_ediv, Int.tmod_eq_emod_of_nonneg (Int.natCast_nonneg _)]
    generalize x / 2 ^ k = q
    omega
  rw [e, Bool.eq_iff_iff]
  simp only [beq_iff_eq, decide_eq_true_eq]
  omega

/-- How many bits a number has. -/
def blen (X : Nat) : Nat := if X = 0 then 0 else Nat.log2 X + 1
theorem blen_zero : blen 0 = 0 := rfl
theorem blen_eq {X k : Nat} (h : X < 2 ^ k) (h0 : k = 0 ∨ 2 ^ (k - 1) ≤ X) : blen X = k := by
  unfold blen
  by_cases hx : X = 0
  · subst hx
    rw [if_pos rfl]
    rcases h0 with h0 | h0
    · exact h0.symm
    · exact absurd h0 (by have := Nat.pow_pos (n := k - 1) (show 0 < 2 by decide); omega)
  · rw [if_neg hx]
    rcases h0 with h0 | h0
    · subst h0; omega
    · have h1 := (Nat.le_log2 hx).2 h0
      have h2 := (Nat.log2_lt hx).2 h
      have : k ≠ 0 := by intro e; subst e; omega
      omega
theorem blen_word {X x : Nat} (j : Nat) (h : X / 18446744073709551616 ^ j = x) (h0 : x ≠ 0) (hx : x < 18446744073709551616) : blen X = 64 * j + Lib.bitLen x := by
  obtain ⟨h1, h2, h3⟩ := Lib.bitLenAux_bounds 64 x hx h0
  change 1 ≤ Lib.bitLen x at h1
  change 2 ^ (Lib.bitLen x - 1) ≤ x at h2
  change x < 2 ^ Lib.bitLen x at h3
  have hp : (18446744073709551616 : Nat) ^ j = 2 ^ (64 * j) := by rw [Nat.pow_mul]
  have hq := Nat.pow_pos (n := 64 * j) (show 0 < 2 by decide)
  rw [hp] at h
  generalize Lib.bitLen x = k at *
  apply blen_eq
  · rw [Nat.pow_add, Nat.mul_comm, ← Nat.div_lt_iff_lt_mul hq, h]
    exact h3
  · right
    rw [show 64 * j + k - 1 = 64 * j + (k - 1) from by omega, Nat.pow_add]
    have := Nat.mul_le_mul_left (2 ^ (64 * j)) h2
    have h4 := Nat.div_mul_le_self X (2 ^ (64 * j))
    rw [h, Nat.mul_comm] at h4
    omega
theorem blen_le {X k : Nat} (h : X < 2 ^ k) : blen X ≤ k := by
  unfold blen
  split
  · omega
  · have := (Nat.log2_lt (by assumption)).2 h
    omega

theorem len64_any (x : Nat) (w : World) (h : x < 18446744073709551616) : Calls Try.prog 29 #[.int .u64 x] w fun e w' => e = .returned (.int .i64 (Lib.bitLen x)) ∧ w = w' := by
  have h1 : Calls Try.prog 29 #[.int .u64 x] w fun e w' => e = .returned (.int .i64 (Lib.bitLen (x : Int).toNat)) ∧ w' = w := Any.bits_Len64 len_lays x w (by omega) (by omega)
  rw [Int.toNat_natCast] at h1
  exact h1.mono fun _ _ h => ⟨h.1, h.2.symm⟩
theorem bitLen_le (x : Nat) (h : x < 18446744073709551616) : Lib.bitLen x ≤ 64 := Lib.bitLen_le x 64 (by omega) h

set_option maxRecDepth 100000 in
set_option maxHeartbeats 1600000 in
theorem ebitlen (b o X : Nat) (w : World) (hX : X < 39402006196394479212279040100143613805079739270465446667948293404245721771497210611414266254884915640806627990306816) (h0 : w.cell? ⟨b, o, none⟩ = some (.int .u64 (wd X 0 : Nat))) (h1 : w.cell? ⟨b, o + 1, none⟩ = some (.int .u64 (wd X 1 : Nat))) (h2 : w.cell? ⟨b, o + 2, none⟩ = some (.int .u64 (wd X 2 : Nat))) (h3 : w.cell? ⟨b, o + 3, none⟩ = some (.int .u64 (wd X 3 : Nat))) (h4 : w.cell? ⟨b, o + 4, none⟩ = some (.int .u64 (wd X 4 : Nat))) (h5 : w.cell? ⟨b, o + 5, none⟩ = some (.int .u64 (wd X 5 : Nat))) :
    Calls Try.prog 22 #[.pointer (some ⟨b, o, none⟩)] w fun e w' => e = .returned (.int .i64 (blen X : Nat)) ∧ w = w' := by
  have l0 := wd_lt X 0
  have l1 := wd_lt X 1
  have l2 := wd_lt X 2
  have l3 := wd_lt X 3
  have l4 := wd_lt X 4
  have l5 := wd_lt X 5
  have HhX := shut hX; clear hX
  by_cases q5 : wd X 5 = 0
  · have t5 : ((wd X 5 : Nat) != (0 : Int)) = false := by simp [q5]
    by_cases q4 : wd X 4 = 0
    · have t4 : ((wd X 4 : Nat) != (0 : Int)) = false := by simp [q4]
      by_cases q3 : wd X 3 = 0
      · have t3 : ((wd X 3 : Nat) != (0 : Int)) = false := by simp [q3]
        by_cases q2 : wd X 2 = 0
        · have t2 : ((wd X 2 : Nat) != (0 : Int)) = false := by simp [q2]
          by_cases q1 : wd X 1 = 0
          · have t1 : ((wd X 1 : Nat) != (0 : Int)) = false := by simp [q1]
            by_cases c0 : X = 0
            · have HE : Shut (blen X = 0 + Lib.bitLen (wd X 0)) := shut (by rw [c0]; rfl)
              have hb := bitLen_le (wd X 0) l0
              have C := shut (fun w => len64_any (wd X 0) w l0)
              clear c0 l0 l1 l2 l3 l4 l5 q1 q2 q3 q4 q5
              go_enter Try.func22, Try.ntmps22
              go_wp2_with fail
              refine (C.out _).mono ?_
              rintro e w' ⟨rfl, rfl⟩
              go_wp2_with fail
              go_ret
              exact ⟨by rw [HE.out]; simp, rfl⟩
            have HE : Shut (blen X = 0 + Lib.bitLen (wd X 0)) := shut (blen_word 0 (by have := HhX.out; unfold wd at *; omega) (by have := HhX.out; unfold wd at *; omega) l0)
            have hb := bitLen_le (wd X 0) l0
            have C := shut (fun w => len64_any (wd X 0) w l0)
            clear c0 l0 l1 l2 l3 l4 l5 q1 q2 q3 q4 q5
            go_enter Try.func22, Try.ntmps22
            go_wp2_with fail
            refine (C.out _).mono ?_
            rintro e w' ⟨rfl, rfl⟩
            go_wp2_with fail
            go_ret
            exact ⟨by rw [HE.out]; simp, rfl⟩
          · have t1 : ((wd X 1 : Nat) != (0 : Int)) = true := by simp; omega
            have HE : Shut (blen X = 64 + Lib.bitLen (wd X 1)) := shut (blen_word 1 (by have := HhX.out; unfold wd at *; omega) q1 l1)
            have hb := bitLen_le (wd X 1) l1
            have C := shut (fun w => len64_any (wd X 1) w l1)
            clear q1 l0 l1 l2 l3 l4 l5 q2 q3 q4 q5
            go_enter Try.func22, Try.ntmps22
            go_wp2_with fail
            refine (C.out _).mono ?_
            rintro e w' ⟨rfl, rfl⟩
            go_wp2_with fail
            go_ret
            exact ⟨by rw [HE.out]; simp, rfl⟩
        · have t2 : ((wd X 2 : Nat) != (0 : Int)) = true := by simp; omega
          have HE : Shut (blen X = 128 + Lib.bitLen (wd X 2)) := shut (blen_word 2 (by have := HhX.out; unfold wd at *; omega) q2 l2)
          have hb := bitLen_le (wd X 2) l2
          have C := shut (fun w => len64_any (wd X 2) w l2)
          clear q2 l0 l1 l2 l3 l4 l5 q3 q4 q5
          go_enter Try.func22, Try.ntmps22
          go_wp2_with fail
          refine (C.out _).mono ?_
          rintro e w' ⟨rfl, rfl⟩
          go_wp2_with fail
          go_ret
          exact ⟨by rw [HE.out]; simp, rfl⟩
      · have t3 : ((wd X 3 : Nat) != (0 : Int)) = true := by simp; omega
        have HE : Shut (blen X = 192 + Lib.bitLen (wd X 3)) := shut (blen_word 3 (by have := HhX.out; unfold wd at *; omega) q3 l3)
        have hb := bitLen_le (wd X 3) l3
        have C := shut (fun w => len64_any (wd X 3) w l3)
        clear q3 l0 l1 l2 l3 l4 l5 q4 q5
        go_enter Try.func22, Try.ntmps22
        go_wp2_with fail
        refine (C.out _).mono ?_
        rintro e w' ⟨rfl, rfl⟩
        go_wp2_with fail
        go_ret
        exact ⟨by rw [HE.out]; simp, rfl⟩
    · have t4 : ((wd X 4 : Nat) != (0 : Int)) = true := by simp; omega
      have HE : Shut (blen X = 256 + Lib.bitLen (wd X 4)) := shut (blen_word 4 (by have := HhX.out; unfold wd at *; omega) q4 l4)
      have hb := bitLen_le (wd X 4) l4
      have C := shut (fun w => len64_any (wd X 4) w l4)
      clear q4 l0 l1 l2 l3 l4 l5 q5
      go_enter Try.func22, Try.ntmps22
      go_wp2_with fail
      refine (C.out _).mono ?_
      rintro e w' ⟨rfl, rfl⟩
      go_wp2_with fail
      go_ret
      exact ⟨by rw [HE.out]; simp, rfl⟩
  · have t5 : ((wd X 5 : Nat) != (0 : Int)) = true := by simp; omega
    have HE : Shut (blen X = 320 + Lib.bitLen (wd X 5)) := shut (blen_word 5 (by have := HhX.out; unfold wd at *; omega) q5 l5)
    have hb := bitLen_le (wd X 5) l5
    have C := shut (fun w => len64_any (wd X 5) w l5)
    clear q5 l0 l1 l2 l3 l4 l5
    go_enter Try.func22, Try.ntmps22
    go_wp2_with fail
    refine (C.out _).mono ?_
    rintro e w' ⟨rfl, rfl⟩
    go_wp2_with fail
    go_ret
    exact ⟨by rw [HE.out]; simp, rfl⟩


end Go.Proofs.Ytfdmgelaiigocaa
