/- How many bits a number has: the library's count of a word's bits, laid at this program; the field's count; the reference's count. -/
import Derived.Test.YtmkmakeoidmdhaaImpl
import Derived.Shelf.Strconv.Itoa0
import Derived.Lib.ItoaNum
namespace Go.Proofs.Ytmkmakeoidmdhaa
open Go.RowKit Num

def len_ren : Go.Shelf.Ren := ⟨fun | 129 => 39 | n => n, fun | 53 => 22 | 3 => 3 | 4 => 4 | 46 => 57 | 5 => 5 | 9 => 9 | n => n, fun | n => n⟩
theorem len_lays : Go.Proofs.Lays.n129 Try.prog len_ren := {
  mixed := by kernel_rfl
  f129 := Try.func39.trans (congrArg some (by kernel_rfl))
  t3 := Try.underlying3
  a3 := Try.isAgg3
  z3 := Try.sizeOf3
  v3 := Try.zeroValue3
  t4 := Try.underlying4
  a4 := Try.isAgg4
  z4 := Try.sizeOf4
  v4 := Try.zeroValue4
  t5 := Try.underlying5
  a5 := Try.isAgg5
  z5 := Try.sizeOf5
  v5 := Try.zeroValue5
  t9 := Try.underlying9
  a9 := Try.isAgg9
  z9 := Try.sizeOf9
  v9 := Try.zeroValue9
  t46 := Try.underlying57
  a46 := Try.isAgg57
  z46 := Try.sizeOf57
  v46 := Try.zeroValue57
  t53 := Try.underlying22
  a53 := Try.isAgg22
  z53 := Try.sizeOf22
  v53 := Try.zeroValue22 }

theorem bit_test (x k : Nat) : (((x : Int) / 2 ^ k).tmod 2 == 1) = decide (x / 2 ^ k % 2 = 1) := by
  have e : ((x : Int) / 2 ^ k).tmod 2 = ((x / 2 ^ k % 2 : Nat) : Int) := by
    rw [show ((2 : Int) ^ k) = ((2 ^ k : Nat) : Int) from by simp, ← Int.natCast_ediv, Int.tmod_eq_emod_of_nonneg (Int.natCast_nonneg _)]
    generalize x / 2 ^ k = q
    omega
  rw [e, Bool.eq_iff_iff]
  simp only [beq_iff_eq, decide_eq_true_eq]
  omega

/-- How many bits a number has. -/
def blen (X : Nat) : Nat := if X = 0 then 0 else Nat.log2 X + 1
theorem blen_zero : blen 0 = 0 := rfl
theorem blen_eq {X k : Nat} (h : X < 2 ^ k) (h0 : k = 0 ∨ 2 ^ (k - 1) ≤ X) : blen X = k := by
  unfold blen
  by_cases hx : X = 0
  · subst hx
    rw [if_pos rfl]
    rcases h0 with h0 | h0
    · exact h0.symm
    · exact absurd h0 (by have := Nat.pow_pos (n := k - 1) (show 0 < 2 by decide); omega)
  · rw [if_neg hx]
    rcases h0 with h0 | h0
    · subst h0; omega
    · have h1 := (Nat.le_log2 hx).2 h0
      have h2 := (Nat.log2_lt hx).2 h
      have : k ≠ 0 := by intro e; subst e; omega
      omega
theorem blen_word {X x : Nat} (j : Nat) (h : X / 18446744073709551616 ^ j = x) (h0 : x ≠ 0) (hx : x < 18446744073709551616) : blen X = 64 * j + Lib.bitLen x := by
  obtain ⟨h1, h2, h3⟩ := Lib.bitLenAux_bounds 64 x hx h0
  change 1 ≤ Lib.bitLen x at h1
  change 2 ^ (Lib.bitLen x - 1) ≤ x at h2
  change x < 2 ^ Lib.bitLen x at h3
  have hp : (18446744073709551616 : Nat) ^ j = 2 ^ (64 * j) := by rw [Nat.pow_mul]
  have hq := Nat.pow_pos (n := 64 * j) (show 0 < 2 by decide)
  rw [hp] at h
  generalize Lib.bitLen x = k at *
  apply blen_eq
  · rw [Nat.pow_add, Nat.mul_comm, ← Nat.div_lt_iff_lt_mul hq, h]
    exact h3
  · right
    rw [show 64 * j + k - 1 = 64 * j + (k - 1) from by omega, Nat.pow_add]
    have := Nat.mul_le_mul_left (2 ^ (64 * j)) h2
    have h4 := Nat.div_mul_le_self X (2 ^ (64 * j))
    rw [h, Nat.mul_comm] at h4
    omega
theorem blen_le {X k : Nat} (h : X < 2 ^ k) : blen X ≤ k := by
  unfold blen
  split
  · omega
  · have := (Nat.log2_lt (by assumption)).2 h
    omega

theorem len64_any (x : Nat) (w : World) (h : x < 18446744073709551616) : Calls Try.prog 39 #[.int .u64 x] w fun e w' => e = .returned (.int .i64 (Lib.bitLen x)) ∧ w = w' := by
  have h1 : Calls Try.prog 39 #[.int .u64 x] w fun e w' => e = .returned (.int .i64 (Lib.bitLen (x : Int).toNat)) ∧ w' = w := Any.bits_Len64 len_lays x w (by omega) (by omega)
  rw [Int.toNat_natCast] at h1
  exact h1.mono fun _ _ h => ⟨h.1, h.2.symm⟩
theorem bitLen_le (x : Nat) (h : x < 18446744073709551616) : Lib.bitLen x ≤ 64 := Lib.bitLen_le x 64 (by omega) h

set_option maxRecDepth 100000 in
set_option maxHeartbeats 1600000 in
theorem ebitlen (b o X : Nat) (w : World) (hX : X < 39402006196394479212279040100143613805079739270465446667948293404245721771497210611414266254884915640806627990306816) (h0 : w.cell? ⟨b, o, none⟩ = some (.int .u64 (wd X 0 : Nat))) (h1 : w.cell? ⟨b, o + 1, none⟩ = some (.int .u64 (wd X 1 : Nat))) (h2 : w.cell? ⟨b, o + 2, none⟩ = some (.int .u64 (wd X 2 : Nat))) (h3 : w.cell? ⟨b, o + 3, none⟩ = some (.int .u64 (wd X 3 : Nat))) (h4 : w.cell? ⟨b, o + 4, none⟩ = some (.int .u64 (wd X 4 : Nat))) (h5 : w.cell? ⟨b, o + 5, none⟩ = some (.int .u64 (wd X 5 : Nat))) :
    Calls Try.prog 27 #[.pointer (some ⟨b, o, none⟩)] w fun e w' => e = .returned (.int .i64 (blen X : Nat)) ∧ w = w' := by
  have l0 := wd_lt X 0
  have l1 := wd_lt X 1
  have l2 := wd_lt X 2
  have l3 := wd_lt X 3
  have l4 := wd_lt X 4
  have l5 := wd_lt X 5
  have HhX := shut hX; clear hX
  by_cases q5 : wd X 5 = 0
  · have t5 : ((wd X 5 : Nat) != (0 : Int)) = false := by simp [q5]
    by_cases q4 : wd X 4 = 0
    · have t4 : ((wd X 4 : Nat) != (0 : Int)) = false := by simp [q4]
      by_cases q3 : wd X 3 = 0
      · have t3 : ((wd X 3 : Nat) != (0 : Int)) = false := by simp [q3]
        by_cases q2 : wd X 2 = 0
        · have t2 : ((wd X 2 : Nat) != (0 : Int)) = false := by simp [q2]
          by_cases q1 : wd X 1 = 0
          · have t1 : ((wd X 1 : Nat) != (0 : Int)) = false := by simp [q1]
            by_cases c0 : X = 0
            · have HE : Shut (blen X = 0 + Lib.bitLen (wd X 0)) := shut (by rw [c0]; rfl)
              have hb := bitLen_le (wd X 0) l0
              have C := shut (fun w => len64_any (wd X 0) w l0)
              clear c0 l0 l1 l2 l3 l4 l5 q1 q2 q3 q4 q5
              go_enter Try.func27, Try.ntmps27
              go_wp2_with fail
              refine (C.out _).mono ?_
              rintro e w' ⟨rfl, rfl⟩
              go_wp2_with fail
              go_ret
              exact ⟨by rw [HE.out]; simp, rfl⟩
            have HE : Shut (blen X = 0 + Lib.bitLen (wd X 0)) := shut (blen_word 0 (by have := HhX.out; unfold wd at *; omega) (by have := HhX.out; unfold wd at *; omega) l0)
            have hb := bitLen_le (wd X 0) l0
            have C := shut (fun w => len64_any (wd X 0) w l0)
            clear c0 l0 l1 l2 l3 l4 l5 q1 q2 q3 q4 q5
            go_enter Try.func27, Try.ntmps27
            go_wp2_with fail
            refine (C.out _).mono ?_
            rintro e w' ⟨rfl, rfl⟩
            go_wp2_with fail
            go_ret
            exact ⟨by rw [HE.out]; simp, rfl⟩
          · have t1 : ((wd X 1 : Nat) != (0 : Int)) = true := by simp; omega
            have HE : Shut (blen X = 64 + Lib.bitLen (wd X 1)) := shut (blen_word 1 (by have := HhX.out; unfold wd at *; omega) q1 l1)
            have hb := bitLen_le (wd X 1) l1
            have C := shut (fun w => len64_any (wd X 1) w l1)
            clear q1 l0 l1 l2 l3 l4 l5 q2 q3 q4 q5
            go_enter Try.func27, Try.ntmps27
            go_wp2_with fail
            refine (C.out _).mono ?_
            rintro e w' ⟨rfl, rfl⟩
            go_wp2_with fail
            go_ret
            exact ⟨by rw [HE.out]; simp, rfl⟩
        · have t2 : ((wd X 2 : Nat) != (0 : Int)) = true := by simp; omega
          have HE : Shut (blen X = 128 + Lib.bitLen (wd X 2)) := shut (blen_word 2 (by have := HhX.out; unfold wd at *; omega) q2 l2)
          have hb := bitLen_le (wd X 2) l2
          have C := shut (fun w => len64_any (wd X 2) w l2)
          clear q2 l0 l1 l2 l3 l4 l5 q3 q4 q5
          go_enter Try.func27, Try.ntmps27
          go_wp2_with fail
          refine (C.out _).mono ?_
          rintro e w' ⟨rfl, rfl⟩
          go_wp2_with fail
          go_ret
          exact ⟨by rw [HE.out]; simp, rfl⟩
      · have t3 : ((wd X 3 : Nat) != (0 : Int)) = true := by simp; omega
        have HE : Shut (blen X = 192 + Lib.bitLen (wd X 3)) := shut (blen_word 3 (by have := HhX.out; unfold wd at *; omega) q3 l3)
        have hb := bitLen_le (wd X 3) l3
        have C := shut (fun w => len64_any (wd X 3) w l3)
        clear q3 l0 l1 l2 l3 l4 l5 q4 q5
        go_enter Try.func27, Try.ntmps27
        go_wp2_with fail
        refine (C.out _).mono ?_
        rintro e w' ⟨rfl, rfl⟩
        go_wp2_with fail
        go_ret
        exact ⟨by rw [HE.out]; simp, rfl⟩
    · have t4 : ((wd X 4 : Nat) != (0 : Int)) = true := by simp; omega
      have HE : Shut (blen X = 256 + Lib.bitLen (wd X 4)) := shut (blen_word 4 (by have := HhX.out; unfold wd at *; omega) q4 l4)
      have hb := bitLen_le (wd X 4) l4
      have C := shut (fun w => len64_any (wd X 4) w l4)
      clear q4 l0 l1 l2 l3 l4 l5 q5
      go_enter Try.func27, Try.ntmps27
      go_wp2_with fail
      refine (C.out _).mono ?_
      rintro e w' ⟨rfl, rfl⟩
      go_wp2_with fail
      go_ret
      exact ⟨by rw [HE.out]; simp, rfl⟩
  · have t5 : ((wd X 5 : Nat) != (0 : Int)) = true := by simp; omega
    have HE : Shut (blen X = 320 + Lib.bitLen (wd X 5)) := shut (blen_word 5 (by have := HhX.out; unfold wd at *; omega) q5 l5)
    have hb := bitLen_le (wd X 5) l5
    have C := shut (fun w => len64_any (wd X 5) w l5)
    clear q5 l0 l1 l2 l3 l4 l5
    go_enter Try.func27, Try.ntmps27
    go_wp2_with fail
    refine (C.out _).mono ?_
    rintro e w' ⟨rfl, rfl⟩
    go_wp2_with fail
    go_ret
    exact ⟨by rw [HE.out]; simp, rfl⟩


set_option maxHeartbeats 400000 in
theorem bits_any (b1 o1 c1 n A : Nat) (w : World) (hn : n ≤ 64) (hA : A < 18446744073709551616 ^ n) (h1 : Cells w b1 o1 n A) :
    Calls Try.prog 15 #[.slice (some ⟨b1, o1, none⟩) n c1] w fun e w' => e = .returned (.int .i64 (blen A : Nat)) ∧ w = w' := by
  have H1 := shut h1; clear h1
  have HA := shut hA; clear hA
  go_enter Try.func15, Try.ntmps15
  go_wp2
  go_loop [3] (fun i => ∃ k : Nat, k ≤ 64 * n ∧ i = .int .i64 ((k : Int) - 1) ∧ Shut (A < 2 ^ k)) (fun i => (intOf i + 1).toNat)
  case atStart => exact ⟨64 * n, Nat.le_refl _, by go_num, ⟨by have := HA.out; rwa [show (18446744073709551616 : Nat) = 2 ^ 64 from rfl, ← Nat.pow_mul] at this⟩⟩
  case round =>
    obtain ⟨k, hk, rfl, hh⟩ := hrel
    rcases k with _ | j
    · go_wp2
      go_ret
      have e : A = 0 := by have := hh.out; omega
      exact ⟨by rw [e]; rfl, rfl⟩
    · have i1 : j / 64 < n := by omega
      have ca := H1.out (j / 64) i1
      rw [show ((j + 1 : Nat) : Int) - 1 = (j : Int) from by omega]
      have hb := bit_wd A j
      by_cases g : A / 2 ^ j % 2 = 1
      · have ht : (((wd A (j / 64) : Nat) / 2 ^ (j % 64) : Int).tmod 2 == 1) = true := by rw [bit_test, hb]; simpa using g
        have he : blen A = j + 1 := blen_eq hh.out (Or.inr (by
          rw [Nat.add_sub_cancel]
          by_cases q : 2 ^ j ≤ A
          · exact q
          · rw [Nat.div_eq_of_lt (by omega)] at g; omega))
        have HE := shut he
        clear hb g he
        go_wp2
        go_ret
        exact ⟨by rw [HE.out]; rfl, rfl⟩
      · have ht : (((wd A (j / 64) : Nat) / 2 ^ (j % 64) : Int).tmod 2 == 1) = false := by rw [bit_test, hb]; simpa using g
        have he : A < 2 ^ j := by
          have h1 := hh.out
          rw [Nat.pow_succ] at h1
          have h2 : A / 2 ^ j < 2 := by rw [Nat.div_lt_iff_lt_mul (Nat.pow_pos (by decide)), Nat.mul_comm]; exact h1
          have h3 : A / 2 ^ j = 0 := by
            generalize A / 2 ^ j = q at g h2
            omega
          rcases Nat.div_eq_zero_iff.1 h3 with h4 | h4
          · have := Nat.pow_pos (n := j) (show 0 < 2 by decide); omega
          · exact h4
        have HE := shut he
        clear hb g he
        go_wp2
        go_round
        case rel => exact ⟨j, by omega, rfl, HE⟩
        case measure => simp [intOf]

end Go.Proofs.Ytmkmakeoidmdhaa
