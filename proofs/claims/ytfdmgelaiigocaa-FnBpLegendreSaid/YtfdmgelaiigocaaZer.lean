/- Contract of the field's test for zero; words that are joined by 'or'. -/
import Derived.Test.YtfdmgelaiigocaaElem
import Derived.Laws.BitsAllLaws
import Derived.Deep.QuietTactic
import Derived.BigQuiet
namespace Go.Proofs.Ytfdmgelaiigocaa
open Go.RowKit Num

theorem or_all (X : Nat) : (bits .or .u64 (bits .or .u64 (bits .or .u64 (bits .or .u64 (bits .or .u64 (((wd X 5 : Nat) : Int)) ((wd X 4 : Nat) : Int)) ((wd X 3 : Nat) : Int)) ((wd X 2 : Nat) : Int)) ((wd X 1 : Nat) : Int)) ((wd X 0 : Nat) : Int) = 0) ↔ (wd X 5 = 0 ∧ wd X 4 = 0 ∧ wd X 3 = 0 ∧ wd X 2 = 0 ∧ wd X 1 = 0 ∧ wd X 0 = 0) := by
  have l5 : wd X 5 < 2 ^ 64 := wd_lt X 5
  have l4 : wd X 4 < 2 ^ 64 := wd_lt X 4
  have l3 : wd X 3 < 2 ^ 64 := wd_lt X 3
  have l2 : wd X 2 < 2 ^ 64 := wd_lt X 2
  have l1 : wd X 1 < 2 ^ 64 := wd_lt X 1
  have l0 : wd X 0 < 2 ^ 64 := wd_lt X 0
  have m0 : wd X 5 ||| wd X 4 < 2 ^ 64 := Nat.or_lt_two_pow l5 l4
  rw [u64_or_nat (wd X 5) (wd X 4) l5 l4]
  have m1 : (wd X 5 ||| wd X 4) ||| wd X 3 < 2 ^ 64 := Nat.or_lt_two_pow m0 l3
  rw [u64_or_nat ((wd X 5 ||| wd X 4)) (wd X 3) m0 l3]
  have m2 : ((wd X 5 ||| wd X 4) ||| wd X 3) ||| wd X 2 < 2 ^ 64 := Nat.or_lt_two_pow m1 l2
  rw [u64_or_nat (((wd X 5 ||| wd X 4) ||| wd X 3)) (wd X 2) m1 l2]
  have m3 : (((wd X 5 ||| wd X 4) ||| wd X 3) ||| wd X 2) ||| wd X 1 < 2 ^ 64 := Nat.or_lt_two_pow m2 l1
  rw [u64_or_nat ((((wd X 5 ||| wd X 4) ||| wd X 3) ||| wd X 2)) (wd X 1) m2 l1]
  have m4 : ((((wd X 5 ||| wd X 4) ||| wd X 3) ||| wd X 2) ||| wd X 1) ||| wd X 0 < 2 ^ 64 := Nat.or_lt_two_pow m3 l0
  rw [u64_or_nat (((((wd X 5 ||| wd X 4) ||| wd X 3) ||| wd X 2) ||| wd X 1)) (wd X 0) m3 l0]
  rw [show (((((((wd X 5 ||| wd X 4) ||| wd X 3) ||| wd X 2) ||| wd X 1) ||| wd X 0) : Nat) : Int) = 0 ↔ (((((wd X 5 ||| wd X 4) ||| wd X 3) ||| wd X 2) ||| wd X 1) ||| wd X 0) = 0 from by omega]
  simp only [Nat.or_eq_zero_iff, and_assoc]

theorem or_rest (X : Nat) : (bits .or .u64 (bits .or .u64 (bits .or .u64 (bits .or .u64 (((wd X 1 : Nat) : Int)) ((wd X 2 : Nat) : Int)) ((wd X 3 : Nat) : Int)) ((wd X 4 : Nat) : Int)) ((wd X 5 : Nat) : Int) = 0) ↔ (wd X 1 = 0 ∧ wd X 2 = 0 ∧ wd X 3 = 0 ∧ wd X 4 = 0 ∧ wd X 5 = 0) := by
  have l1 : wd X 1 < 2 ^ 64 := wd_lt X 1
  have l2 : wd X 2 < 2 ^ 64 := wd_lt X 2
  have l3 : wd X 3 < 2 ^ 64 := wd_lt X 3
  have l4 : wd X 4 < 2 ^ 64 := wd_lt X 4
  have l5 : wd X 5 < 2 ^ 64 := wd_lt X 5
  have m0 : wd X 1 ||| wd X 2 < 2 ^ 64 := Nat.or_lt_two_pow l1 l2
  rw [u64_or_nat (wd X 1) (wd X 2) l1 l2]
  have m1 : (wd X 1 ||| wd X 2) ||| wd X 3 < 2 ^ 64 := Nat.or_lt_two_pow m0 l3
  rw [u64_or_nat ((wd X 1 ||| wd X 2)) (wd X 3) m0 l3]
  have m2 : ((wd X 1 ||| wd X 2) ||| wd X 3) ||| wd X 4 < 2 ^ 64 := Nat.or_lt_two_pow m1 l4
  rw [u64_or_nat (((wd X 1 ||| wd X 2) ||| wd X 3)) (wd X 4) m1 l4]
  have m3 : (((wd X 1 ||| wd X 2) ||| wd X 3) ||| wd X 4) ||| wd X 5 < 2 ^ 64 := Nat.or_lt_two_pow m2 l5
  rw [u64_or_nat ((((wd X 1 ||| wd X 2) ||| wd X 3) ||| wd X 4)) (wd X 5) m2 l5]
  rw [show ((((((wd X 1 ||| wd X 2) ||| wd X 3) ||| wd X 4) ||| wd X 5) : Nat) : Int) = 0 ↔ ((((wd X 1 ||| wd X 2) ||| wd X 3) ||| wd X 4) ||| wd X 5) = 0 from by omega]
  simp only [Nat.or_eq_zero_iff, and_assoc]

theorem zero_words {X : Nat} (h : X < 39402006196394479212279040100143613805079739270465446667948293404245721771497210611414266254884915640806627990306816) : (wd X 5 = 0 ∧ wd X 4 = 0 ∧ wd X 3 = 0 ∧ wd X 2 = 0 ∧ wd X 1 = 0 ∧ wd X 0 = 0) ↔ X = 0 := by
  unfold wd; omega
theorem one_words {X : Nat} (h : X < 39402006196394479212279040100143613805079739270465446667948293404245721771497210611414266254884915640806627990306816) : (wd X 0 = 1 ∧ wd X 1 = 0 ∧ wd X 2 = 0 ∧ wd X 3 = 0 ∧ wd X 4 = 0 ∧ wd X 5 = 0) ↔ X = 1 := by
  unfold wd; omega
set_option maxRecDepth 100000 in
set_option maxHeartbeats 3200000 in
theorem iszero (b o X : Nat) (w : World) (hX : X < 39402006196394479212279040100143613805079739270465446667948293404245721771497210611414266254884915640806627990306816) (h0 : w.cell? ⟨b, o, none⟩ = some (.int .u64 (wd X 0 : Nat))) (h1 : w.cell? ⟨b, o + 1, none⟩ = some (.int .u64 (wd X 1 : Nat))) (h2 : w.cell? ⟨b, o + 2, none⟩ = some (.int .u64 (wd X 2 : Nat))) (h3 : w.cell? ⟨b, o + 3, none⟩ = some (.int .u64 (wd X 3 : Nat))) (h4 : w.cell? ⟨b, o + 4, none⟩ = some (.int .u64 (wd X 4 : Nat))) (h5 : w.cell? ⟨b, o + 5, none⟩ = some (.int .u64 (wd X 5 : Nat))) :
    Calls Try.prog 21 #[.pointer (some ⟨b, o, none⟩)] w fun e w' => e = .returned (.bool (decide (X = 0))) ∧ ∃ m, w' = w.drewN m := by
  have he : (bits .or .u64 (bits .or .u64 (bits .or .u64 (bits .or .u64 (bits .or .u64 (((wd X 5 : Nat) : Int)) ((wd X 4 : Nat) : Int)) ((wd X 3 : Nat) : Int)) ((wd X 2 : Nat) : Int)) ((wd X 1 : Nat) : Int)) ((wd X 0 : Nat) : Int) == 0) = decide (X = 0) := by
    rw [Bool.eq_iff_iff]
    simp only [beq_iff_eq, decide_eq_true_eq]
    rw [or_all, zero_words hX]
  have HE := shut he; clear he hX
  go_enter Try.func21, Try.ntmps21
  go_wp2
  go_quiet (fail)
  go_wp2
  go_ret
  exact ⟨by rw [← HE.out]; rfl, _, rfl⟩
end Go.Proofs.Ytfdmgelaiigocaa
