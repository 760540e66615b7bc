/- Contracts of the reference's half and regular form. -/
import Derived.Test.YtfdmgelaiigocaaSpec
namespace Go.Proofs.Ytfdmgelaiigocaa
open Go.RowKit Num

theorem half_put {x y : Nat} (hx : x < 18446744073709551616) (_hy : y < 18446744073709551616) :
    IntKind.u64.wrap ((x : Int) / 2 + IntKind.u64.wrap ((y : Int) * 9223372036854775808)) = ((x / 2 + 9223372036854775808 * (y % 2) : Nat) : Int) := by
  rw [u64wrap, u64wrap]; omega
theorem Fills.twice {w wr : World} {n S k : Nat} (h : Fills w wr n S k) (hk : k < n) {u v : Int} (hv : v = (wd S k : Nat)) :
    Fills w ((wr.setCell ⟨w.heap.size, k, none⟩ (.int .u64 u)).setCell ⟨w.heap.size, k, none⟩ (.int .u64 v)) n S (k + 1) := by
  rw [set_set]; exact h.next hk hv

set_option maxHeartbeats 400000 in
theorem half_any (b1 o1 c1 n A : Nat) (w : World) (hn : n ≤ 64) (hA : A < 18446744073709551616 ^ n) (h1 : Cells w b1 o1 n A) (hb1 : b1 < w.heap.size) :
    Calls Try.prog 8 #[.slice (some ⟨b1, o1, none⟩) n c1] w (Gives w n (A / 2) (fun v => v)) := by
  have H1 := shut h1; clear h1
  have HA := shut hA; clear hA
  have hmk := hmake n hn
  go_enter Try.func8, Try.ntmps8
  go_wp2
  go_loopw [4] (fun i wr => ∃ k : Nat, k ≤ n ∧ i = .int .i64 (k : Int) ∧ Fills w wr n (A / 2) k) (fun i _ => n - (intOf i).toNat)
  case atStart => exact ⟨0, Nat.zero_le _, rfl, Fills.start _ _ _⟩
  case round =>
    obtain ⟨k, hk, rfl, hf⟩ := hrel
    have HF := shut hf
    clear hf
    by_cases hlt : k < n
    · have ca : wr.cell? ⟨b1, o1 + k, none⟩ = some (.int .u64 (wd A k)) := (HF.out.below.cell (p := ⟨b1, o1 + k, none⟩) hb1).trans (H1.out k hlt)
      have hd : decide (k < n) = true := by simpa using hlt
      have i1 : (k : Int) < (n : Int) := by omega
      obtain ⟨f, hr, -⟩ := HF.out.row
      have cc := (hr k hlt).1
      have cf := (hr k hlt).2
      have hne : b1 ≠ w.heap.size := by omega
      have HR := shut hr
      clear hr
      by_cases hn2 : k + 1 < n
      · have cb : wr.cell? ⟨b1, o1 + (k + 1), none⟩ = some (.int .u64 (wd A (k + 1))) := (HF.out.below.cell (p := ⟨b1, o1 + (k + 1), none⟩) hb1).trans (H1.out (k + 1) hn2)
        have i2 : (k : Int) + 1 < (n : Int) := by omega
        have d1 : (wr.setCell ⟨w.heap.size, k, none⟩ (.int .u64 ((wd A k : Int) / 2))).cell? ⟨w.heap.size, k, none⟩ = some (.int .u64 ((wd A k : Int) / 2)) := hit cc
        have d2 : (wr.setCell ⟨w.heap.size, k, none⟩ (.int .u64 ((wd A k : Int) / 2))).cell? ⟨b1, o1 + (k + 1), none⟩ = some (.int .u64 (wd A (k + 1))) := keep cb (Or.inl (Ne.symm hne))
        have d3 : (wr.setCell ⟨w.heap.size, k, none⟩ (.int .u64 ((wd A k : Int) / 2))).frozen? ⟨w.heap.size, k, none⟩ = false := by rw [World.frozen?_setCell]; exact cf
        have D := shut (And.intro d1 (And.intro d2 d3))
        clear d1 d2 d3 cb
        go_wp2
        obtain ⟨d1, d2, d3⟩ := D.out
        clear D
        obtain ⟨W1, hW⟩ : ∃ W1, wr.setCell ⟨w.heap.size, k, none⟩ (.int .u64 ((wd A k : Int) / 2)) = W1 := ⟨_, rfl⟩
        rw [hW] at d1 d2 d3 ⊢
        have HW := shut hW
        clear hW
        go_region
        all_goals
          clear d1 d2 d3
          obtain rfl := HW.out
          go_wp2
          go_roundw
          case rel => exact ⟨k + 1, by omega, by go_num, (HF.out.twice hlt (by rw [wd_half]; exact half_put (wd_lt _ _) (wd_lt _ _))).drewN 1⟩
          case measure => simp [intOf]; omega
      · have i2 : ¬ (k : Int) + 1 < (n : Int) := by omega
        go_wp2
        go_roundw
        case rel => exact ⟨k + 1, by omega, by go_num, HF.out.next hlt (by rw [wd_half, wd_out HA.out (i := k + 1) (by omega)]; omega)⟩
        case measure => simp [intOf]; omega
    · obtain rfl : k = n := by omega
      go_wp2
      go_ret
      exact ⟨w.heap.size, rfl, Nat.le_refl _, HF.out.own, HF.out.below⟩

/-- Half of a number, or of it and M. -/
def hmd (M X : Nat) : Nat := if X % 2 = 1 then (X + M) / 2 else X / 2
theorem hmd_lt {M X : Nat} (h : X < M) : hmd M X < M := by unfold hmd; split <;> omega
theorem hmd_mul {M X : Nat} (hM : M % 2 = 1) : hmd M X * 2 % M = X % M := by
  unfold hmd
  split
  · rw [show (X + M) / 2 * 2 = X + M from by omega, Nat.add_mod_right]
  · rw [show X / 2 * 2 = X from by omega]
/-- So often. -/
def regk (M A : Nat) : Nat → Nat
  | 0 => A
  | k + 1 => hmd M (regk M A k)
theorem regk_lt {M A : Nat} (h : A < M) (k : Nat) : regk M A k < M := by
  induction k with
  | zero => exact h
  | succ k ih => exact hmd_lt ih
theorem regk_mul {M A : Nat} (hM : M % 2 = 1) (k : Nat) : regk M A k * 2 ^ k % M = A % M := by
  induction k with
  | zero => simp [regk]
  | succ k ih =>
    simp only [regk]
    rw [Nat.pow_succ, Nat.mul_comm (2 ^ k) 2, ← Nat.mul_assoc, Nat.mul_mod, hmd_mul hM, ← Nat.mul_mod]
    exact ih
theorem wd0_mod2 (X : Nat) : (((wd X 0 : Nat) : Int) % 2 == 1) = decide (X % 2 = 1) := by
  have e : ((wd X 0 : Nat) : Int) % 2 = ((X % 2 : Nat) : Int) := by
    unfold wd
    omega
  rw [e, Bool.eq_iff_iff]
  simp only [beq_iff_eq, decide_eq_true_eq]
  omega

/-- A call that hands back the n words of A, wherever they lie. -/
def GivesC (w : World) (n A : Nat) (e : Ending) (w' : World) : Prop :=
  ∃ b o c, e = .returned (.slice (some ⟨b, o, none⟩) n c) ∧ Cells w' b o n A ∧ b < w'.heap.size ∧ Below w.heap.size w w'

set_option maxHeartbeats 800000 in
theorem regular_any (b1 o1 c1 b2 o2 c2 n A M : Nat) (w : World) (hn : n ≤ 64) (hn0 : 0 < n) (hA : A < M) (hM : 2 * M ≤ 18446744073709551616 ^ n)
    (h1 : Cells w b1 o1 n A) (h2 : Cells w b2 o2 n M) (hb1 : b1 < w.heap.size) (hb2 : b2 < w.heap.size) :
    Calls Try.prog 9 #[.slice (some ⟨b1, o1, none⟩) n c1, .slice (some ⟨b2, o2, none⟩) n c2] w (GivesC w n (regk M A (64 * n))) := by
  have H1 := shut h1; clear h1
  have H2 := shut h2; clear h2
  have HA := shut (And.intro hA hM); clear hA hM
  go_enter Try.func9, Try.ntmps9
  go_wp2_with fail
  go_loopw [0, 5] (fun a i wr => ∃ k bk ok ck : Nat, k ≤ 64 * n ∧ i = .int .i64 (k : Int) ∧ a = .slice (some ⟨bk, ok, none⟩) n ck ∧ Shut (Cells wr bk ok n (regk M A k) ∧ bk < wr.heap.size ∧ Now w.heap.size w wr)) (fun _ i _ => 64 * n - (intOf i).toNat)
  case atStart => exact ⟨0, b1, o1, c1, Nat.zero_le _, rfl, rfl, ⟨H1.out, hb1, Now.start (Nat.le_refl _)⟩⟩
  case round =>
    obtain ⟨k, bk, ok, ck, hk, rfl, rfl, hw⟩ := hrel
    by_cases hlt : k < 64 * n
    · have i1 : (k : Int) < 64 * (n : Int) := by omega
      have hd : decide (k < 64 * n) = true := by simpa using hlt
      obtain ⟨X, hX⟩ : ∃ X, regk M A k = X := ⟨_, rfl⟩
      have hXlt : X < M := by rw [← hX]; exact regk_lt HA.out.1 k
      have hN : regk M A (k + 1) = hmd M X := by rw [← hX]; rfl
      rw [hX] at hw
      have ca : wr.cell? ⟨bk, ok, none⟩ = some (.int .u64 (wd X 0)) := hw.out.1 0 hn0
      have hp := pow_pos' n
      have i0 : (0 : Int) < (n : Int) := by omega
      by_cases hodd : X % 2 = 1
      · have ht : (((wd X 0 : Nat) : Int) % 2 == 1) = true := by rw [wd0_mod2]; simpa using hodd
        have hY : hmd M X = (X + M) / 2 := by unfold hmd; rw [if_pos hodd]
        have hle : X + M < 18446744073709551616 ^ n := by have := HA.out.2; omega
        have C := shut (plus_any bk ok ck b2 o2 c2 n X M wr hn (by omega) (by omega) hw.out.1 (H2.out.now hw.out.2.2 hb2) hw.out.2.1 (Nat.lt_of_lt_of_le hb2 hw.out.2.2.size))
        have HL := shut hle
        have HR := shut (hN.trans hY)
        have hdm : decide (18446744073709551616 ^ n ≤ X + M) = false := by simpa using hle
        rw [hdm] at C
        clear hdm hle hY hN hX hXlt hodd hp
        go_wp2_with fail
        refine C.out.mono ?_
        rintro e w1 ⟨b, rfl, hb, hown, hbel⟩
        have C2 := shut (half_any b 0 n n (X + M) w1 hn HL.out hown.cells hown.2)
        have HB := shut hbel
        clear C hown hbel hb
        go_wp2_with fail
        refine C2.out.mono ?_
        rintro e w2 ⟨b', rfl, hb', hown', hbel'⟩
        have HQ : Shut (Cells w2 b' 0 n (regk M A (k + 1)) ∧ b' < w2.heap.size ∧ Now w.heap.size w w2) := shut ⟨by rw [HR.out]; exact hown'.cells, hown'.2, (hw.out.2.2.call HB.out).call hbel'⟩
        clear C2 hown' hbel' hb'
        go_wp2_with fail
        go_roundw
        case rel => exact ⟨k + 1, b', 0, n, by omega, by go_num, rfl, HQ⟩
        case measure => simp [intOf]; omega
      · have ht : (((wd X 0 : Nat) : Int) % 2 == 1) = false := by rw [wd0_mod2]; simpa using hodd
        have hY : hmd M X = X / 2 := by unfold hmd; rw [if_neg hodd]
        have C2 := shut (half_any bk ok ck n X wr hn (by have := HA.out.2; omega) hw.out.1 hw.out.2.1)
        have HR := shut (hN.trans hY)
        clear hY hN hX hXlt hodd hp
        go_wp2_with fail
        refine C2.out.mono ?_
        rintro e w2 ⟨b', rfl, hb', hown', hbel'⟩
        have HQ : Shut (Cells w2 b' 0 n (regk M A (k + 1)) ∧ b' < w2.heap.size ∧ Now w.heap.size w w2) := shut ⟨by rw [HR.out]; exact hown'.cells, hown'.2, hw.out.2.2.call hbel'⟩
        clear C2 hown' hbel' hb'
        go_wp2_with fail
        go_roundw
        case rel => exact ⟨k + 1, b', 0, n, by omega, by go_num, rfl, HQ⟩
        case measure => simp [intOf]; omega
    · have hd : decide (k < 64 * n) = false := by simpa using hlt
      have i1 : ¬ (k : Int) < 64 * (n : Int) := by omega
      have e : k = 64 * n := by omega
      have HE := shut e
      clear e
      go_wp2_with fail
      go_ret
      exact ⟨bk, ok, ck, rfl, HE.out ▸ hw.out.1, hw.out.2.1, hw.out.2.2.below⟩
end Go.Proofs.Ytfdmgelaiigocaa
