/- Contracts of the reference's one, test for zero, product, power and character. -/
import Derived.Test.YtfdmgelaiigocaaReg
import Derived.Test.YtfdmgelaiigocaaLen
import Derived.Test.YtfdmgelaiigocaaImpl
namespace Go.Proofs.Ytfdmgelaiigocaa
open Go.RowKit Num

theorem wd_one (j : Nat) : wd 1 j = if j = 0 then 1 else 0 := wd_small (by decide) j

/-- A block that was made and whose first word was set to one. -/
theorem own_one (w : World) (n : Nat) (hn : 0 < n) : Own (w.alloc (.cells ((madeCells #[.int .u64 0] n).setIfInBounds 0 (.int .u64 1)) 22)) w.heap.size n 1 := by
  refine ⟨fun j hj => ⟨?_, World.frozen?_alloc_new _ _ _ _⟩, by simp⟩
  rw [World.cell?_alloc_new]
  show _ = some (Value.int .u64 (wd 1 j : Nat))
  rw [wd_one]
  rcases j with _ | j
  · simp [madeCells, hn]
  · simp [madeCells, hj, Nat.mod_one]

/-- A block that was made holds the words of nothing. -/
theorem own_nil (w : World) (n : Nat) : Own (w.alloc (.cells (madeCells #[.int .u64 0] n) 22)) w.heap.size n 0 := by
  refine ⟨fun j hj => ?_, by simp⟩
  have h := Row.made w n j hj
  refine ⟨h.1.trans ?_, h.2⟩
  show _ = some (Value.int .u64 (wd 0 j : Nat))
  rw [wd_zero]
  rfl

set_option maxHeartbeats 400000 in
theorem one_any (n : Nat) (w : World) (hn : n ≤ 64) (hn0 : 0 < n) : Calls Try.prog 18 #[.int .i64 n] w (Gives w n 1 (fun v => v)) := by
  have hmk := hmake n hn
  have HO := shut (own_one w n hn0)
  have c0 : (w.alloc (.cells (madeCells #[.int .u64 0] n) 22)).cell? ⟨w.heap.size, 0, none⟩ = some (.int .u64 0) := (Row.made w n 0 hn0).1
  have f0 : (w.alloc (.cells (madeCells #[.int .u64 0] n) 22)).frozen? ⟨w.heap.size, 0, none⟩ = false := (Row.made w n 0 hn0).2
  have i0 : (0 : Int) < (n : Int) := by omega
  go_enter Try.func18, Try.ntmps18
  go_wp2
  go_ret
  exact ⟨w.heap.size, rfl, Nat.le_refl _, HO.out, (Below.refl _ _).alloc (Nat.le_refl _) _⟩

set_option maxHeartbeats 400000 in
theorem zero_any (b1 o1 c1 n A : Nat) (w : World) (hn : n ≤ 64) (hA : A < 18446744073709551616 ^ n) (h1 : Cells w b1 o1 n A) :
    Calls Try.prog 16 #[.slice (some ⟨b1, o1, none⟩) n c1] w fun e w' => e = .returned (.bool (decide (A = 0))) ∧ w = w' := by
  have H1 := shut h1; clear h1
  have HA := shut hA; clear hA
  go_enter Try.func16, Try.ntmps16
  go_wp2
  go_loop [3] (fun i => ∃ k : Nat, k ≤ n ∧ i = .int .i64 (k : Int) ∧ Shut (∀ j, j < k → wd A j = 0)) (fun i => n - (intOf i).toNat)
  case atStart => exact ⟨0, Nat.zero_le _, rfl, ⟨fun j hj => by omega⟩⟩
  case round =>
    obtain ⟨k, hk, rfl, hh⟩ := hrel
    by_cases hlt : k < n
    · have ca := H1.out k hlt
      have i1 : (k : Int) < (n : Int) := by omega
      have hd : decide (k < n) = true := by simpa using hlt
      by_cases hw : wd A k = 0
      · have ht : (((wd A k : Nat) : Int) != 0) = false := by simp [hw]
        go_wp2
        go_round
        case rel => exact ⟨k + 1, by omega, by go_num, ⟨fun j hj => (by
          by_cases e : j = k
          · rw [e, hw]
          · exact hh.out j (by omega))⟩⟩
        case measure => simp [intOf]; omega
      · have ht : (((wd A k : Nat) : Int) != 0) = true := by simp; omega
        go_wp2
        go_ret
        have e : decide (A = 0) = false := by
          have : A ≠ 0 := fun e => hw (by rw [e, wd_zero])
          simpa using this
        exact ⟨by rw [e]; rfl, rfl⟩
    · have hd : decide (k < n) = false := by simpa using hlt
      have e : decide (A = 0) = true := by
        have : A = 0 := eq_of_wd HA.out (pow_pos' n) (fun i hi => by rw [hh.out i (by omega), wd_zero])
        simpa using this
      have HE := shut e
      clear e
      go_wp2
      go_ret
      exact ⟨by rw [HE.out]; simp, rfl⟩

theorem mulk_step {A B M k : Nat} : ((B / 2 ^ (k + 1)) * A % M + (B / 2 ^ (k + 1)) * A % M) % M = (2 * (B / 2 ^ (k + 1))) * A % M := by
  rw [← Nat.add_mod, Nat.mul_assoc, Nat.two_mul]
theorem bit_split (B k : Nat) : B / 2 ^ k = 2 * (B / 2 ^ (k + 1)) + B / 2 ^ k % 2 := by
  rw [Nat.pow_succ, ← Nat.div_div_eq_div_mul]
  generalize B / 2 ^ k = q
  omega

theorem mul_bits (A B M j : Nat) : (B / 2 ^ j % 2 = 1 → (2 * (B / 2 ^ (j + 1)) * A % M + A) % M = B / 2 ^ j * A % M) ∧ (B / 2 ^ j % 2 = 0 → 2 * (B / 2 ^ (j + 1)) * A % M = B / 2 ^ j * A % M) := by
  have e := bit_split B j
  generalize B / 2 ^ (j + 1) = q at *
  generalize B / 2 ^ j = r at *
  constructor
  · intro h
    rw [h] at e
    rw [e, Nat.add_mul, Nat.one_mul, Nat.mod_add_mod]
  · intro h
    rw [h] at e
    rw [e]
    rfl
theorem pow_bits (A B M j : Nat) : (B / 2 ^ j % 2 = 1 → A * (A ^ (2 * (B / 2 ^ (j + 1))) % M) % M = A ^ (B / 2 ^ j) % M) ∧ (B / 2 ^ j % 2 = 0 → A ^ (2 * (B / 2 ^ (j + 1))) % M = A ^ (B / 2 ^ j) % M) := by
  have e := bit_split B j
  generalize B / 2 ^ (j + 1) = q at *
  generalize B / 2 ^ j = r at *
  constructor
  · intro h
    rw [h] at e
    rw [e, Nat.pow_succ, Nat.mul_mod_mod, Nat.mul_comm]
  · intro h
    rw [h] at e
    rw [e]
    rfl

set_option maxHeartbeats 800000 in
theorem mul_any (b1 o1 c1 b2 o2 c2 b3 o3 c3 n A B M : Nat) (w : World) (hn : n ≤ 64) (hM : M < 18446744073709551616 ^ n) (hA : A < M) (hB : B < 18446744073709551616 ^ n)
    (h1 : Cells w b1 o1 n A) (h2 : Cells w b2 o2 n B) (h3 : Cells w b3 o3 n M) (hb1 : b1 < w.heap.size) (hb2 : b2 < w.heap.size) (hb3 : b3 < w.heap.size) :
    Calls Try.prog 27 #[.slice (some ⟨b1, o1, none⟩) n c1, .slice (some ⟨b2, o2, none⟩) n c2, .slice (some ⟨b3, o3, none⟩) n c3] w (Gives w n (B * A % M) (fun v => v)) := by
  have H1 := shut h1; clear h1
  have H2 := shut h2; clear h2
  have H3 := shut h3; clear h3
  have HM := shut (And.intro hM hA); clear hM hA
  have HB := shut hB; clear hB
  have hmk := hmake n hn
  go_enter Try.func27, Try.ntmps27
  go_wp2_with fail
  go_loopw [7, 8] (fun out i wr => ∃ k b : Nat, k ≤ 64 * n ∧ i = .int .i64 ((k : Int) - 1) ∧ out = .slice (some ⟨b, 0, none⟩) n n ∧ Shut (w.heap.size ≤ b ∧ Own wr b n ((B / 2 ^ k) * A % M) ∧ Now w.heap.size w wr)) (fun _ i _ => (intOf i + 1).toNat)
  case atStart =>
    refine ⟨64 * n, w.heap.size, Nat.le_refl _, by go_num, rfl, ⟨Nat.le_refl _, ?_, (Now.start (Nat.le_refl _)).alloc _⟩⟩
    have e : B / 2 ^ (64 * n) = 0 := Nat.div_eq_of_lt (by have := HB.out; rwa [show (18446744073709551616 : Nat) = 2 ^ 64 from rfl, ← Nat.pow_mul] at this)
    rw [e, Nat.zero_mul, Nat.zero_mod]
    exact own_nil w n
  case round =>
    obtain ⟨k, b, hk, rfl, rfl, hw⟩ := hrel
    rcases k with _ | j
    · go_wp2_with fail
      go_ret
      exact ⟨b, rfl, hw.out.1, by have := hw.out.2.1; simpa using this, hw.out.2.2.below⟩
    · have i1 : j / 64 < n := by omega
      rw [show ((j + 1 : Nat) : Int) - 1 = (j : Int) from by omega]
      obtain ⟨X, hX⟩ : ∃ X, B / 2 ^ (j + 1) * A % M = X := ⟨_, rfl⟩
      have hXlt : X < M := by rw [← hX]; exact Nat.mod_lt _ (by have := HM.out.2; omega)
      have e1 : (X + X) % M = 2 * (B / 2 ^ (j + 1)) * A % M := by rw [← hX]; exact mulk_step
      rw [hX] at hw
      have C := shut (add_any b 0 n b 0 n b3 o3 c3 n X X M wr hn HM.out.1 hXlt hXlt hw.out.2.1.cells hw.out.2.1.cells (H3.out.now hw.out.2.2 hb3) hw.out.2.1.2 hw.out.2.1.2 (Nat.lt_of_lt_of_le hb3 hw.out.2.2.size))
      rw [e1] at C
      have e2 : (B / 2 ^ j % 2 = 1 → (2 * (B / 2 ^ (j + 1)) * A % M + A) % M = B / 2 ^ j * A % M) ∧ (B / 2 ^ j % 2 = 0 → 2 * (B / 2 ^ (j + 1)) * A % M = B / 2 ^ j * A % M) := by
        exact mul_bits A B M j
      have hlt2 : 2 * (B / 2 ^ (j + 1)) * A % M < M := Nat.mod_lt _ (by have := HM.out.2; omega)
      obtain ⟨Y, hY⟩ : ∃ Y, 2 * (B / 2 ^ (j + 1)) * A % M = Y := ⟨_, rfl⟩
      rw [hY] at C e2 hlt2
      have E := shut (And.intro e2 hlt2)
      have hsz := shut hw.out.2.2.size
      clear hX hXlt e1 e2 hlt2 hY
      go_wp2_with fail
      refine C.out.mono ?_
      rintro e w1 ⟨b', rfl, hb', hown', hbel'⟩
      have Q := shut (And.intro hown' (hw.out.2.2.call hbel'))
      have HBB := shut (Nat.le_trans hsz.out hb')
      clear C hown' hbel' hb'
      have ca := (H2.out.now Q.out.2 hb2) (j / 64) i1
      have hb := bit_wd B j
      by_cases g : B / 2 ^ j % 2 = 1
      · have ht : (((wd B (j / 64) : Nat) / 2 ^ (j % 64) : Int).tmod 2 == 1) = true := by rw [bit_test, hb]; simpa using g
        have C2 := shut (add_any b' 0 n b1 o1 c1 b3 o3 c3 n Y A M w1 hn HM.out.1 E.out.2 HM.out.2 Q.out.1.cells (H1.out.now Q.out.2 hb1) (H3.out.now Q.out.2 hb3) Q.out.1.2 (Nat.lt_of_lt_of_le hb1 Q.out.2.size) (Nat.lt_of_lt_of_le hb3 Q.out.2.size))
        have G := shut (E.out.1.1 g)
        clear hb g
        go_wp2_with fail
        refine C2.out.mono ?_
        rintro e w2 ⟨b2', rfl, hb2', hown2, hbel2⟩
        have Q2 := shut (And.intro (Nat.le_trans Q.out.2.size hb2') (And.intro hown2 (Q.out.2.call hbel2)))
        rw [G.out] at Q2
        clear C2 hown2 hbel2 hb2'
        go_wp2_with fail
        go_roundw
        case rel => exact ⟨j, b2', by omega, rfl, rfl, Q2⟩
        case measure => simp [intOf]
      · have ht : (((wd B (j / 64) : Nat) / 2 ^ (j % 64) : Int).tmod 2 == 1) = false := by rw [bit_test, hb]; simpa using g
        have Q2 := shut (And.intro HBB.out Q.out)
        rw [E.out.1.2 (by omega)] at Q2
        clear hb g
        go_wp2_with fail
        go_roundw
        case rel => exact ⟨j, b', by omega, rfl, rfl, Q2⟩
        case measure => simp [intOf]

theorem pow_step {A E M k : Nat} : (A ^ (E / 2 ^ (k + 1)) % M) * (A ^ (E / 2 ^ (k + 1)) % M) % M = A ^ (2 * (E / 2 ^ (k + 1))) % M := by
  rw [← Nat.mul_mod, ← Nat.pow_add, Nat.two_mul]

set_option maxHeartbeats 800000 in
theorem pow_any (b1 o1 c1 b2 o2 c2 b3 o3 c3 n A B M : Nat) (w : World) (hn : n ≤ 64) (hn0 : 0 < n) (hM1 : 1 < M) (hM : M < 18446744073709551616 ^ n) (hA : A < M) (hB : B < 18446744073709551616 ^ n)
    (h1 : Cells w b1 o1 n A) (h2 : Cells w b2 o2 n B) (h3 : Cells w b3 o3 n M) (hb1 : b1 < w.heap.size) (hb2 : b2 < w.heap.size) (hb3 : b3 < w.heap.size) :
    Calls Try.prog 15 #[.slice (some ⟨b1, o1, none⟩) n c1, .slice (some ⟨b2, o2, none⟩) n c2, .slice (some ⟨b3, o3, none⟩) n c3] w (Gives w n (A ^ B % M) (fun v => v)) := by
  have H1 := shut h1; clear h1
  have H2 := shut h2; clear h2
  have H3 := shut h3; clear h3
  have HM := shut (And.intro hM hA); clear hM hA
  have HB := shut (And.intro hM1 hB); clear hB hM1
  have C0 := shut (one_any n w hn hn0)
  go_enter Try.func15, Try.ntmps15
  go_wp2_with fail
  refine C0.out.mono ?_
  rintro e w0 ⟨b0, rfl, hb0, hown0, hbel0⟩
  have Q0 := shut (And.intro hb0 (And.intro hown0 ((Now.start (Nat.le_refl _)).call hbel0)))
  clear C0 hb0 hown0 hbel0
  go_wp2_with fail
  go_loopw [7, 8] (fun out i wr => ∃ k b : Nat, k ≤ 64 * n ∧ i = .int .i64 ((k : Int) - 1) ∧ out = .slice (some ⟨b, 0, none⟩) n n ∧ Shut (w.heap.size ≤ b ∧ Own wr b n (A ^ (B / 2 ^ k) % M) ∧ Now w.heap.size w wr)) (fun _ i _ => (intOf i + 1).toNat)
  case atStart =>
    refine ⟨64 * n, b0, Nat.le_refl _, by go_num, rfl, ⟨Q0.out.1, ?_, Q0.out.2.2⟩⟩
    have e : B / 2 ^ (64 * n) = 0 := Nat.div_eq_of_lt (by have := HB.out.2; rwa [show (18446744073709551616 : Nat) = 2 ^ 64 from rfl, ← Nat.pow_mul] at this)
    rw [e, Nat.pow_zero, Nat.mod_eq_of_lt HB.out.1]
    exact Q0.out.2.1
  case round =>
    obtain ⟨k, b, hk, rfl, rfl, hw⟩ := hrel
    rcases k with _ | j
    · go_wp2_with fail
      go_ret
      exact ⟨b, rfl, hw.out.1, by have := hw.out.2.1; simpa using this, hw.out.2.2.below⟩
    · have i1 : j / 64 < n := by omega
      rw [show ((j + 1 : Nat) : Int) - 1 = (j : Int) from by omega]
      obtain ⟨X, hX⟩ : ∃ X, A ^ (B / 2 ^ (j + 1)) % M = X := ⟨_, rfl⟩
      have hXlt : X < M := by rw [← hX]; exact Nat.mod_lt _ (by have := HM.out.2; omega)
      have e1 : X * X % M = A ^ (2 * (B / 2 ^ (j + 1))) % M := by rw [← hX]; exact pow_step
      rw [hX] at hw
      have C := shut (mul_any b 0 n b 0 n b3 o3 c3 n X X M wr hn HM.out.1 hXlt (Nat.lt_trans hXlt HM.out.1) hw.out.2.1.cells hw.out.2.1.cells (H3.out.now hw.out.2.2 hb3) hw.out.2.1.2 hw.out.2.1.2 (Nat.lt_of_lt_of_le hb3 hw.out.2.2.size))
      rw [e1] at C
      have e2 : (B / 2 ^ j % 2 = 1 → A * (A ^ (2 * (B / 2 ^ (j + 1))) % M) % M = A ^ (B / 2 ^ j) % M) ∧ (B / 2 ^ j % 2 = 0 → A ^ (2 * (B / 2 ^ (j + 1))) % M = A ^ (B / 2 ^ j) % M) := by
        exact pow_bits A B M j
      have hlt2 : A ^ (2 * (B / 2 ^ (j + 1))) % M < M := Nat.mod_lt _ (by have := HM.out.2; omega)
      obtain ⟨Y, hY⟩ : ∃ Y, A ^ (2 * (B / 2 ^ (j + 1))) % M = Y := ⟨_, rfl⟩
      rw [hY] at C e2 hlt2
      have E := shut (And.intro e2 hlt2)
      have hsz := shut hw.out.2.2.size
      clear hX hXlt e1 e2 hlt2 hY
      go_wp2_with fail
      refine C.out.mono ?_
      rintro e w1 ⟨b', rfl, hb', hown', hbel'⟩
      have Q := shut (And.intro hown' (hw.out.2.2.call hbel'))
      have HBB := shut (Nat.le_trans hsz.out hb')
      clear C hown' hbel' hb'
      have ca := (H2.out.now Q.out.2 hb2) (j / 64) i1
      have hb := bit_wd B j
      by_cases g : B / 2 ^ j % 2 = 1
      · have ht : (((wd B (j / 64) : Nat) / 2 ^ (j % 64) : Int).tmod 2 == 1) = true := by rw [bit_test, hb]; simpa using g
        have C2 := shut (mul_any b' 0 n b1 o1 c1 b3 o3 c3 n Y A M w1 hn HM.out.1 E.out.2 (Nat.lt_trans HM.out.2 HM.out.1) Q.out.1.cells (H1.out.now Q.out.2 hb1) (H3.out.now Q.out.2 hb3) Q.out.1.2 (Nat.lt_of_lt_of_le hb1 Q.out.2.size) (Nat.lt_of_lt_of_le hb3 Q.out.2.size))
        have G := shut (E.out.1.1 g)
        clear hb g
        go_wp2_with fail
        refine C2.out.mono ?_
        rintro e w2 ⟨b2', rfl, hb2', hown2, hbel2⟩
        have Q2 := shut (And.intro (Nat.le_trans Q.out.2.size hb2') (And.intro hown2 (Q.out.2.call hbel2)))
        rw [G.out] at Q2
        clear C2 hown2 hbel2 hb2'
        go_wp2_with fail
        go_roundw
        case rel => exact ⟨j, b2', by omega, rfl, rfl, Q2⟩
        case measure => simp [intOf]
      · have ht : (((wd B (j / 64) : Nat) / 2 ^ (j % 64) : Int).tmod 2 == 1) = false := by rw [bit_test, hb]; simpa using g
        have Q2 := shut (And.intro HBB.out Q.out)
        rw [E.out.1.2 (by omega)] at Q2
        clear hb g
        go_wp2_with fail
        go_roundw
        case rel => exact ⟨j, b', by omega, rfl, rfl, Q2⟩
        case measure => simp [intOf]

/-- 0, 1 or -1, by a power. -/
def chr (P : Nat) : Int := if P = 0 then 0 else if P = 1 then 1 else -1

set_option maxHeartbeats 800000 in
theorem char_any (b1 o1 c1 b3 o3 c3 n A M : Nat) (V : Int) (w : World) (hV : chr (A ^ (M / 2) % M) = V) (hn : n ≤ 64) (hn0 : 0 < n) (hM1 : 1 < M) (hM : M < 18446744073709551616 ^ n) (hA : A < M)
    (h1 : Cells w b1 o1 n A) (h3 : Cells w b3 o3 n M) (hb1 : b1 < w.heap.size) (hb3 : b3 < w.heap.size) :
    Calls Try.prog 11 #[.slice (some ⟨b1, o1, none⟩) n c1, .slice (some ⟨b3, o3, none⟩) n c3] w (Keeps w (.int .i64 V)) := by
  have H1 := shut h1; clear h1
  have H3 := shut h3; clear h3
  have HM := shut (And.intro hM (And.intro hA hM1)); clear hM hA hM1
  have hlt : A ^ (M / 2) % M < M := Nat.mod_lt _ (by have := HM.out.2.1; omega)
  obtain ⟨P, hP⟩ : ∃ P, A ^ (M / 2) % M = P := ⟨_, rfl⟩
  rw [hP] at hlt hV
  have HP := shut (Nat.lt_trans hlt HM.out.1)
  have HQ := shut hP
  clear hP hlt
  have HV := shut hV
  clear hV
  have C0 := shut (half_any b3 o3 c3 n M w hn HM.out.1 H3.out hb3)
  go_enter Try.func11, Try.ntmps11
  go_wp2_with fail
  refine C0.out.mono ?_
  rintro e w0 ⟨b0, rfl, hb0, hown0, hbel0⟩
  have Q0 := shut (And.intro hown0 ((Now.start (Nat.le_refl _)).call hbel0))
  clear C0 hb0 hown0 hbel0
  have C1 := shut (pow_any b1 o1 c1 b0 0 n b3 o3 c3 n A (M / 2) M w0 hn hn0 HM.out.2.2 HM.out.1 HM.out.2.1 (by have := HM.out.1; omega) (H1.out.now Q0.out.2 hb1) Q0.out.1.cells (H3.out.now Q0.out.2 hb3) (Nat.lt_of_lt_of_le hb1 Q0.out.2.size) Q0.out.1.2 (Nat.lt_of_lt_of_le hb3 Q0.out.2.size))
  rw [HQ.out] at C1
  go_wp2_with fail
  refine C1.out.mono ?_
  rintro e w1 ⟨b', rfl, hb', hown', hbel'⟩
  have Q1 := shut (And.intro hown' (Q0.out.2.call hbel'))
  clear C1 hb' hown' hbel'
  have C2 := shut (zero_any b' 0 n n P w1 hn HP.out Q1.out.1.cells)
  by_cases hz : P = 0
  · have hd : decide (P = 0) = true := by simpa using hz
    have HE : Shut (V = 0) := shut (by rw [← HV.out]; unfold chr; rw [if_pos hz])
    clear hz
    go_wp2_with fail
    refine C2.out.mono ?_
    rintro e w2 ⟨rfl, rfl⟩
    go_wp2_with fail
    go_ret
    exact ⟨by rw [HE.out]; rfl, Q1.out.2.below⟩
  · have hd : decide (P = 0) = false := by simpa using hz
    have C3 := shut (one_any n w1 hn hn0)
    by_cases ho : P = 1
    · have ho' : decide (P = 1) = true := by simpa using ho
      have HE : Shut (V = 1) := shut (by rw [← HV.out]; unfold chr; rw [if_neg hz, if_pos ho])
      clear hz ho
      go_wp2_with fail
      refine C2.out.mono ?_
      rintro e w2 ⟨rfl, rfl⟩
      go_wp2_with fail
      refine C3.out.mono ?_
      rintro e w3 ⟨b3', rfl, hb3', hown3, hbel3⟩
      have Q3 := shut (And.intro (Q1.out.1.below hbel3 Q1.out.1.2) (And.intro hown3 (Q1.out.2.call hbel3)))
      have C4 := shut (same_any b' 0 n b3' 0 n n P 1 w3 hn HP.out (Nat.lt_trans HM.out.2.2 HM.out.1) Q3.out.1.cells Q3.out.2.1.cells)
      clear hb3' hown3 hbel3
      go_wp2_with fail
      refine C4.out.mono ?_
      rintro e w4 ⟨rfl, m, rfl⟩
      go_wp2_with fail
      go_ret
      exact ⟨by rw [HE.out]; rfl, (Q3.out.2.2.drewN m).below⟩
    · have ho' : decide (P = 1) = false := by simpa using ho
      have HE : Shut (V = -1) := shut (by rw [← HV.out]; unfold chr; rw [if_neg hz, if_neg ho])
      clear hz ho
      go_wp2_with fail
      refine C2.out.mono ?_
      rintro e w2 ⟨rfl, rfl⟩
      go_wp2_with fail
      refine C3.out.mono ?_
      rintro e w3 ⟨b3', rfl, hb3', hown3, hbel3⟩
      have Q3 := shut (And.intro (Q1.out.1.below hbel3 Q1.out.1.2) (And.intro hown3 (Q1.out.2.call hbel3)))
      have C4 := shut (same_any b' 0 n b3' 0 n n P 1 w3 hn HP.out (Nat.lt_trans HM.out.2.2 HM.out.1) Q3.out.1.cells Q3.out.2.1.cells)
      clear hb3' hown3 hbel3
      go_wp2_with fail
      refine C4.out.mono ?_
      rintro e w4 ⟨rfl, m, rfl⟩
      go_wp2_with fail
      go_ret
      exact ⟨by rw [HE.out]; rfl, (Q3.out.2.2.drewN m).below⟩
end Go.Proofs.Ytfdmgelaiigocaa
