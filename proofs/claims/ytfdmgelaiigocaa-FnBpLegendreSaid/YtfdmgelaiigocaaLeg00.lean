/- What is left behind a round of the symbol's loop: signs, words, shifts. -/
import Derived.Test.YtfdmgelaiigocaaLeg0
namespace Go.Proofs.Ytfdmgelaiigocaa
open Go.RowKit Num

theorem sign_and {x : Int} (h : Wd x) : bits .and .u64 x 9223372036854775808 = if x < 9223372036854775808 then 0 else 9223372036854775808 := by
  obtain ⟨h0, h1⟩ := h
  obtain ⟨x, rfl⟩ := Int.eq_ofNat_of_zero_le h0
  have e := high_mask x 63 (by omega) (by decide)
  rw [show 18446744073709551616 - 2 ^ 63 = 9223372036854775808 from rfl] at e
  rw [show (9223372036854775808 : Int) = ((9223372036854775808 : Nat) : Int) from rfl, u64_and_nat x _ (by omega) (by decide), e]
  split <;> omega

theorem shift_word (M i : Nat) : bits .or .u64 (((wd (1073741824 * M) i : Nat) : Int) / 1073741824) (IntKind.u64.wrap (((wd (1073741824 * M) (i + 1) : Nat) : Int) * 17179869184)) = ((wd M i : Nat) : Int) := by
  have h1 := wd_lt (1073741824 * M) i
  have h2 := wd_lt (1073741824 * M) (i + 1)
  have e : wd M i = wd (1073741824 * M) i / 1073741824 + 17179869184 * (wd (1073741824 * M) (i + 1) % 1073741824) := by
    unfold wd
    rw [Nat.pow_succ, ← Nat.div_div_eq_div_mul]
    have e2 : M / 18446744073709551616 ^ i = 1073741824 * M / 18446744073709551616 ^ i / 1073741824 := by
      rw [Nat.div_div_eq_div_mul, Nat.mul_comm (18446744073709551616 ^ i), ← Nat.div_div_eq_div_mul, Nat.mul_div_cancel_left _ (by decide)]
    rw [e2]
    generalize 1073741824 * M / 18446744073709551616 ^ i = q
    omega
  rw [e]
  generalize wd (1073741824 * M) i = p at *
  generalize wd (1073741824 * M) (i + 1) = r at *
  have e3 : IntKind.u64.wrap ((r : Int) * 17179869184) = ((2 ^ 34 * (r % 1073741824) : Nat) : Int) := by
    rw [u64wrap]; omega
  rw [e3, show ((p : Int) / 1073741824) = ((p / 1073741824 : Nat) : Int) from by omega, or_join 34 (p / 1073741824) (r % 1073741824) (by omega) (by omega) (by omega)]

theorem comb_pos {p0 p1 p2 p3 p4 p5 ph A k : Int} (g0 : Wd p0) (g1 : Wd p1) (g2 : Wd p2) (g3 : Wd p3) (g4 : Wd p4) (g5 : Wd p5) (gh : Wd ph) (h : numh p0 p1 p2 p3 p4 p5 ph = 1073741824 * A + 726838724295606890549323807888004534353641360687318060281490199180639288113397923326191050713763565560762521606266177933534601628614656 * k) (hA : A.natAbs < 39402006196394479212279040100143613805079739270465446667948293404245721771497210611414266254884915640806627990306816) (h0 : ¬ A < 0) :
    bits .and .u64 ph 9223372036854775808 = 0 ∧ (p0 = (wd (1073741824 * A.natAbs) 0 : Nat) ∧ p1 = (wd (1073741824 * A.natAbs) 1 : Nat) ∧ p2 = (wd (1073741824 * A.natAbs) 2 : Nat) ∧ p3 = (wd (1073741824 * A.natAbs) 3 : Nat) ∧ p4 = (wd (1073741824 * A.natAbs) 4 : Nat) ∧ p5 = (wd (1073741824 * A.natAbs) 5 : Nat)) ∧ ph = (wd (1073741824 * A.natAbs) 6 : Nat) := by
  have hb := numh_bd g0 g1 g2 g3 g4 g5 gh
  have hk : k = 0 := by
    generalize numh p0 p1 p2 p3 p4 p5 ph = n at *
    omega
  subst hk
  have he : numh p0 p1 p2 p3 p4 p5 ph = ((1073741824 * A.natAbs : Nat) : Int) := by
    generalize numh p0 p1 p2 p3 p4 p5 ph = n at *
    omega
  obtain ⟨e0, e1, e2, e3, e4, e5, e⟩ := wd_numh g0 g1 g2 g3 g4 g5 gh he
  refine ⟨?_, ⟨e0, e1, e2, e3, e4, e5⟩, e⟩
  rw [sign_and gh, if_pos ?_]
  have : num p0 p1 p2 p3 p4 p5 ≥ 0 := num_pos g0 g1 g2 g3 g4 g5
  unfold numh at h
  generalize num p0 p1 p2 p3 p4 p5 = n at *
  omega
theorem comb_neg {p0 p1 p2 p3 p4 p5 ph A k : Int} (g0 : Wd p0) (g1 : Wd p1) (g2 : Wd p2) (g3 : Wd p3) (g4 : Wd p4) (g5 : Wd p5) (gh : Wd ph) (h : numh p0 p1 p2 p3 p4 p5 ph = 1073741824 * A + 726838724295606890549323807888004534353641360687318060281490199180639288113397923326191050713763565560762521606266177933534601628614656 * k) (hA : A.natAbs < 39402006196394479212279040100143613805079739270465446667948293404245721771497210611414266254884915640806627990306816) (h0 : A < 0) :
    bits .and .u64 ph 9223372036854775808 = 9223372036854775808 ∧ ∀ {q0 q1 q2 q3 q4 q5 qh k' : Int} (_g0 : Wd q0) (_g1 : Wd q1) (_g2 : Wd q2) (_g3 : Wd q3) (_g4 : Wd q4) (_g5 : Wd q5) (_ : Wd qh) (_ : numh q0 q1 q2 q3 q4 q5 qh = - numh p0 p1 p2 p3 p4 p5 ph + 726838724295606890549323807888004534353641360687318060281490199180639288113397923326191050713763565560762521606266177933534601628614656 * k'), (q0 = (wd (1073741824 * A.natAbs) 0 : Nat) ∧ q1 = (wd (1073741824 * A.natAbs) 1 : Nat) ∧ q2 = (wd (1073741824 * A.natAbs) 2 : Nat) ∧ q3 = (wd (1073741824 * A.natAbs) 3 : Nat) ∧ q4 = (wd (1073741824 * A.natAbs) 4 : Nat) ∧ q5 = (wd (1073741824 * A.natAbs) 5 : Nat)) ∧ qh = (wd (1073741824 * A.natAbs) 6 : Nat) := by
  have hb := numh_bd g0 g1 g2 g3 g4 g5 gh
  have hk : k = 1 := by
    generalize numh p0 p1 p2 p3 p4 p5 ph = n at *
    omega
  subst hk
  constructor
  · rw [sign_and gh, if_neg ?_]
    have := num_top g0 g1 g2 g3 g4 g5
    unfold numh at h
    generalize num p0 p1 p2 p3 p4 p5 = n at *
    omega
  · intro q0 q1 q2 q3 q4 q5 qh k2 gq0 gq1 gq2 gq3 gq4 gq5 gqh hq
    have hbq := numh_bd gq0 gq1 gq2 gq3 gq4 gq5 gqh
    have he : numh q0 q1 q2 q3 q4 q5 qh = ((1073741824 * A.natAbs : Nat) : Int) := by
      generalize numh p0 p1 p2 p3 p4 p5 ph = n at *
      generalize numh q0 q1 q2 q3 q4 q5 qh = m at *
      omega
    obtain ⟨e0, e1, e2, e3, e4, e5, e⟩ := wd_numh gq0 gq1 gq2 gq3 gq4 gq5 gqh he
    exact ⟨⟨e0, e1, e2, e3, e4, e5⟩, e⟩

theorem Own.grows {g b n A : Nat} {w w' : World} (h : Own w b n A) (hg : Grows g w w') (hne : b ≠ g) : Own w' b n A :=
  ⟨fun i hi => ⟨(hg.cell b i hne h.2).trans (h.1 i hi).1, (hg.frozen b i h.2).trans (h.1 i hi).2⟩, Nat.lt_of_lt_of_le h.2 hg.size⟩
theorem Now.grows {B g : Nat} {W0 w w' : World} (h : Now B W0 w) (hg : Grows g w w') (hB : B ≤ g) : Now B W0 w' := ⟨h.below.trans (hg.below.mono hB), Nat.le_trans h.size hg.size⟩

theorem below_at {B : Nat} {W0 w : World} (h : Below B W0 w) (o : Nat) (u : Value) : Below B W0 (w.setCell ⟨B, o, none⟩ u) := h.setCell (Nat.le_refl _) u

/-- What a round leaves, in numbers. -/
theorem inn_end {A B x y a1 b1 n : Nat} {Z d0 d1 l : Int} (h : Inn A B x y Z 30 a1 b1 d0 d1 l) (hA : A < 39402006196394479212279040100143613805079739270465446667948293404245721771497210611414266254884915640806627990306816) (hB : B < 39402006196394479212279040100143613805079739270465446667948293404245721771497210611414266254884915640806627990306816) (hodd : B % 2 = 1) (h0 : A ≠ 0)
    (hn : n = max (blen A) (blen B)) (hA2 : A < 2 ^ n) (hB2 : B < 2 ^ n) (hx : apx A n = x) (hy : apx B n = y) :
    ∃ f0 g0 f1 g1 A' B' l1 : Int, (d0 = f0 + 4294967296 * g0 ∧ d1 = f1 + 4294967296 * g1) ∧ (-1073741824 ≤ f0 ∧ f0 ≤ 1073741824 ∧ -1073741824 ≤ g0 ∧ g0 ≤ 1073741824 ∧ -1073741824 ≤ f1 ∧ f1 ≤ 1073741824 ∧ -1073741824 ≤ g1 ∧ g1 ≤ 1073741824) ∧
      ((A : Int) * f0 + B * g0 = 1073741824 * A' ∧ (A : Int) * f1 + B * g1 = 1073741824 * B') ∧ (A'.natAbs < 39402006196394479212279040100143613805079739270465446667948293404245721771497210611414266254884915640806627990306816 ∧ B'.natAbs < 39402006196394479212279040100143613805079739270465446667948293404245721771497210611414266254884915640806627990306816) ∧ A'.natAbs + B'.natAbs < A + B ∧ B'.natAbs % 2 = 1 ∧
      (l1 = if A' < 0 ∧ b1 % 4 = 3 then -l else l) ∧ (l1 = 1 ∨ l1 = -1) ∧ l1 * Sym.K A'.natAbs B'.natAbs = Z := by
  obtain ⟨⟨f0, g0, f1, g1, A', B', t, u, hs, e0, e1⟩, one, la, lb⟩ := h
  obtain ⟨E, ε, hE, dx, dy, hε⟩ := apx_near hA2 hB2 hn h0
  rw [hx] at dx
  rw [hy] at dy
  have hless := hs.less (by omega) (by omega) hE dx dy hε
  have htop := hs.top (M := ((max A B : Nat) : Int)) (by omega) (by omega)
  have r0 := hs.r0
  have r1 := hs.r1
  have eA := hs.eA
  have eB := hs.eB
  have dB := hs.dB
  rw [show (2 : Int) ^ 30 = 1073741824 from rfl] at r0 r1 eA eB
  rw [show (2 : Int) ^ (32 - 30) = 4 from rfl] at dB
  refine ⟨f0, g0, f1, g1, A', B', _, ⟨e0, e1⟩, by omega, ⟨by rw [← eA, Int.mul_comm f0, Int.mul_comm g0], by rw [← eB, Int.mul_comm f1, Int.mul_comm g1]⟩, by omega, by omega, by have := hs.odd; omega, rfl, by split <;> omega, ?_⟩
  have hsy := hs.sy
  by_cases hneg : A' < 0
  · have hB0 : 0 ≤ B' := by have := hs.ns; omega
    have e2 : ((A'.natAbs : Nat) : Int) = -A' := by omega
    have e3 : ((B'.natAbs : Nat) : Int) = B' := by omega
    rw [e2, e3, Sym.K_nega A' B' hneg hs.odd hB0, ← hsy]
    unfold Sym.ch4
    by_cases h4 : b1 % 4 = 3
    · rw [if_pos ⟨hneg, h4⟩, if_pos (by omega), Int.neg_mul (1 : Int), Int.one_mul, Int.neg_mul_neg]
    · rw [if_neg (by omega), if_neg (by omega), Int.one_mul]
  · rw [if_neg (by omega)]
    have e2 : ((A'.natAbs : Nat) : Int) = A' := by omega
    have e3 : Sym.K A' (B'.natAbs : Nat) = Sym.K A' B' := by
      by_cases hb : B' < 0
      · rw [show ((B'.natAbs : Nat) : Int) = -B' from by omega, Sym.K_negb]
      · rw [show ((B'.natAbs : Nat) : Int) = B' from by omega]
    rw [e2, e3, hsy]
end Go.Proofs.Ytfdmgelaiigocaa
