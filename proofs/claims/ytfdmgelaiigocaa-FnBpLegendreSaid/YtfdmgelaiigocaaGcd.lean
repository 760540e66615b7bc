/- What the steps of a round of the symbol's loop leave: exact numbers beside their approximations. Plain numbers; no program in sight. -/
import Derived.Test.YtfdmgelaiigocaaKro
namespace Go.Proofs.Ytfdmgelaiigocaa
namespace Sym

/-- Behind j steps of a round over a and b with approximations x and y: exact A and B, approximations α and β, the rows of factors, the sign l. -/
structure St (a b x y k : Int) (j : Nat) (α β f0 g0 f1 g1 A B t u l : Int) : Prop where
  r0 : (f0.natAbs : Int) + g0.natAbs ≤ 2 ^ j
  r1 : (f1.natAbs : Int) + g1.natAbs ≤ 2 ^ j
  eA : f0 * a + g0 * b = 2 ^ j * A
  eB : f1 * a + g1 * b = 2 ^ j * B
  ea : f0 * x + g0 * y = 2 ^ j * α
  eb : f1 * x + g1 * y = 2 ^ j * β
  dA : α - A = 2 ^ (32 - j) * t
  dB : β - B = 2 ^ (32 - j) * u
  pa : 0 ≤ α
  pb : 0 ≤ β
  odd : B % 2 = 1
  ns : ¬ (A < 0 ∧ B < 0)
  sy : l * K A B = k
  fall : α + β ≤ x + y
  half : 2 * (α + β) ≤ x + y ∨ (2 ^ j * A = a ∧ B = b)

theorem pows {j : Nat} (hj : j < 30) : ∃ p m : Int, (2 : Int) ^ j = p ∧ (2 : Int) ^ (j + 1) = 2 * p ∧ (2 : Int) ^ (32 - j) = 8 * m ∧ (2 : Int) ^ (32 - (j + 1)) = 4 * m := by
  refine ⟨2 ^ j, 2 ^ (29 - j), rfl, ?_, ?_, ?_⟩
  · rw [Int.pow_succ, Int.mul_comm]
  · rw [show 32 - j = (29 - j) + 3 from by omega, Int.pow_add, Int.mul_comm]; rfl
  · rw [show 32 - (j + 1) = (29 - j) + 2 from by omega, Int.pow_add, Int.mul_comm]; rfl

theorem four_two (m u : Int) : 4 * m * (2 * u) = 8 * (m * u) := by
  rw [Int.mul_assoc, Int.mul_left_comm m 2 u]
  generalize m * u = q
  omega

theorem ch8_congr {a b : Int} (h : a % 8 = b % 8) : ch8 a = ch8 b := by unfold ch8; rw [h]
theorem ch4_congr {a b a' b' : Int} (h : a % 4 = a' % 4) (g : b % 4 = b' % 4) : ch4 a b = ch4 a' b' := by unfold ch4; rw [h, g]

theorem St.start {a b x y : Int} (k l : Int) (ha : 0 ≤ a) (hx : 0 ≤ x) (hy : 0 ≤ y) (hb : b % 2 = 1) (dx : x % 4294967296 = a % 4294967296) (dy : y % 4294967296 = b % 4294967296) (hs : l * K a b = k) :
    ∃ t u, St a b x y k 0 x y 1 0 0 1 a b t u l := by
  refine ⟨(x - a) / 4294967296, (y - b) / 4294967296, ⟨by decide, by decide, by omega, by omega, by omega, by omega, ?_, ?_, hx, hy, hb, by omega, hs, by omega, Or.inr ⟨by omega, rfl⟩⟩⟩
  · show x - a = 4294967296 * _
    omega
  · show y - b = 4294967296 * _
    omega

theorem St.par {a b x y k : Int} {j : Nat} {α β f0 g0 f1 g1 A B t u l : Int} (h : St a b x y k j α β f0 g0 f1 g1 A B t u l) (hj : j < 30) : α % 8 = A % 8 ∧ β % 8 = B % 8 := by
  obtain ⟨p, m, -, -, e3, -⟩ := pows hj
  have dA := h.dA; have dB := h.dB
  rw [e3, Int.mul_assoc] at dA dB
  generalize m * t = q at *
  generalize m * u = r at *
  omega

theorem St.even {a b x y k : Int} {j : Nat} {α β f0 g0 f1 g1 A B t u l : Int} (h : St a b x y k j α β f0 g0 f1 g1 A B t u l) (hj : j < 30) (he : α % 2 = 0) :
    ∃ A' t' u', St a b x y k (j + 1) (α / 2) β f0 g0 (2 * f1) (2 * g1) A' B t' u' (ch8 β * l) := by
  obtain ⟨hpA, hpB⟩ := h.par hj
  obtain ⟨p, m, e1, e2, e3, e4⟩ := pows hj
  obtain ⟨r0, r1, eA, eB, ea, eb, dA, dB, pa, pb, odd, ns, sy, fall, half⟩ := h
  obtain ⟨A', rfl⟩ : ∃ A', A = 2 * A' := ⟨A / 2, by omega⟩
  obtain ⟨α', rfl⟩ : ∃ α', α = 2 * α' := ⟨α / 2, by omega⟩
  rw [show 2 * α' / 2 = α' from by omega]
  rw [e1] at r0 r1 eA eB ea eb half
  rw [e3] at dA dB
  refine ⟨A', t, 2 * u, ⟨by rw [e2]; omega, by rw [e2]; omega, ?_, ?_, ?_, ?_, ?_, ?_, by omega, pb, odd, by omega, ?_, by omega, ?_⟩⟩
  · rw [e2, eA, Int.mul_assoc, Int.mul_left_comm]
  · rw [e2, Int.mul_assoc, Int.mul_assoc, Int.mul_assoc, ← eB]; omega
  · rw [e2, ea, Int.mul_assoc, Int.mul_left_comm]
  · rw [e2, Int.mul_assoc, Int.mul_assoc, Int.mul_assoc, ← eb]; omega
  · rw [e4, Int.mul_assoc]; rw [Int.mul_assoc] at dA
    generalize m * t = q at *
    omega
  · rw [e4, four_two]; rw [Int.mul_assoc] at dB
    generalize m * u = q at *
    omega
  · rw [← sy, K_two A' B odd, ch8_congr hpB]
    rw [Int.mul_comm (ch8 B) l, Int.mul_assoc]
  · rw [e2]
    rcases half with h1 | h1
    · left; omega
    · right
      exact ⟨by rw [← h1.1, Int.mul_assoc, Int.mul_left_comm], h1.2⟩

theorem St.sub {a b x y k : Int} {j : Nat} {α β f0 g0 f1 g1 A B t u l : Int} (h : St a b x y k j α β f0 g0 f1 g1 A B t u l) (hj : j < 30) (he : α % 2 = 1) (hle : β ≤ α) :
    ∃ A' t' u', St a b x y k (j + 1) ((α - β) / 2) β (f0 - f1) (g0 - g1) (2 * f1) (2 * g1) A' B t' u' (ch8 β * l) := by
  obtain ⟨hpA, hpB⟩ := h.par hj
  obtain ⟨p, m, e1, e2, e3, e4⟩ := pows hj
  obtain ⟨r0, r1, eA, eB, ea, eb, dA, dB, pa, pb, odd, ns, sy, fall, half⟩ := h
  obtain ⟨A', hA'⟩ : ∃ A', A - B = 2 * A' := ⟨(A - B) / 2, by omega⟩
  obtain ⟨α', hα'⟩ : ∃ α', α - β = 2 * α' := ⟨(α - β) / 2, by omega⟩
  rw [show (α - β) / 2 = α' from by omega]
  rw [e1] at r0 r1 eA eB ea eb half
  rw [e3] at dA dB
  refine ⟨A', t - u, 2 * u, ⟨by rw [e2]; omega, by rw [e2]; omega, ?_, ?_, ?_, ?_, ?_, ?_, by omega, pb, odd, by omega, ?_, by omega, Or.inl (by omega)⟩⟩
  · have q := congrArg (fun z => p * z) hA'
    simp only [Int.mul_sub] at q
    rw [e2, Int.mul_assoc, Int.mul_left_comm 2 p, ← q, Int.sub_mul, Int.sub_mul, ← eA, ← eB]
    omega
  · rw [e2, Int.mul_assoc, Int.mul_assoc, Int.mul_assoc, ← eB]; omega
  · have q := congrArg (fun z => p * z) hα'
    simp only [Int.mul_sub] at q
    rw [e2, Int.mul_assoc, Int.mul_left_comm 2 p, ← q, Int.sub_mul, Int.sub_mul, ← ea, ← eb]
    omega
  · rw [e2, Int.mul_assoc, Int.mul_assoc, Int.mul_assoc, ← eb]; omega
  · rw [e4, Int.mul_assoc, Int.mul_sub]; rw [Int.mul_assoc] at dA dB
    generalize m * t = q at *
    generalize m * u = q at *
    omega
  · rw [e4, four_two]; rw [Int.mul_assoc] at dB
    generalize m * u = q at *
    omega
  · rw [← sy, ← K_sub A B odd, hA', K_two A' B odd, ch8_congr hpB]
    rw [Int.mul_comm (ch8 B) l, Int.mul_assoc]

theorem St.swap {a b x y k : Int} {j : Nat} {α β f0 g0 f1 g1 A B t u l : Int} (h : St a b x y k j α β f0 g0 f1 g1 A B t u l) (hj : j < 30) (he : α % 2 = 1) (hlt : α < β) :
    ∃ A' t' u', St a b x y k (j + 1) ((β - α) / 2) α (f1 - f0) (g1 - g0) (2 * f0) (2 * g0) A' A t' u' (ch8 α * (ch4 α β * l)) := by
  obtain ⟨hpA, hpB⟩ := h.par hj
  obtain ⟨p, m, e1, e2, e3, e4⟩ := pows hj
  obtain ⟨r0, r1, eA, eB, ea, eb, dA, dB, pa, pb, odd, ns, sy, fall, half⟩ := h
  obtain ⟨A', hA'⟩ : ∃ A', B - A = 2 * A' := ⟨(B - A) / 2, by omega⟩
  obtain ⟨α', hα'⟩ : ∃ α', β - α = 2 * α' := ⟨(β - α) / 2, by omega⟩
  have hAo : A % 2 = 1 := by omega
  rw [show (β - α) / 2 = α' from by omega]
  rw [e1] at r0 r1 eA eB ea eb half
  rw [e3] at dA dB
  refine ⟨A', u - t, 2 * t, ⟨by rw [e2]; omega, by rw [e2]; omega, ?_, ?_, ?_, ?_, ?_, ?_, by omega, pa, hAo, by omega, ?_, by omega, Or.inl (by omega)⟩⟩
  · have q := congrArg (fun z => p * z) hA'
    simp only [Int.mul_sub] at q
    rw [e2, Int.mul_assoc, Int.mul_left_comm 2 p, ← q, Int.sub_mul, Int.sub_mul, ← eA, ← eB]
    omega
  · rw [e2, Int.mul_assoc, Int.mul_assoc, Int.mul_assoc, ← eA]; omega
  · have q := congrArg (fun z => p * z) hα'
    simp only [Int.mul_sub] at q
    rw [e2, Int.mul_assoc, Int.mul_left_comm 2 p, ← q, Int.sub_mul, Int.sub_mul, ← ea, ← eb]
    omega
  · rw [e2, Int.mul_assoc, Int.mul_assoc, Int.mul_assoc, ← ea]; omega
  · rw [e4, Int.mul_assoc, Int.mul_sub]; rw [Int.mul_assoc] at dA dB
    generalize m * t = q at *
    generalize m * u = q at *
    omega
  · rw [e4, four_two]; rw [Int.mul_assoc] at dA
    generalize m * t = q at *
    omega
  · rw [← sy, K_swap A B hAo odd ns, ← K_sub B A hAo, hA', K_two A' A hAo, ch8_congr hpA, ch4_congr (a := α) (a' := A) (b := β) (b' := B) (by omega) (by omega)]
    generalize ch8 A = c
    generalize ch4 A B = d
    generalize K A' A = e
    simp only [Int.mul_comm, Int.mul_left_comm]

theorem abs_comb {f g d e ε p : Int} (hf : (f.natAbs : Int) + g.natAbs ≤ p) (hd : (d.natAbs : Int) ≤ ε) (he : (e.natAbs : Int) ≤ ε) : (((f * d + g * e).natAbs : Nat) : Int) ≤ p * ε := by
  have h1 : ((f * d).natAbs : Int) ≤ f.natAbs * ε := by rw [Int.natAbs_mul, Int.natCast_mul]; exact Int.mul_le_mul_of_nonneg_left hd (by omega)
  have h2 : ((g * e).natAbs : Int) ≤ g.natAbs * ε := by rw [Int.natAbs_mul, Int.natCast_mul]; exact Int.mul_le_mul_of_nonneg_left he (by omega)
  have h3 : ((f.natAbs : Int) + g.natAbs) * ε ≤ p * ε := Int.mul_le_mul_of_nonneg_right hf (by omega)
  rw [Int.add_mul] at h3
  generalize f * d = s at *
  generalize g * e = r at *
  generalize (f.natAbs : Int) * ε = s1 at *
  generalize (g.natAbs : Int) * ε = r1 at *
  omega

/-- What one round leaves: the exact numbers are not greater than the greater one, ... -/
theorem St.top {a b x y k : Int} {α β f0 g0 f1 g1 A B t u l M : Int} (h : St a b x y k 30 α β f0 g0 f1 g1 A B t u l) (ha : (a.natAbs : Int) ≤ M) (hb : (b.natAbs : Int) ≤ M) : (A.natAbs : Int) ≤ M ∧ (B.natAbs : Int) ≤ M := by
  have h0 := abs_comb h.r0 ha hb
  have h1 := abs_comb h.r1 ha hb
  rw [h.eA] at h0
  rw [h.eB] at h1
  rw [show (2 : Int) ^ 30 = 1073741824 from rfl] at h0 h1
  omega
/-- .. and their sum falls. -/
theorem St.less {a b x y k : Int} {α β f0 g0 f1 g1 A B t u l E ε : Int} (h : St a b x y k 30 α β f0 g0 f1 g1 A B t u l) (ha : 0 < a) (hb : 0 ≤ b) (hE : 0 ≤ E)
    (dx : ((a - E * x).natAbs : Int) ≤ ε) (dy : ((b - E * y).natAbs : Int) ≤ ε) (hε : 6 * ε < a + b) : (A.natAbs : Int) + B.natAbs < a + b := by
  have h0 := abs_comb h.r0 dx dy
  have h1 := abs_comb h.r1 dx dy
  have key : ∀ f g z Z : Int, f * a + g * b = 2 ^ 30 * Z → f * x + g * y = 2 ^ 30 * z → f * (a - E * x) + g * (b - E * y) = 1073741824 * (Z - E * z) := by
    intro f g z Z e1 e2
    have e3 := congrArg (fun v => E * v) e2
    simp only [Int.mul_add] at e3
    rw [show (2 : Int) ^ 30 = 1073741824 from rfl] at e1 e3
    rw [Int.mul_sub, Int.mul_sub, Int.mul_sub, Int.mul_left_comm f E x, Int.mul_left_comm g E y]
    rw [Int.mul_left_comm E 1073741824 z] at e3
    omega
  rw [key _ _ _ _ h.eA h.ea] at h0
  rw [key _ _ _ _ h.eB h.eb] at h1
  rw [show (2 : Int) ^ 30 = 1073741824 from rfl] at h0 h1
  have hh := h.half
  rw [show (2 : Int) ^ 30 = 1073741824 from rfl] at hh
  rcases hh with hh | hh
  · have g1 := Int.mul_le_mul_of_nonneg_left hh hE
    rw [Int.mul_left_comm, Int.mul_add E α β, Int.mul_add E x y] at g1
    have p1 := Int.mul_nonneg hE h.pa
    have p2 := Int.mul_nonneg hE h.pb
    generalize E * α = q1 at *
    generalize E * β = q2 at *
    generalize E * x = q3 at *
    generalize E * y = q4 at *
    omega
  · obtain ⟨h2, rfl⟩ := hh
    omega
end Sym
end Go.Proofs.Ytfdmgelaiigocaa
