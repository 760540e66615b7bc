/- Primes: powers by squaring, Fermat, Pocklington's criterion, trial division; the field's prime is one. Plain numbers; no program in sight. -/
import Derived.Test.YtfdmgelaiigocaaSym
namespace Go.Proofs.Ytfdmgelaiigocaa
namespace Sym

/-- a to the power of e modulo n, by squaring. -/
def pm : Nat → Nat → Nat → Nat → Nat
  | 0, _, _, n => 1 % n
  | f + 1, a, e, n => if e % 2 = 1 then pm f (a * a % n) (e / 2) n * a % n else pm f (a * a % n) (e / 2) n
theorem pm_eq (n : Nat) : ∀ f a e, e < 2 ^ f → pm f a e n = a ^ e % n := by
  intro f
  induction f with
  | zero => intro a e h; obtain rfl : e = 0 := by omega
            rfl
  | succ f ih =>
    intro a e h
    have h2 : e / 2 < 2 ^ f := by rw [Nat.pow_succ] at h; omega
    have e1 : (a * a % n) ^ (e / 2) % n = a ^ (2 * (e / 2)) % n := by rw [← Nat.pow_mod, Nat.pow_mul, Nat.pow_two]
    unfold pm
    rw [ih _ _ h2, e1]
    split
    · rw [Nat.mod_mul_mod, ← Nat.pow_succ, show (2 * (e / 2)).succ = e from by omega]
    · rw [show 2 * (e / 2) = e from by omega]

theorem fermat {p b : Nat} (hp : Prm p) (hb : b % p ≠ 0) : b ^ (p - 1) % p = 1 := by
  have h1 := hp.1
  by_cases hodd : p % 2 = 1
  · have h := euler hp hodd hb
    rw [show p - 1 = p / 2 + p / 2 from by omega, Nat.pow_add, Nat.mul_mod, h]
    split
    · rw [Nat.one_mul, Nat.mod_eq_of_lt h1]
    · have : (p - 1) * (p - 1) = p * (p - 2) + 1 := by
        obtain ⟨q, rfl⟩ : ∃ q, p = q + 2 := ⟨p - 2, by omega⟩
        rw [show q + 2 - 1 = q + 1 from rfl, show q + 2 - 2 = q from rfl, Nat.add_mul, Nat.mul_add, Nat.add_mul]
        omega
      rw [this, Nat.mul_add_mod, Nat.mod_eq_of_lt h1]
  · rcases hp.2 2 (Nat.dvd_of_mod_eq_zero (by omega)) with h2 | h2
    · omega
    · subst h2
      rw [show 2 - 1 = 1 from rfl, Nat.pow_one]
      omega

theorem exists_prm : ∀ n, 1 < n → ∃ p, Prm p ∧ p ∣ n := by
  intro n
  induction n using Nat.strongRecOn with
  | ind n ih =>
    intro hn
    by_cases h : Prm n
    · exact ⟨n, h, Nat.dvd_refl n⟩
    · have : ∃ d, d ∣ n ∧ d ≠ 1 ∧ d ≠ n := by
        apply Classical.byContradiction
        intro hno
        refine h ⟨hn, fun d hd => ?_⟩
        by_cases h1 : d = 1
        · exact Or.inl h1
        · by_cases h2 : d = n
          · exact Or.inr h2
          · exact absurd ⟨d, hd, h1, h2⟩ hno
      obtain ⟨d, hd, h1, h2⟩ := this
      have hle := Nat.le_of_dvd (by omega) hd
      have h0 : d ≠ 0 := by intro e; subst e; have := Nat.eq_zero_of_zero_dvd hd; omega
      obtain ⟨p, hp, hpd⟩ := ih d (by omega) (by omega)
      exact ⟨p, hp, Nat.dvd_trans hpd hd⟩
theorem prm_of_big {n : Nat} (hn : 1 < n) (h : ∀ p, Prm p → p ∣ n → n < p * p) : Prm n := by
  refine ⟨hn, fun d hd => ?_⟩
  obtain ⟨e, he⟩ := hd
  by_cases h1 : d = 1
  · exact Or.inl h1
  by_cases h2 : e = 1
  · right; rw [he, h2, Nat.mul_one]
  exfalso
  have hd0 : 0 < d := by rcases Nat.eq_zero_or_pos d with h0 | h0; (· rw [h0, Nat.zero_mul] at he; omega); exact h0
  have he0 : 0 < e := by rcases Nat.eq_zero_or_pos e with h0 | h0; (· rw [h0, Nat.mul_zero] at he; omega); exact h0
  obtain ⟨p, hp, hpd⟩ := exists_prm d (by omega)
  obtain ⟨q, hq, hqe⟩ := exists_prm e (by omega)
  have a1 := h p hp (he ▸ Nat.dvd_trans hpd (Nat.dvd_mul_right d e))
  have a2 := h q hq (he ▸ Nat.dvd_trans hqe (Nat.dvd_mul_left e d))
  have b1 := Nat.le_of_dvd hd0 hpd
  have b2 := Nat.le_of_dvd he0 hqe
  rcases Nat.le_total d e with g | g
  · have : p * p ≤ d * e := Nat.mul_le_mul b1 (Nat.le_trans b1 g)
    omega
  · have : q * q ≤ d * e := Nat.mul_le_mul (Nat.le_trans b2 g) b2
    omega

theorem pow_gcd {p b : Nat} (hp : 1 < p) : ∀ x y, b ^ x % p = 1 → b ^ y % p = 1 → b ^ Nat.gcd x y % p = 1 := by
  intro x y
  induction x, y using Nat.gcd.induction with
  | H0 y => intro _ h; rw [Nat.gcd_zero_left]; exact h
  | H1 x y hx ih =>
    intro h1 h2
    rw [Nat.gcd_rec]
    refine ih ?_ h1
    have e : b ^ y = (b ^ x) ^ (y / x) * b ^ (y % x) := by rw [← Nat.pow_mul, ← Nat.pow_add, Nat.div_add_mod]
    rw [e, Nat.mul_mod, Nat.pow_mod, h1, Nat.one_pow, Nat.mod_eq_of_lt hp, Nat.one_mul, Nat.mod_mod] at h2
    exact h2
theorem mod_of_dvd {p N x : Nat} (hpN : p ∣ N) (hp : 1 < p) (h : x % N = 1) : x % p = 1 := by
  have : x % N % p = x % p := Nat.mod_mod_of_dvd x hpN
  rw [h, Nat.mod_eq_of_lt hp] at this
  exact this.symm

/-- What a prime factor of N - 1 says of N's prime factors (Pocklington). -/
theorem pock_dvd {N q r a : Nat} (hq : Prm q) (hN : 1 < N) (hqr : q * r = N - 1) (h1 : a ^ (N - 1) % N = 1) (h2 : Nat.gcd (a ^ r % N + (N - 1)) N = 1) {p : Nat} (hp : Prm p) (hpN : p ∣ N) : q ∣ p - 1 := by
  have hp1 := hp.1
  have b1 : (a ^ r) ^ q % p = 1 := by
    rw [← Nat.pow_mul, Nat.mul_comm, hqr]; exact mod_of_dvd hpN hp1 h1
  have b0 : a ^ r % p ≠ 1 := by
    intro e
    have hd : p ∣ a ^ r % N + (N - 1) := by
      have e2 : a ^ r % N % p = 1 := by rw [Nat.mod_mod_of_dvd _ hpN]; exact e
      obtain ⟨t, ht⟩ := hpN
      refine Nat.dvd_of_mod_eq_zero ?_
      rw [Nat.add_mod, e2]
      have e3 : (N - 1) % p = p - 1 := by
        have ht0 : t ≠ 0 := by intro e; subst e; omega
        obtain ⟨s, rfl⟩ : ∃ s, t = s + 1 := ⟨t - 1, by omega⟩
        rw [show N - 1 = p * s + (p - 1) from by rw [ht, Nat.mul_add]; omega, Nat.mul_add_mod, Nat.mod_eq_of_lt (by omega)]
      rw [e3, show 1 + (p - 1) = p from by omega, Nat.mod_self]
    have := Nat.dvd_gcd hd hpN
    rw [h2] at this
    have := Nat.le_of_dvd (by omega) this
    omega
  have bz : a ^ r % p ≠ 0 := by
    intro e
    rw [Nat.pow_mod, e, Nat.zero_pow (show 0 < q by have := hq.1; omega), Nat.zero_mod] at b1
    omega
  have b2 := fermat hp bz
  have b3 := pow_gcd hp1 _ _ b1 b2
  rcases hq.2 _ (Nat.gcd_dvd_left q (p - 1)) with g | g
  · rw [g, Nat.pow_one] at b3; exact absurd b3 b0
  · exact g ▸ Nat.gcd_dvd_right q (p - 1)
theorem pock {N F : Nat} (hN : 1 < N) (h : ∀ p, Prm p → p ∣ N → F ∣ p - 1) (hF : N ≤ F * F) : Prm N := by
  refine prm_of_big hN fun p hp hpN => ?_
  have h0 := hp.1
  have h1 := h p hp hpN
  have h2 := Nat.le_of_dvd (by omega) h1
  have h3 : F * F < p * p := Nat.mul_lt_mul_of_lt_of_le (by omega) (by omega) (by omega)
  omega

/-- No number from d on, up to so many, divides n. -/
def nodiv : Nat → Nat → Nat → Bool
  | 0, _, _ => true
  | f + 1, d, n => n % d != 0 && nodiv f (d + 1) n
theorem nodiv_spec : ∀ f d n, nodiv f d n = true → ∀ x, d ≤ x → x < d + f → n % x ≠ 0 := by
  intro f
  induction f with
  | zero => intro d n _ x h1 h2; omega
  | succ f ih =>
    intro d n h x h1 h2
    simp only [nodiv, Bool.and_eq_true, bne_iff_ne] at h
    by_cases e : x = d
    · rw [e]; exact h.1
    · exact ih (d + 1) n h.2 x (by omega) (by omega)
theorem prm_trial {n f : Nat} (hn : 1 < n) (h : nodiv f 2 n = true) (hf : n < (f + 2) * (f + 2)) : Prm n := by
  refine prm_of_big hn fun p hp hpn => ?_
  rcases Nat.lt_or_ge p (f + 2) with g | g
  · exact absurd (Nat.mod_eq_zero_of_dvd hpn) (nodiv_spec f 2 n h p hp.1 (by omega))
  · exact Nat.lt_of_lt_of_le hf (Nat.mul_le_mul g g)

end Sym
end Go.Proofs.Ytfdmgelaiigocaa
