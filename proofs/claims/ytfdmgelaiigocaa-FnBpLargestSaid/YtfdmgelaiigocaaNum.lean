/- Plain facts on numbers cut into words of 64 bits: sums with carries, differences with borrows, halves, comparisons by words. No program in sight. -/
import Derived.Below
namespace Go.Proofs.Ytfdmgelaiigocaa
namespace Num

/-- The i-th word of a number. -/
def wd (a i : Nat) : Nat := a / 18446744073709551616 ^ i % 18446744073709551616

theorem wd_lt (a i : Nat) : wd a i < 18446744073709551616 := Nat.mod_lt _ (by decide)

theorem pow_pos' (i : Nat) : 0 < 18446744073709551616 ^ i := Nat.pow_pos (by decide)

theorem wd_out {a n i : Nat} (h : a < 18446744073709551616 ^ n) (hi : n ≤ i) : wd a i = 0 := by
  unfold wd
  rw [Nat.div_eq_of_lt (Nat.lt_of_lt_of_le h (Nat.pow_le_pow_right (by decide) hi))]

/-- The words up to i, and what is above them. -/
theorem low_succ (a i : Nat) : a % 18446744073709551616 ^ (i + 1) = a % 18446744073709551616 ^ i + 18446744073709551616 ^ i * wd a i := Nat.mod_pow_succ

theorem high_succ (a i : Nat) : a / 18446744073709551616 ^ i = wd a i + 18446744073709551616 * (a / 18446744073709551616 ^ (i + 1)) := by
  unfold wd
  rw [Nat.pow_succ, ← Nat.div_div_eq_div_mul]
  omega

/-- What is carried into word i of a sum. -/
def car (a b i : Nat) : Nat := (a % 18446744073709551616 ^ i + b % 18446744073709551616 ^ i) / 18446744073709551616 ^ i

theorem car_zero (a b : Nat) : car a b 0 = 0 := by simp [car, Nat.mod_one]

theorem car_le (a b i : Nat) : car a b i ≤ 1 := by
  have h := pow_pos' i
  have h1 := Nat.mod_lt a h
  have h2 := Nat.mod_lt b h
  unfold car
  rw [← Nat.lt_succ_iff, Nat.div_lt_iff_lt_mul h]
  omega

theorem car_succ (a b i : Nat) : car a b (i + 1) = (wd a i + wd b i + car a b i) / 18446744073709551616 := by
  unfold car
  rw [low_succ, low_succ, Nat.pow_succ, ← Nat.div_div_eq_div_mul]
  congr 1
  rw [show a % 18446744073709551616 ^ i + 18446744073709551616 ^ i * wd a i + (b % 18446744073709551616 ^ i + 18446744073709551616 ^ i * wd b i)
    = (a % 18446744073709551616 ^ i + b % 18446744073709551616 ^ i) + 18446744073709551616 ^ i * (wd a i + wd b i) from by rw [Nat.mul_add]; omega]
  rw [Nat.add_mul_div_left _ _ (pow_pos' i)]
  omega

theorem wd_add (a b i : Nat) : wd (a + b) i = (wd a i + wd b i + car a b i) % 18446744073709551616 := by
  have hp := pow_pos' i
  have ha := Nat.div_add_mod a (18446744073709551616 ^ i)
  have hb := Nat.div_add_mod b (18446744073709551616 ^ i)
  unfold wd car
  generalize 18446744073709551616 ^ i = p at *
  have e : a + b = (a % p + b % p) + p * (a / p + b / p) := by rw [Nat.mul_add]; omega
  have e2 : (a + b) / p = (a % p + b % p) / p + (a / p + b / p) := by
    rw [e, Nat.add_mul_div_left _ _ hp]
  rw [e2]
  omega

/-- The last carry. -/
theorem car_last {a b n : Nat} (ha : a < 18446744073709551616 ^ n) (hb : b < 18446744073709551616 ^ n) : car a b n = (a + b) / 18446744073709551616 ^ n := by
  unfold car
  rw [Nat.mod_eq_of_lt ha, Nat.mod_eq_of_lt hb]

/-- What is owed at word i of a difference. -/
def owe (a b i : Nat) : Nat := if a % 18446744073709551616 ^ i < b % 18446744073709551616 ^ i then 1 else 0

theorem owe_zero (a b : Nat) : owe a b 0 = 0 := by simp [owe, Nat.mod_one]

theorem owe_le (a b i : Nat) : owe a b i ≤ 1 := by unfold owe; split <;> omega

theorem owe_succ (a b i : Nat) : owe a b (i + 1) = if wd a i < wd b i + owe a b i then 1 else 0 := by
  unfold owe
  rw [low_succ, low_succ]
  have hp := pow_pos' i
  have h1 := Nat.mod_lt a hp
  have h2 := Nat.mod_lt b hp
  generalize 18446744073709551616 ^ i = p at *
  generalize a % p = r at *
  generalize b % p = s at *
  generalize wd a i = x
  generalize wd b i = y
  rcases Nat.lt_trichotomy x y with h | h | h
  · have : p * (x + 1) ≤ p * y := Nat.mul_le_mul_left _ h
    rw [Nat.mul_add] at this
    rw [if_pos (by omega), if_pos (by split <;> omega)]
  · subst h
    by_cases g : r < s
    · rw [if_pos (by omega), if_pos (by rw [if_pos g]; omega)]
    · rw [if_neg (by omega), if_neg (by rw [if_neg g]; omega)]
  · have : p * (y + 1) ≤ p * x := Nat.mul_le_mul_left _ h
    rw [Nat.mul_add] at this
    rw [if_neg (by omega), if_neg (by split <;> omega)]

theorem wd_sub {a b n i : Nat} (hb : b < 18446744073709551616 ^ n) (hi : i < n) :
    wd (a + 18446744073709551616 ^ n - b) i = (wd a i + 18446744073709551616 - wd b i - owe a b i) % 18446744073709551616 := by
  have hp := pow_pos' i
  have ha' := Nat.div_add_mod a (18446744073709551616 ^ i)
  have hb' := Nat.div_add_mod b (18446744073709551616 ^ i)
  have h1 := Nat.mod_lt a hp
  have h2 := Nat.mod_lt b hp
  obtain ⟨m, rfl⟩ : ∃ m, n = i + (m + 1) := ⟨n - i - 1, by omega⟩
  have hn : (18446744073709551616 : Nat) ^ (i + (m + 1)) = 18446744073709551616 ^ i * (18446744073709551616 * 18446744073709551616 ^ m) := by
    rw [Nat.pow_add, Nat.pow_succ, Nat.mul_comm (18446744073709551616 ^ m)]
  rw [hn] at hb ⊢
  unfold wd owe
  generalize 18446744073709551616 ^ m = q at *
  generalize 18446744073709551616 ^ i = p at *
  have hbq : b / p < 18446744073709551616 * q := by
    rw [Nat.div_lt_iff_lt_mul hp, Nat.mul_comm]; exact hb
  generalize a / p = x at *
  generalize b / p = y at *
  generalize a % p = r at *
  generalize b % p = s at *
  subst ha' hb'
  by_cases g : r < s
  · rw [if_pos g]
    have e : p * x + r + p * (18446744073709551616 * q) - (p * y + s) = (r + p - s) + p * (x + 18446744073709551616 * q - y - 1) := by
      have : p * (x + 18446744073709551616 * q) = p * (y + 1 + (x + 18446744073709551616 * q - y - 1)) := by congr 1; omega
      rw [Nat.mul_add, Nat.mul_add, Nat.mul_add] at this
      omega
    rw [e, Nat.add_mul_div_left _ _ hp, Nat.div_eq_of_lt (by omega)]
    omega
  · rw [if_neg g]
    have e : p * x + r + p * (18446744073709551616 * q) - (p * y + s) = (r - s) + p * (x + 18446744073709551616 * q - y) := by
      have : p * (x + 18446744073709551616 * q) = p * (y + (x + 18446744073709551616 * q - y)) := by congr 1; omega
      rw [Nat.mul_add, Nat.mul_add] at this
      omega
    rw [e, Nat.add_mul_div_left _ _ hp, Nat.div_eq_of_lt (by omega)]
    omega

theorem owe_last {a b n : Nat} (ha : a < 18446744073709551616 ^ n) (hb : b < 18446744073709551616 ^ n) : owe a b n = if a < b then 1 else 0 := by
  unfold owe
  rw [Nat.mod_eq_of_lt ha, Nat.mod_eq_of_lt hb]

theorem wd_mod {a n i : Nat} (hi : i < n) : wd (a % 18446744073709551616 ^ n) i = wd a i := by
  unfold wd
  have hd : (18446744073709551616 : Nat) ^ n = 18446744073709551616 ^ i * 18446744073709551616 ^ (n - i) := by rw [← Nat.pow_add]; congr 1; omega
  rw [hd, Nat.mod_mul_right_div_self, Nat.mod_mod_of_dvd]
  exact Nat.dvd_trans ⟨1, by simp⟩ (Nat.pow_dvd_pow (18446744073709551616 : Nat) (show 1 ≤ n - i by omega))

theorem wd_pow_add (a : Nat) {n i : Nat} (hi : i < n) : wd (18446744073709551616 ^ n + a) i = wd a i := by
  rw [← wd_mod hi, ← wd_mod (a := a) hi, Nat.add_mod_left]

/-- Numbers of n words are one where their words are. -/
theorem eq_of_wd {n : Nat} : ∀ {a b : Nat}, a < 18446744073709551616 ^ n → b < 18446744073709551616 ^ n → (∀ i, i < n → wd a i = wd b i) → a = b := by
  have key : ∀ n a b : Nat, (∀ i, i < n → wd a i = wd b i) → a % 18446744073709551616 ^ n = b % 18446744073709551616 ^ n := by
    intro n
    induction n with
    | zero => intro a b _; simp [Nat.mod_one]
    | succ n ih => intro a b h; rw [low_succ, low_succ, ih a b (fun i hi => h i (by omega)), h n (by omega)]
  intro a b ha hb h
  have := key n a b h
  rwa [Nat.mod_eq_of_lt ha, Nat.mod_eq_of_lt hb] at this

/-- Two numbers that are alike above word j, and part there. -/
theorem less_words {a b j : Nat} (h : a / 18446744073709551616 ^ (j + 1) = b / 18446744073709551616 ^ (j + 1)) (hw : wd a j ≠ wd b j) : wd a j < wd b j ↔ a < b := by
  have hp := pow_pos' j
  have ea := high_succ a j
  have eb := high_succ b j
  rw [h] at ea
  constructor
  · intro g
    have : a / 18446744073709551616 ^ j < b / 18446744073709551616 ^ j := by omega
    exact Nat.lt_of_div_lt_div this
  · intro g
    have : a / 18446744073709551616 ^ j ≤ b / 18446744073709551616 ^ j := Nat.div_le_div_right (Nat.le_of_lt g)
    omega

/-- Half of a number, by words. -/
theorem wd_half (a i : Nat) : wd (a / 2) i = wd a i / 2 + 9223372036854775808 * (wd a (i + 1) % 2) := by
  unfold wd
  rw [Nat.pow_succ, ← Nat.div_div_eq_div_mul, Nat.div_div_eq_div_mul a 2, Nat.mul_comm 2, ← Nat.div_div_eq_div_mul]
  generalize a / 18446744073709551616 ^ i = q
  omega

theorem wd_zero (i : Nat) : wd 0 i = 0 := by simp [wd]
theorem wd_small {x : Nat} (h : x < 18446744073709551616) (i : Nat) : wd x i = if i = 0 then x else 0 := by
  cases i with
  | zero => simp [wd]; omega
  | succ i =>
    rw [if_neg (by omega)]
    exact wd_out (n := 1) (by simpa using h) (by omega)

/-- Bit i of a number stands in its words. -/
theorem bit_wd (a i : Nat) : wd a (i / 64) / 2 ^ (i % 64) % 2 = a / 2 ^ i % 2 := by
  unfold wd
  have e : (18446744073709551616 : Nat) = 2 ^ 64 := by decide
  rw [e, ← Nat.pow_mul]
  have hi : i = 64 * (i / 64) + i % 64 := by omega
  have hm : i % 64 < 64 := Nat.mod_lt _ (by decide)
  conv => rhs; rw [hi]
  rw [Nat.pow_add, ← Nat.div_div_eq_div_mul]
  generalize a / 2 ^ (64 * (i / 64)) = q
  generalize i % 64 = k at *
  have h64 : (2 : Nat) ^ 64 = 2 ^ k * 2 ^ (64 - k) := by rw [← Nat.pow_add]; congr 1; omega
  rw [h64, Nat.mod_mul_right_div_self, Nat.mod_mod_of_dvd]
  exact Nat.dvd_trans ⟨1, by simp⟩ (Nat.pow_dvd_pow 2 (show 1 ≤ 64 - k by omega))

end Num
end Go.Proofs.Ytfdmgelaiigocaa
