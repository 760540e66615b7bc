/- The symbol of two numbers by Gauss's count of signs (Schering: whatever odd modulus): periods, products, reciprocity. Plain numbers; no program in sight. -/
import Derived.Below
namespace Go.Proofs.Ytfdmgelaiigocaa
namespace Sym

theorem perm_of_sub : ∀ {L M : List Nat}, L.Nodup → (∀ x, x ∈ L → x ∈ M) → L.length = M.length → L.Perm M := by
  intro L
  induction L with
  | nil =>
    intro M _ _ hl
    cases M with
    | nil => exact List.Perm.nil
    | cons => simp at hl
  | cons x L ih =>
    intro M hn hs hl
    have hx : x ∈ M := hs x List.mem_cons_self
    have hp := List.perm_cons_erase hx
    refine List.Perm.trans (List.Perm.cons x (ih (List.nodup_cons.1 hn).2 (fun y hy => ?_) ?_)) hp.symm
    · have hne : y ≠ x := fun e => (List.nodup_cons.1 hn).1 (e ▸ hy)
      exact (List.mem_erase_of_ne hne).2 (hs y (List.mem_cons_of_mem _ hy))
    · have := hp.length_eq
      simp at this hl
      omega

/-- Sums and products over lists. -/
def sum (L : List Nat) (f : Nat → Nat) : Nat := L.foldr (fun x s => f x + s) 0
def prod (L : List Nat) (f : Nat → Nat) : Nat := L.foldr (fun x s => f x * s) 1
theorem sum_nil (f : Nat → Nat) : sum [] f = 0 := rfl
theorem sum_cons (x : Nat) (L : List Nat) (f : Nat → Nat) : sum (x :: L) f = f x + sum L f := rfl
theorem prod_nil (f : Nat → Nat) : prod [] f = 1 := rfl
theorem prod_cons (x : Nat) (L : List Nat) (f : Nat → Nat) : prod (x :: L) f = f x * prod L f := rfl
theorem sum_perm {L M : List Nat} (h : L.Perm M) (f : Nat → Nat) : sum L f = sum M f := by
  induction h with
  | nil => rfl
  | cons x _ ih => simp only [sum_cons, ih]
  | swap x y l => simp only [sum_cons]; omega
  | trans _ _ h1 h2 => exact h1.trans h2
theorem prod_perm {L M : List Nat} (h : L.Perm M) (f : Nat → Nat) : prod L f = prod M f := by
  induction h with
  | nil => rfl
  | cons x _ ih => simp only [prod_cons, ih]
  | swap x y l => simp only [prod_cons]; rw [← Nat.mul_assoc, ← Nat.mul_assoc, Nat.mul_comm (f y)]
  | trans _ _ h1 h2 => exact h1.trans h2
theorem sum_map (L : List Nat) (g f : Nat → Nat) : sum (L.map g) f = sum L (fun x => f (g x)) := by
  induction L with
  | nil => rfl
  | cons x L ih => simp only [List.map_cons, sum_cons, ih]
theorem prod_map (L : List Nat) (g f : Nat → Nat) : prod (L.map g) f = prod L (fun x => f (g x)) := by
  induction L with
  | nil => rfl
  | cons x L ih => simp only [List.map_cons, prod_cons, ih]
theorem sum_congr {L : List Nat} {f g : Nat → Nat} (h : ∀ x, x ∈ L → f x = g x) : sum L f = sum L g := by
  induction L with
  | nil => rfl
  | cons x L ih => rw [sum_cons, sum_cons, h x List.mem_cons_self, ih fun y hy => h y (List.mem_cons_of_mem _ hy)]
theorem prod_congr {L : List Nat} {f g : Nat → Nat} (h : ∀ x, x ∈ L → f x = g x) : prod L f = prod L g := by
  induction L with
  | nil => rfl
  | cons x L ih => rw [prod_cons, prod_cons, h x List.mem_cons_self, ih fun y hy => h y (List.mem_cons_of_mem _ hy)]
theorem sum_add (L : List Nat) (f g : Nat → Nat) : sum L (fun x => f x + g x) = sum L f + sum L g := by
  induction L with
  | nil => rfl
  | cons x L ih => simp only [sum_cons, ih]; omega
theorem sum_mul (L : List Nat) (c : Nat) (f : Nat → Nat) : sum L (fun x => c * f x) = c * sum L f := by
  induction L with
  | nil => rfl
  | cons x L ih => simp only [sum_cons, ih, Nat.mul_add]
theorem sum_mod {L : List Nat} {f g : Nat → Nat} {n : Nat} (h : ∀ x, x ∈ L → f x % n = g x % n) : sum L f % n = sum L g % n := by
  induction L with
  | nil => rfl
  | cons x L ih => rw [sum_cons, sum_cons, Nat.add_mod, h x List.mem_cons_self, ih fun y hy => h y (List.mem_cons_of_mem _ hy), ← Nat.add_mod]
theorem prod_mod {L : List Nat} {f g : Nat → Nat} {n : Nat} (h : ∀ x, x ∈ L → f x % n = g x % n) : prod L f % n = prod L g % n := by
  induction L with
  | nil => rfl
  | cons x L ih => rw [prod_cons, prod_cons, Nat.mul_mod, h x List.mem_cons_self, ih fun y hy => h y (List.mem_cons_of_mem _ hy), ← Nat.mul_mod]
theorem prod_mul (L : List Nat) (f g : Nat → Nat) : prod L (fun x => f x * g x) = prod L f * prod L g := by
  induction L with
  | nil => rfl
  | cons x L ih =>
    simp only [prod_cons, ih]
    rw [Nat.mul_assoc, Nat.mul_assoc]
    congr 1
    rw [← Nat.mul_assoc, ← Nat.mul_assoc, Nat.mul_comm (g x)]
theorem prod_const (L : List Nat) (c : Nat) : prod L (fun _ => c) = c ^ L.length := by
  induction L with
  | nil => rfl
  | cons x L ih => rw [prod_cons, ih, List.length_cons, Nat.pow_succ, Nat.mul_comm]
theorem sum_const (L : List Nat) (c : Nat) : sum L (fun _ => c) = c * L.length := by
  induction L with
  | nil => rfl
  | cons x L ih => rw [sum_cons, ih, List.length_cons, Nat.mul_add]; omega
theorem sum_swap (L M : List Nat) (f : Nat → Nat → Nat) : sum L (fun x => sum M (fun y => f x y)) = sum M (fun y => sum L (fun x => f x y)) := by
  induction L with
  | nil => simp only [sum_nil]; rw [sum_const]; omega
  | cons x L ih => simp only [sum_cons, ih]; rw [sum_add]

/-- 1 .. h. -/
def rng (h : Nat) : List Nat := List.range' 1 h
theorem mem_rng {h x : Nat} : x ∈ rng h ↔ 1 ≤ x ∧ x ≤ h := by
  unfold rng
  rw [List.mem_range'_1]
  omega
theorem len_rng (h : Nat) : (rng h).length = h := by unfold rng; simp
theorem nodup_rng (h : Nat) : (rng h).Nodup := List.nodup_range'

/-- A map of 1 .. h into itself that parts what is apart moves no sum. -/
theorem perm_rng {h : Nat} {s : Nat → Nat} (hs : ∀ x, 1 ≤ x → x ≤ h → 1 ≤ s x ∧ s x ≤ h) (hi : ∀ x y, 1 ≤ x → x ≤ h → 1 ≤ y → y ≤ h → s x = s y → x = y) : ((rng h).map s).Perm (rng h) := by
  refine perm_of_sub ?_ (fun y hy => ?_) (by rw [List.length_map])
  · rw [List.nodup_iff_pairwise_ne, List.pairwise_map]
    refine List.Pairwise.imp_of_mem (fun {a b} ha hb hab e => hab ?_) (List.nodup_iff_pairwise_ne.1 (nodup_rng h))
    rw [mem_rng] at ha hb
    exact hi a b ha.1 ha.2 hb.1 hb.2 e
  · obtain ⟨x, hx, rfl⟩ := List.mem_map.1 hy
    rw [mem_rng] at hx ⊢
    exact hs x hx.1 hx.2

theorem rng_succ (h : Nat) : rng (h + 1) = rng h ++ [h + 1] := by
  unfold rng
  rw [List.range'_concat]
  simp [Nat.add_comm]
theorem sum_append (L M : List Nat) (f : Nat → Nat) : sum (L ++ M) f = sum L f + sum M f := by
  induction L with
  | nil => simp [sum_nil]
  | cons x L ih => simp only [List.cons_append, sum_cons, ih]; omega
theorem sum_rng_succ (h : Nat) (f : Nat → Nat) : sum (rng (h + 1)) f = sum (rng h) f + f (h + 1) := by
  rw [rng_succ, sum_append]; rfl

/-- Is a k nearer to n than to 0, modulo n; how far it is from the nearer one. -/
def far (n a k : Nat) : Nat := if n / 2 < a * k % n then 1 else 0
def near (n a k : Nat) : Nat := if n / 2 < a * k % n then n - a * k % n else a * k % n
def mu (n a : Nat) : Nat := sum (rng (n / 2)) (far n a)
def sg (m : Nat) : Int := if m % 2 = 0 then 1 else -1
/-- The symbol. -/
def G (n a : Nat) : Int := if Nat.gcd a n = 1 then sg (mu n a) else 0

theorem G_pos {n a : Nat} (h : Nat.gcd a n = 1) : G n a = sg (mu n a) := if_pos h
theorem G_zero {n a : Nat} (h : ¬ Nat.gcd a n = 1) : G n a = 0 := if_neg h
theorem sg_add (a b : Nat) : sg (a + b) = sg a * sg b := by
  unfold sg
  split <;> split <;> split <;> first | rfl | omega
theorem sg_congr {a b : Nat} (h : a % 2 = b % 2) : sg a = sg b := by unfold sg; rw [h]

theorem res_pos {n a k : Nat} (hc : Nat.Coprime a n) (h1 : 1 ≤ k) (h2 : k < n) : 0 < a * k % n := by
  rcases Nat.eq_zero_or_pos (a * k % n) with h | h
  · have := (Nat.Coprime.symm hc).dvd_of_dvd_mul_left (Nat.dvd_of_mod_eq_zero h)
    have := Nat.le_of_dvd (by omega) this
    omega
  · exact h
theorem near_ok {n a k : Nat} (hn : n % 2 = 1) (hc : Nat.Coprime a n) (h1 : 1 ≤ k) (h2 : k ≤ n / 2) : 1 ≤ near n a k ∧ near n a k ≤ n / 2 := by
  have h3 := res_pos hc h1 (by omega : k < n)
  have h4 := Nat.mod_lt (a * k) (by omega : n > 0)
  unfold near
  split <;> omega
theorem same_res {n a x y : Nat} (hc : Nat.Coprime a n) (hx : x < n) (hy : y < n) (h : a * x % n = a * y % n) : x = y := by
  have key : ∀ x y, x ≤ y → y < n → a * y % n = a * x % n → x = y := by
    intro x y hle hy h
    have h1 := Nat.sub_mod_eq_zero_of_mod_eq h
    rw [← Nat.mul_sub] at h1
    have h2 := (Nat.Coprime.symm hc).dvd_of_dvd_mul_left (Nat.dvd_of_mod_eq_zero h1)
    rcases Nat.eq_zero_or_pos (y - x) with h3 | h3
    · omega
    · have := Nat.le_of_dvd h3 h2
      omega
  rcases Nat.le_total x y with hle | hle
  · exact key x y hle hy h.symm
  · exact (key y x hle hx h).symm
theorem opp_res {n a x y : Nat} (hc : Nat.Coprime a n) (h0 : 0 < x + y) (hxy : x + y < n) : a * x % n + a * y % n ≠ n := by
  intro h
  have h1 : (a * x + a * y) % n = 0 := by rw [Nat.add_mod, h, Nat.mod_self]
  rw [← Nat.mul_add] at h1
  have h2 := (Nat.Coprime.symm hc).dvd_of_dvd_mul_left (Nat.dvd_of_mod_eq_zero h1)
  have := Nat.le_of_dvd h0 h2
  omega
theorem near_inj {n a x y : Nat} (hn : n % 2 = 1) (hc : Nat.Coprime a n) (h1 : 1 ≤ x) (h2 : x ≤ n / 2) (h3 : 1 ≤ y) (h4 : y ≤ n / 2) (h : near n a x = near n a y) : x = y := by
  have l1 := Nat.mod_lt (a * x) (by omega : n > 0)
  have l2 := Nat.mod_lt (a * y) (by omega : n > 0)
  have o := opp_res hc (x := x) (y := y) (by omega) (by omega)
  unfold near at h
  refine same_res hc (by omega) (by omega) ?_
  split at h <;> split at h <;> omega
theorem near_perm {n a : Nat} (hn : n % 2 = 1) (hc : Nat.Coprime a n) : ((rng (n / 2)).map (near n a)).Perm (rng (n / 2)) :=
  perm_rng (fun _ h1 h2 => near_ok hn hc h1 h2) (fun _ _ h1 h2 h3 h4 h => near_inj hn hc h1 h2 h3 h4 h)

/-- The symbol of a number hangs on what is left of it. -/
theorem far_mod (n a k : Nat) : far n (a % n) k = far n a k := by unfold far; rw [Nat.mod_mul_mod]
theorem mu_mod (n a : Nat) : mu n (a % n) = mu n a := by unfold mu; exact sum_congr fun k _ => far_mod n a k
theorem G_mod (n a : Nat) : G n (a % n) = G n a := by
  have hg : Nat.gcd (a % n) n = Nat.gcd a n := by rw [← Nat.gcd_rec, Nat.gcd_comm]
  by_cases h : Nat.gcd a n = 1
  · rw [G_pos h, G_pos (hg.trans h), mu_mod]
  · rw [G_zero h, G_zero (fun e => h (hg.symm.trans e))]
theorem G_congr {n a b : Nat} (h : a % n = b % n) : G n a = G n b := by rw [← G_mod n a, h, G_mod]

theorem far_mul {n a b k : Nat} (hn : n % 2 = 1) (ha : Nat.Coprime a n) (hb : Nat.Coprime b n) (h1 : 1 ≤ k) (h2 : k ≤ n / 2) :
    far n (a * b) k % 2 = (far n b k + far n a (near n b k)) % 2 := by
  have l := Nat.mod_lt (b * k) (by omega : n > 0)
  have p := res_pos hb h1 (by omega : k < n)
  have e : a * b * k % n = a * (b * k % n) % n := by rw [Nat.mul_assoc, Nat.mul_mod, ← Nat.mul_mod, Nat.mul_mod_mod]
  unfold far near
  rw [e]
  generalize b * k % n = r at *
  by_cases h : n / 2 < r
  · rw [if_pos h, if_pos h]
    have p2 := res_pos ha p l
    have l2 := Nat.mod_lt (a * r) (by omega : n > 0)
    have q2 := res_pos ha (k := n - r) (by omega) (by omega)
    have l3 := Nat.mod_lt (a * (n - r)) (by omega : n > 0)
    have s : (a * (n - r) % n + a * r % n) % n = 0 := by
      rw [← Nat.add_mod, ← Nat.mul_add, Nat.sub_add_cancel (by omega), Nat.mul_mod_left]
    have s2 : a * (n - r) % n + a * r % n = n := by
      generalize a * (n - r) % n = u at *
      generalize a * r % n = v at *
      rcases Nat.lt_or_ge (u + v) n with g | g
      · rw [Nat.mod_eq_of_lt g] at s; omega
      · rw [Nat.mod_eq_sub_mod g, Nat.mod_eq_of_lt (by omega)] at s; omega
    generalize a * (n - r) % n = u at *
    generalize a * r % n = v at *
    by_cases g : n / 2 < v
    · rw [if_pos g, if_neg (by omega)]
    · rw [if_neg g, if_pos (by omega)]
  · rw [if_neg h, if_neg h, Nat.zero_add]
theorem mu_mul {n a b : Nat} (hn : n % 2 = 1) (ha : Nat.Coprime a n) (hb : Nat.Coprime b n) : mu n (a * b) % 2 = (mu n a + mu n b) % 2 := by
  unfold mu
  rw [sum_mod (g := fun k => far n b k + far n a (near n b k)) (fun k hk => far_mul hn ha hb (mem_rng.1 hk).1 (mem_rng.1 hk).2), sum_add,
    ← sum_map (rng (n / 2)) (near n b) (far n a), sum_perm (near_perm hn hb), Nat.add_comm]
/-- Of a product. -/
theorem G_mul {n a b : Nat} (hn : n % 2 = 1) (hb : Nat.Coprime b n) : G n (a * b) = G n a * G n b := by
  have hg : Nat.gcd (a * b) n = Nat.gcd a n := Nat.Coprime.gcd_mul_right_cancel a hb
  by_cases h : Nat.gcd a n = 1
  · rw [G_pos h, G_pos hb, G_pos (hg.trans h), ← sg_add]
    exact sg_congr (mu_mul hn h hb)
  · rw [G_zero h, G_zero (fun e => h (hg.symm.trans e)), Int.zero_mul]
/-- Of the opposite. -/
theorem mu_neg {n : Nat} (hn : n % 2 = 1) (h1 : 1 < n) : mu n (n - 1) = n / 2 := by
  unfold mu
  rw [sum_congr (g := fun _ => 1) (fun k hk => ?_), sum_const, len_rng, Nat.one_mul]
  obtain ⟨k1, k2⟩ := mem_rng.1 hk
  unfold far
  have e : (n - 1) * k % n = n - k := by
    have : (n - 1) * k = n * (k - 1) + (n - k) := by
      rw [Nat.sub_mul, Nat.mul_sub]
      have := Nat.le_mul_of_pos_right n (show 0 < k by omega)
      omega
    rw [this, Nat.mul_add_mod, Nat.mod_eq_of_lt (by omega)]
  rw [e, if_pos (by omega)]
theorem cop_neg {n : Nat} (h1 : 1 < n) : Nat.Coprime (n - 1) n := by
  have h : Nat.gcd (n - 1) n ∣ 1 := by
    have a := Nat.gcd_dvd_left (n - 1) n
    have b := Nat.gcd_dvd_right (n - 1) n
    have := Nat.dvd_sub b a
    rwa [show n - (n - 1) = 1 from by omega] at this
  exact Nat.dvd_one.1 h
theorem G_one (a : Nat) : G 1 a = 1 := by
  rw [G_pos (Nat.gcd_one_right a)]
  rfl
theorem opp_mod {n x b : Nat} (hn : 0 < n) (h : (x + b) % n = 0) : x % n = (n - b % n) % n := by
  have l1 := Nat.mod_lt x hn
  have l2 := Nat.mod_lt b hn
  rw [Nat.add_mod] at h
  generalize x % n = u at *
  generalize b % n = v at *
  rcases Nat.eq_zero_or_pos v with rfl | hv
  · rw [Nat.add_zero, Nat.mod_eq_of_lt l1] at h
    rw [Nat.sub_zero, Nat.mod_self]; exact h
  · rw [Nat.mod_eq_of_lt (show n - v < n by omega)]
    rcases Nat.lt_or_ge (u + v) n with g | g
    · rw [Nat.mod_eq_of_lt g] at h; omega
    · rw [Nat.mod_eq_sub_mod g, Nat.mod_eq_of_lt (by omega)] at h; omega
theorem G_neg {n a b : Nat} (hn : n % 2 = 1) (h : (a + b) % n = 0) : G n a = sg (n / 2) * G n b := by
  by_cases h1 : 1 < n
  · have e : a % n = b * (n - 1) % n := by
      have h2 : (b * (n - 1) + b) % n = 0 := by
        rw [show b * (n - 1) + b = b * n from by rw [Nat.mul_sub, Nat.mul_one]; have := Nat.le_mul_of_pos_right b (show 0 < n by omega); omega, Nat.mul_mod_left]
      exact (opp_mod (by omega) h).trans (opp_mod (by omega) h2).symm
    rw [G_congr e, G_mul hn (cop_neg h1), Int.mul_comm]
    congr 1
    rw [G_pos (cop_neg h1), mu_neg hn h1]
  · obtain rfl : n = 1 := by omega
    rw [G_one, G_one]; rfl

/-! ### Twice a number -/
theorem cnt_above (c m : Nat) : sum (rng m) (fun k => if c < k then 1 else 0) = m - min m c := by
  induction m with
  | zero => rfl
  | succ m ih => rw [sum_rng_succ, ih]; split <;> omega
theorem cnt_below (c m : Nat) : sum (rng m) (fun k => if k ≤ c then 1 else 0) = min m c := by
  induction m with
  | zero => simp [rng, sum_nil]
  | succ m ih => rw [sum_rng_succ, ih]; split <;> omega
theorem mu_two {n : Nat} (hn : n % 2 = 1) : mu n 2 = n / 2 - n / 2 / 2 := by
  unfold mu
  rw [sum_congr (g := fun k => if n / 2 / 2 < k then 1 else 0) (fun k hk => ?_), cnt_above]
  · omega
  · obtain ⟨k1, k2⟩ := mem_rng.1 hk
    unfold far
    rw [Nat.mod_eq_of_lt (by omega : 2 * k < n)]
    split <;> split <;> omega
theorem cop_two {n : Nat} (hn : n % 2 = 1) : Nat.Coprime 2 n := by
  show Nat.gcd 2 n = 1
  rw [Nat.gcd_rec, hn]
  rfl
/-- The sign of 2. -/
def chi8 (n : Nat) : Int := if n % 8 = 3 ∨ n % 8 = 5 then -1 else 1
theorem G_two {n a : Nat} (hn : n % 2 = 1) : G n (2 * a) = chi8 n * G n a := by
  rw [Nat.mul_comm, G_mul hn (cop_two hn), Int.mul_comm]
  congr 1
  rw [G_pos (cop_two hn), mu_two hn]
  unfold sg chi8
  split <;> split <;> omega

/-! ### Reciprocity -/
theorem par_sum {L : List Nat} {f g : Nat → Nat} (h : ∀ x, x ∈ L → f x % 2 = g x % 2) : sum L f % 2 = sum L g % 2 := sum_mod h
/-- Eisenstein's count. -/
theorem mu_floor {n a : Nat} (hn : n % 2 = 1) (ha : a % 2 = 1) (hc : Nat.Coprime a n) : mu n a % 2 = sum (rng (n / 2)) (fun k => a * k / n) % 2 := by
  have h : sum (rng (n / 2)) (fun k => (a * k / n + far n a k) + near n a k) % 2 = sum (rng (n / 2)) (fun k => k) % 2 := by
    refine sum_mod fun k hk => ?_
    have l := Nat.mod_lt (a * k) (by omega : n > 0)
    have e := Nat.div_add_mod (a * k) n
    have e1 : n * (a * k / n) % 2 = a * k / n % 2 := by rw [Nat.mul_mod, hn, Nat.one_mul, Nat.mod_mod]
    have e2 : a * k % 2 = k % 2 := by rw [Nat.mul_mod, ha, Nat.one_mul, Nat.mod_mod]
    unfold far near
    generalize a * k % n = r at *
    generalize a * k / n = q at *
    generalize a * k = t at *
    generalize n * q = u at *
    split <;> omega
  rw [sum_add, sum_add] at h
  have h2 : sum (rng (n / 2)) (near n a) = sum (rng (n / 2)) (fun k => k) := by
    rw [← sum_map (rng (n / 2)) (near n a) (fun k => k)]
    exact sum_perm (near_perm hn hc) _
  have h3 : sum (rng (n / 2)) (fun k => near n a k) = sum (rng (n / 2)) (near n a) := rfl
  have h4 : sum (rng (n / 2)) (fun k => far n a k) = mu n a := rfl
  rw [h3, h2, h4] at h
  omega
theorem floor_cnt {m n k : Nat} (hm : m % 2 = 1) (_hn : n % 2 = 1) (hc : Nat.Coprime m n) (h1 : 1 ≤ k) (h2 : k ≤ n / 2) :
    m * k / n = sum (rng (m / 2)) (fun l => if n * l < m * k then 1 else 0) := by
  have hpos : 0 < n := by omega
  have hle : m * k / n ≤ m / 2 := by
    rw [Nat.div_le_iff_le_mul_add_pred hpos]
    have a1 : m * k ≤ m * (n / 2) := Nat.mul_le_mul_left m h2
    have a2 : n * (m / 2) * 2 = n * (m - 1) := by rw [Nat.mul_assoc, show m / 2 * 2 = m - 1 from by omega]
    have a3 : m * (n / 2) * 2 = m * (n - 1) := by rw [Nat.mul_assoc, show n / 2 * 2 = n - 1 from by omega]
    rw [Nat.mul_sub, Nat.mul_one] at a2 a3
    rw [Nat.mul_comm n m] at a2
    have a4 := Nat.le_mul_of_pos_right n (show 0 < m by omega)
    rw [Nat.mul_comm n m] at a4
    omega
  rw [sum_congr (g := fun l => if l ≤ m * k / n then 1 else 0) (fun l hl => ?_), cnt_below]
  · omega
  · have hne : n * l ≠ m * k := by
      intro e
      have h3 : n ∣ m * k := ⟨l, e.symm⟩
      have h4 := (Nat.Coprime.symm hc).dvd_of_dvd_mul_left h3
      have := Nat.le_of_dvd (by omega) h4
      omega
    have hiff : l ≤ m * k / n ↔ n * l ≤ m * k := by rw [Nat.le_div_iff_mul_le hpos, Nat.mul_comm]
    by_cases g : n * l < m * k
    · rw [if_pos g, if_pos (hiff.2 (by omega))]
    · rw [if_neg g, if_neg (fun q => by have := hiff.1 q; omega)]
theorem lattice {m n : Nat} (hm : m % 2 = 1) (hn : n % 2 = 1) (hc : Nat.Coprime m n) :
    sum (rng (n / 2)) (fun k => m * k / n) + sum (rng (m / 2)) (fun l => n * l / m) = n / 2 * (m / 2) := by
  rw [sum_congr (fun k hk => floor_cnt hm hn hc (mem_rng.1 hk).1 (mem_rng.1 hk).2), sum_congr (fun l hl => floor_cnt hn hm (Nat.Coprime.symm hc) (mem_rng.1 hl).1 (mem_rng.1 hl).2)]
  rw [sum_swap (rng (m / 2)) (rng (n / 2)), ← sum_add]
  rw [sum_congr (g := fun _ => m / 2) (fun k hk => ?_), sum_const, len_rng, Nat.mul_comm]
  obtain ⟨k1, k2⟩ := mem_rng.1 hk
  rw [← sum_add, sum_congr (g := fun _ => 1) (fun l hl => ?_), sum_const, len_rng, Nat.one_mul]
  obtain ⟨l1, l2⟩ := mem_rng.1 hl
  have hne : n * l ≠ m * k := by
    intro e
    have h3 : n ∣ m * k := ⟨l, e.symm⟩
    have h4 := (Nat.Coprime.symm hc).dvd_of_dvd_mul_left h3
    have := Nat.le_of_dvd (by omega) h4
    omega
  split <;> split <;> omega
/-- The law of reciprocity. -/
theorem G_recip {m n : Nat} (hm : m % 2 = 1) (hn : n % 2 = 1) : G n m = sg (n / 2 * (m / 2)) * G m n := by
  by_cases hc : Nat.gcd m n = 1
  · have hc' : Nat.gcd n m = 1 := by rw [Nat.gcd_comm]; exact hc
    rw [G_pos hc, G_pos hc', ← sg_add]
    refine sg_congr ?_
    have h1 := mu_floor hn hm hc
    have h2 := mu_floor hm hn hc'
    have h3 := lattice hm hn hc
    omega
  · have hc' : ¬ Nat.gcd n m = 1 := fun e => hc (by rw [Nat.gcd_comm]; exact e)
    rw [G_zero hc, G_zero hc', Int.mul_zero]

/-! ### A prime modulus: powers -/
/-- A prime. -/
def Prm (p : Nat) : Prop := 1 < p ∧ ∀ d, d ∣ p → d = 1 ∨ d = p
theorem Prm.cop {p a : Nat} (hp : Prm p) (h : a % p ≠ 0) : Nat.Coprime a p := by
  rcases hp.2 _ (Nat.gcd_dvd_right a p) with g | g
  · exact g
  · exact absurd (Nat.mod_eq_zero_of_dvd (g ▸ Nat.gcd_dvd_left a p)) h
theorem cop_prod {n : Nat} {L : List Nat} {f : Nat → Nat} (h : ∀ x, x ∈ L → Nat.Coprime (f x) n) : Nat.Coprime (prod L f) n := by
  induction L with
  | nil => exact Nat.gcd_one_left n
  | cons x L ih => rw [prod_cons]; exact Nat.Coprime.mul_left (h x List.mem_cons_self) (ih fun y hy => h y (List.mem_cons_of_mem _ hy))
theorem cancel_mod {n a b c : Nat} (hc : Nat.Coprime c n) (h : a * c % n = b * c % n) : a % n = b % n := by
  have key : ∀ a b, a ≤ b → a * c % n = b * c % n → a % n = b % n := by
    intro a b hle h
    have h1 := Nat.sub_mod_eq_zero_of_mod_eq h.symm
    rw [← Nat.sub_mul, Nat.mul_comm] at h1
    have h2 := (Nat.Coprime.symm hc).dvd_of_dvd_mul_left (Nat.dvd_of_mod_eq_zero h1)
    obtain ⟨t, ht⟩ := h2
    rw [show b = a + n * t from by omega, Nat.add_mul_mod_self_left]
  rcases Nat.le_total a b with hle | hle
  · exact key a b hle h
  · exact (key b a hle h.symm).symm
/-- Gauss's lemma: a number to the power of half of the prime is the symbol. -/
theorem euler {p a : Nat} (hp : Prm p) (hodd : p % 2 = 1) (ha : a % p ≠ 0) : a ^ (p / 2) % p = (if mu p a % 2 = 0 then 1 else p - 1) := by
  have hc := hp.cop ha
  have h1 : prod (rng (p / 2)) (fun k => a * k) % p = prod (rng (p / 2)) (fun k => (if far p a k = 0 then 1 else p - 1) * near p a k) % p := by
    refine prod_mod fun k hk => ?_
    obtain ⟨k1, k2⟩ := mem_rng.1 hk
    have l := Nat.mod_lt (a * k) (by omega : p > 0)
    unfold far near
    by_cases g : p / 2 < a * k % p
    · rw [if_pos g, if_pos g, if_neg (by decide)]
      generalize hr : a * k % p = r at *
      have : (p - 1) * (p - r) = p * (p - r - 1) + r := by
        rw [Nat.sub_mul, Nat.one_mul, Nat.mul_sub p (p - r), Nat.mul_one]
        have := Nat.le_mul_of_pos_right p (show 0 < p - r by omega)
        omega
      rw [this, Nat.mul_add_mod, Nat.mod_eq_of_lt l]
    · rw [if_neg g, if_neg g, if_pos rfl, Nat.one_mul, Nat.mod_mod]
  rw [prod_mul, prod_mul, prod_const, len_rng] at h1
  have h2 : prod (rng (p / 2)) (near p a) = prod (rng (p / 2)) (fun k => k) := by
    rw [← prod_map (rng (p / 2)) (near p a) (fun k => k)]
    exact prod_perm (near_perm hodd hc) _
  have h3 : prod (rng (p / 2)) (fun k => near p a k) = prod (rng (p / 2)) (near p a) := rfl
  rw [h3, h2] at h1
  have hcop : Nat.Coprime (prod (rng (p / 2)) (fun k => k)) p := by
    refine cop_prod fun k hk => hp.cop ?_
    obtain ⟨k1, k2⟩ := mem_rng.1 hk
    rw [Nat.mod_eq_of_lt (by omega)]
    omega
  have h4 := cancel_mod hcop h1
  rw [h4]
  unfold mu
  have key : ∀ L : List Nat, prod L (fun k => if far p a k = 0 then 1 else p - 1) % p = if sum L (far p a) % 2 = 0 then 1 else p - 1 := by
    intro L
    have hp1 := hp.1
    induction L with
    | nil => rw [prod_nil, sum_nil]; exact Nat.mod_eq_of_lt hp1
    | cons x L ih =>
      rw [prod_cons, sum_cons, Nat.mul_mod, ih]
      have hf : far p a x = 0 ∨ far p a x = 1 := by unfold far; split <;> simp
      rcases hf with hf | hf
      · rw [hf, if_pos rfl, Nat.zero_add, Nat.mod_eq_of_lt hp1, Nat.one_mul]
        split
        · exact Nat.mod_eq_of_lt hp1
        · exact Nat.mod_eq_of_lt (by omega)
      · rw [hf, if_neg (by decide), Nat.mod_eq_of_lt (show p - 1 < p by omega)]
        by_cases g : sum L (far p a) % 2 = 0
        · rw [if_pos g, if_neg (by omega), Nat.mul_one, Nat.mod_eq_of_lt (by omega)]
        · rw [if_neg g, if_pos (by omega)]
          have : (p - 1) * (p - 1) = p * (p - 2) + 1 := by
            obtain ⟨q, rfl⟩ : ∃ q, p = q + 2 := ⟨p - 2, by omega⟩
            rw [show q + 2 - 1 = q + 1 from rfl, show q + 2 - 2 = q from rfl, Nat.add_mul, Nat.mul_add, Nat.add_mul]
            omega
          rw [this, Nat.mul_add_mod, Nat.mod_eq_of_lt hp1]
  exact key _

end Sym
end Go.Proofs.Ytfdmgelaiigocaa
