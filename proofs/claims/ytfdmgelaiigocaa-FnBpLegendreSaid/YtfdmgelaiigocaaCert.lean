/- The field's prime is a prime: Pocklington's certificates, made by program out of the factors of P - 1 and so on down. -/
import Derived.Test.YtfdmgelaiigocaaPrim
namespace Go.Proofs.Ytfdmgelaiigocaa
namespace Sym

/-- Pocklington's step with the powers by squaring. -/
theorem pock_pm {N q r a f : Nat} (hq : Prm q) (hN : 1 < N) (hqr : q * r = N - 1) (hf : N - 1 < 2 ^ f) (h1 : pm f a (N - 1) N = 1) (h2 : Nat.gcd (pm f a r N + (N - 1)) N = 1) {p : Nat} (hp : Prm p) (hpN : p ∣ N) : q ∣ p - 1 := by
  have hq0 := hq.1
  have hr : r < 2 ^ f := by
    have := Nat.le_mul_of_pos_left r (show 0 < q by omega)
    omega
  rw [pm_eq N f a _ hf] at h1
  rw [pm_eq N f a _ hr] at h2
  exact pock_dvd hq hN hqr h1 h2 hp hpN

/-- The same for great numbers. -/
theorem pock_pm2 {N q r a f g : Nat} (hq : Prm q) (hN : 1 < N) (hqr : q * r = N - 1) (hf : N - 1 < 2 ^ f * 2 ^ g) (h1 : pm (f + g) a (N - 1) N = 1) (h2 : Nat.gcd (pm (f + g) a r N + (N - 1)) N = 1) {p : Nat} (hp : Prm p) (hpN : p ∣ N) : q ∣ p - 1 :=
  pock_pm (f := f + g) hq hN hqr (by rw [Nat.pow_add]; exact hf) h1 h2 hp hpN

theorem prm_421987 : Prm 421987 := prm_trial (f := 649) (by decide) (by decide +kernel) (by decide)
theorem prm_13090036741 : Prm 13090036741 := pock (F := 421987) (by decide) (fun p hp hd => (pock_pm prm_421987 (r := 31020) (a := 2) (f := 34) (by decide) (by decide) (by decide) (by decide +kernel) (by decide +kernel) hp hd)) (by decide)
theorem prm_755057 : Prm 755057 := prm_trial (f := 868) (by decide) (by decide +kernel) (by decide)
theorem prm_3819663927398918131021 : Prm 3819663927398918131021 := pock (F := 9883723871549237) (by decide) (fun p hp hd => (show (9883723871549237 : Nat) = 13090036741 * 755057 from by decide) ▸ (Nat.Coprime.mul_dvd_of_dvd_of_dvd (show Nat.gcd 13090036741 755057 = 1 from by decide +kernel) (pock_pm prm_13090036741 (r := 291799328220) (a := 2) (f := 72) (by decide) (by decide) (by decide) (by decide +kernel) (by decide +kernel) hp hd) (pock_pm prm_755057 (r := 5058775598926860) (a := 2) (f := 72) (by decide) (by decide) (by decide) (by decide +kernel) (by decide +kernel) hp hd))) (by decide)
theorem prm_1125266252156850182658904441386709967 : Prm 1125266252156850182658904441386709967 := pock (F := 3819663927398918131021) (by decide) (fun p hp hd => (pock_pm prm_3819663927398918131021 (r := 294598235223046) (a := 2) (f := 120) (by decide) (by decide) (by decide) (by decide +kernel) (by decide +kernel) hp hd)) (by decide)
theorem prm_15778400344354997994418419698270088123916926905054652752758194827714659 : Prm 15778400344354997994418419698270088123916926905054652752758194827714659 := pock (F := 1125266252156850182658904441386709967) (by decide) (fun p hp hd => (pock_pm prm_1125266252156850182658904441386709967 (r := 14021926201120671579994175730661374) (a := 2) (f := 234) (by decide) (by decide) (by decide) (by decide +kernel) (by decide +kernel) hp hd)) (by decide)
theorem prm_4002409555221667393417789825735904156556882819939007885332058136124031650490837864442687629129015664037894272559787 : Prm 4002409555221667393417789825735904156556882819939007885332058136124031650490837864442687629129015664037894272559787 := pock (F := 15778400344354997994418419698270088123916926905054652752758194827714659) (by decide) (fun p hp hd => (pock_pm2 prm_15778400344354997994418419698270088123916926905054652752758194827714659 (r := 253663835868735594330404923636534084567099854) (a := 2) (f := 200) (g := 181) (by decide) (by decide) (by decide) (by decide +kernel) (by decide +kernel) hp hd)) (by decide)
theorem prm : Prm 4002409555221667393417789825735904156556882819939007885332058136124031650490837864442687629129015664037894272559787 := prm_4002409555221667393417789825735904156556882819939007885332058136124031650490837864442687629129015664037894272559787
end Sym
end Go.Proofs.Ytfdmgelaiigocaa
