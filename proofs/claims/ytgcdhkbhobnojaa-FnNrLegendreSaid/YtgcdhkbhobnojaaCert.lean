/- The field's prime is a prime: Pocklington's certificates, made by program out of the factors of P - 1 and so on down. -/
import Derived.Test.YtgcdhkbhobnojaaPrim
namespace Go.Proofs.Ytgcdhkbhobnojaa
namespace Sym

/-- Pocklington's step with the powers by squaring. -/
theorem pock_pm {N q r a f : Nat} (hq : Prm q) (hN : 1 < N) (hqr : q * r = N - 1) (hf : N - 1 < 2 ^ f) (h1 : pm f a (N - 1) N = 1) (h2 : Nat.gcd (pm f a r N + (N - 1)) N = 1) {p : Nat} (hp : Prm p) (hpN : p ∣ N) : q ∣ p - 1 := by
  have hq0 := hq.1
  have hr : r < 2 ^ f := by
    have := Nat.le_mul_of_pos_left r (show 0 < q by omega)
    omega
  rw [pm_eq N f a _ hf] at h1
  rw [pm_eq N f a _ hr] at h2
  exact pock_dvd hq hN hqr h1 h2 hp hpN

theorem prm_1637 : Prm 1637 := prm_trial (f := 40) (by decide) (by decide +kernel) (by decide)
theorem prm_853 : Prm 853 := prm_trial (f := 29) (by decide) (by decide +kernel) (by decide)
theorem prm_639533339 : Prm 639533339 := pock (F := 1396361) (by decide) (fun p hp hd => (show (1396361 : Nat) = 1637 * 853 from by decide) ▸ (Nat.Coprime.mul_dvd_of_dvd_of_dvd (show Nat.gcd 1637 853 = 1 from by decide +kernel) (pock_pm prm_1637 (r := 390674) (a := 2) (f := 30) (by decide) (by decide) (by decide) (by decide +kernel) (by decide +kernel) hp hd) (pock_pm prm_853 (r := 749746) (a := 2) (f := 30) (by decide) (by decide) (by decide) (by decide +kernel) (by decide +kernel) hp hd))) (by decide)
theorem prm_65865678001877903 : Prm 65865678001877903 := pock (F := 639533339) (by decide) (fun p hp hd => (pock_pm prm_639533339 (r := 102990218) (a := 2) (f := 56) (by decide) (by decide) (by decide) (by decide +kernel) (by decide +kernel) hp hd)) (by decide)
theorem prm_13818364434197438864469338081 : Prm 13818364434197438864469338081 := pock (F := 65865678001877903) (by decide) (fun p hp hd => (pock_pm prm_65865678001877903 (r := 209796131360) (a := 2) (f := 94) (by decide) (by decide) (by decide) (by decide +kernel) (by decide +kernel) hp hd)) (by decide)
theorem prm_93001 : Prm 93001 := prm_trial (f := 304) (by decide) (by decide +kernel) (by decide)
theorem prm_661 : Prm 661 := prm_trial (f := 25) (by decide) (by decide +kernel) (by decide)
theorem prm_12048837557 : Prm 12048837557 := pock (F := 61473661) (by decide) (fun p hp hd => (show (61473661 : Nat) = 93001 * 661 from by decide) ▸ (Nat.Coprime.mul_dvd_of_dvd_of_dvd (show Nat.gcd 93001 661 = 1 from by decide +kernel) (pock_pm prm_93001 (r := 129556) (a := 2) (f := 34) (by decide) (by decide) (by decide) (by decide +kernel) (by decide +kernel) hp hd) (pock_pm prm_661 (r := 18228196) (a := 2) (f := 34) (by decide) (by decide) (by decide) (by decide +kernel) (by decide +kernel) hp hd))) (by decide)
theorem prm_5156902474397 : Prm 5156902474397 := pock (F := 12048837557) (by decide) (fun p hp hd => (pock_pm prm_12048837557 (r := 428) (a := 2) (f := 43) (by decide) (by decide) (by decide) (by decide +kernel) (by decide +kernel) hp hd)) (by decide)
theorem prm_1670836401704629 : Prm 1670836401704629 := pock (F := 5156902474397) (by decide) (fun p hp hd => (pock_pm prm_5156902474397 (r := 324) (a := 2) (f := 51) (by decide) (by decide) (by decide) (by decide +kernel) (by decide +kernel) hp hd)) (by decide)
theorem prm_21888242871839275222246405745257275088548364400416034343698204186575808495617 : Prm 21888242871839275222246405745257275088548364400416034343698204186575808495617 := pock (F := 23088226308677670388631582763742451703676949) (by decide) (fun p hp hd => (show (23088226308677670388631582763742451703676949 : Nat) = 13818364434197438864469338081 * 1670836401704629 from by decide) ▸ (Nat.Coprime.mul_dvd_of_dvd_of_dvd (show Nat.gcd 13818364434197438864469338081 1670836401704629 = 1 from by decide +kernel) (pock_pm prm_13818364434197438864469338081 (r := 1583996642733683218748855262055434666238317428736) (a := 2) (f := 254) (by decide) (by decide) (by decide) (by decide +kernel) (by decide +kernel) hp hd) (pock_pm prm_1670836401704629 (r := 13100171177446423556613374118717413492986637444144570673659904) (a := 2) (f := 254) (by decide) (by decide) (by decide) (by decide +kernel) (by decide +kernel) hp hd))) (by decide)
theorem prm : Prm 21888242871839275222246405745257275088548364400416034343698204186575808495617 := prm_21888242871839275222246405745257275088548364400416034343698204186575808495617
end Sym
end Go.Proofs.Ytgcdhkbhobnojaa
