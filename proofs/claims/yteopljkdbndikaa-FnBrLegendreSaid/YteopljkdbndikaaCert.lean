/- The field's prime is a prime: Pocklington's certificates, made by program out of the factors of P - 1 and so on down. -/
import Derived.Test.YteopljkdbndikaaPrim
namespace Go.Proofs.Yteopljkdbndikaa
namespace Sym

/-- Pocklington's step with the powers by squaring. -/
theorem pock_pm {N q r a f : Nat} (hq : Prm q) (hN : 1 < N) (hqr : q * r = N - 1) (hf : N - 1 < 2 ^ f) (h1 : pm f a (N - 1) N = 1) (h2 : Nat.gcd (pm f a r N + (N - 1)) N = 1) {p : Nat} (hp : Prm p) (hpN : p ∣ N) : q ∣ p - 1 := by
  have hq0 := hq.1
  have hr : r < 2 ^ f := by
    have := Nat.le_mul_of_pos_left r (show 0 < q by omega)
    omega
  rw [pm_eq N f a _ hf] at h1
  rw [pm_eq N f a _ hr] at h2
  exact pock_dvd hq hN hqr h1 h2 hp hpN

theorem prm_2653753 : Prm 2653753 := prm_trial (f := 1629) (by decide) (by decide +kernel) (by decide)
theorem prm_63690073 : Prm 63690073 := pock (F := 2653753) (by decide) (fun p hp hd => (pock_pm prm_2653753 (r := 24) (a := 2) (f := 26) (by decide) (by decide) (by decide) (by decide +kernel) (by decide +kernel) hp hd)) (by decide)
theorem prm_254760293 : Prm 254760293 := pock (F := 63690073) (by decide) (fun p hp hd => (pock_pm prm_63690073 (r := 4) (a := 2) (f := 28) (by decide) (by decide) (by decide) (by decide +kernel) (by decide +kernel) hp hd)) (by decide)
theorem prm_609743 : Prm 609743 := prm_trial (f := 780) (by decide) (by decide +kernel) (by decide)
theorem prm_52437899 : Prm 52437899 := pock (F := 609743) (by decide) (fun p hp hd => (pock_pm prm_609743 (r := 86) (a := 2) (f := 26) (by decide) (by decide) (by decide) (by decide +kernel) (by decide +kernel) hp hd)) (by decide)
theorem prm_2529403 : Prm 2529403 := prm_trial (f := 1590) (by decide) (by decide +kernel) (by decide)
theorem prm_2508409 : Prm 2508409 := prm_trial (f := 1583) (by decide) (by decide +kernel) (by decide)
theorem prm_906349 : Prm 906349 := prm_trial (f := 952) (by decide) (by decide +kernel) (by decide)
theorem prm_859267 : Prm 859267 := prm_trial (f := 926) (by decide) (by decide +kernel) (by decide)
theorem prm_52435875175126190479447740508185965837690552500527637822603658699938581184513 : Prm 52435875175126190479447740508185965837690552500527637822603658699938581184513 := pock (F := 66011103839419183912452067693255434822787) (by decide) (fun p hp hd => (show (66011103839419183912452067693255434822787 : Nat) = 254760293 * 52437899 * 2529403 * 2508409 * 906349 * 859267 from by decide) ▸ (Nat.Coprime.mul_dvd_of_dvd_of_dvd (show Nat.gcd 76822575333882464836252372886722561 859267 = 1 from by decide +kernel) (Nat.Coprime.mul_dvd_of_dvd_of_dvd (show Nat.gcd 84760478947825247047497567589 906349 = 1 from by decide +kernel) (Nat.Coprime.mul_dvd_of_dvd_of_dvd (show Nat.gcd 33790533739842763699021 2508409 = 1 from by decide +kernel) (Nat.Coprime.mul_dvd_of_dvd_of_dvd (show Nat.gcd 13359094513544407 2529403 = 1 from by decide +kernel) (Nat.Coprime.mul_dvd_of_dvd_of_dvd (show Nat.gcd 254760293 52437899 = 1 from by decide +kernel) (pock_pm prm_254760293 (r := 205824363591567193241718168805002771125288949563767528806397073424384) (a := 2) (f := 255) (by decide) (by decide) (by decide) (by decide +kernel) (by decide +kernel) hp hd) (pock_pm prm_52437899 (r := 999961405302035279473110478895921551656570994587857873989262207090688) (a := 2) (f := 255) (by decide) (by decide) (by decide) (by decide +kernel) (by decide +kernel) hp hd)) (pock_pm prm_2529403 (r := 20730534112249487519168649878325425342537568153642435714120548880482304) (a := 2) (f := 255) (by decide) (by decide) (by decide) (by decide +kernel) (by decide +kernel) hp hd)) (pock_pm prm_2508409 (r := 20904037250355181503274681484632675866531555460264908084209416686010368) (a := 2) (f := 255) (by decide) (by decide) (by decide) (by decide +kernel) (by decide +kernel) hp hd)) (pock_pm prm_906349 (r := 57853956009358636109763171259841369977448590444219211167666824479244288) (a := 2) (f := 255) (by decide) (by decide) (by decide) (by decide +kernel) (by decide +kernel) hp hd)) (pock_pm prm_859267 (r := 61023960160376449321861238134579782346686830170980193377150127608692736) (a := 2) (f := 255) (by decide) (by decide) (by decide) (by decide +kernel) (by decide +kernel) hp hd))) (by decide)
theorem prm : Prm 52435875175126190479447740508185965837690552500527637822603658699938581184513 := prm_52435875175126190479447740508185965837690552500527637822603658699938581184513
end Sym
end Go.Proofs.Yteopljkdbndikaa
