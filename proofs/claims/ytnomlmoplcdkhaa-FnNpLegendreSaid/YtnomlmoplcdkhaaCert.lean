/- The field's prime is a prime: Pocklington's certificates, made by program out of the factors of P - 1 and so on down. -/
import Derived.Test.YtnomlmoplcdkhaaPrim
namespace Go.Proofs.Ytnomlmoplcdkhaa
namespace Sym

/-- Pocklington's step with the powers by squaring. -/
theorem pock_pm {N q r a f : Nat} (hq : Prm q) (hN : 1 < N) (hqr : q * r = N - 1) (hf : N - 1 < 2 ^ f) (h1 : pm f a (N - 1) N = 1) (h2 : Nat.gcd (pm f a r N + (N - 1)) N = 1) {p : Nat} (hp : Prm p) (hpN : p ∣ N) : q ∣ p - 1 := by
  have hq0 := hq.1
  have hr : r < 2 ^ f := by
    have := Nat.le_mul_of_pos_left r (show 0 < q by omega)
    omega
  rw [pm_eq N f a _ hf] at h1
  rw [pm_eq N f a _ hr] at h2
  exact pock_dvd hq hN hqr h1 h2 hp hpN

theorem prm_3557 : Prm 3557 := prm_trial (f := 59) (by decide) (by decide +kernel) (by decide)
theorem prm_911 : Prm 911 := prm_trial (f := 30) (by decide) (by decide +kernel) (by decide)
theorem prm_1263766531 : Prm 1263766531 := pock (F := 3240427) (by decide) (fun p hp hd => (show (3240427 : Nat) = 3557 * 911 from by decide) ▸ (Nat.Coprime.mul_dvd_of_dvd_of_dvd (show Nat.gcd 3557 911 = 1 from by decide +kernel) (pock_pm prm_3557 (r := 355290) (a := 2) (f := 31) (by decide) (by decide) (by decide) (by decide +kernel) (by decide +kernel) hp hd) (pock_pm prm_911 (r := 1387230) (a := 2) (f := 31) (by decide) (by decide) (by decide) (by decide +kernel) (by decide +kernel) hp hd))) (by decide)
theorem prm_35385462869 : Prm 35385462869 := pock (F := 1263766531) (by decide) (fun p hp hd => (pock_pm prm_1263766531 (r := 28) (a := 2) (f := 36) (by decide) (by decide) (by decide) (by decide +kernel) (by decide +kernel) hp hd)) (by decide)
theorem prm_2480874801745591 : Prm 2480874801745591 := pock (F := 35385462869) (by decide) (fun p hp hd => (pock_pm prm_35385462869 (r := 70110) (a := 2) (f := 52) (by decide) (by decide) (by decide) (by decide +kernel) (by decide +kernel) hp hd)) (by decide)
theorem prm_13327 : Prm 13327 := prm_trial (f := 115) (by decide) (by decide +kernel) (by decide)
theorem prm_173171039 : Prm 173171039 := pock (F := 13327) (by decide) (fun p hp hd => (pock_pm prm_13327 (r := 12994) (a := 2) (f := 28) (by decide) (by decide) (by decide) (by decide +kernel) (by decide +kernel) hp hd)) (by decide)
theorem prm_13427688667394608761327070753331941386769 : Prm 13427688667394608761327070753331941386769 := pock (F := 429615667047203007139049) (by decide) (fun p hp hd => (show (429615667047203007139049 : Nat) = 2480874801745591 * 173171039 from by decide) ▸ (Nat.Coprime.mul_dvd_of_dvd_of_dvd (show Nat.gcd 2480874801745591 173171039 = 1 from by decide +kernel) (pock_pm prm_2480874801745591 (r := 5412481378724403979982448) (a := 2) (f := 134) (by decide) (by decide) (by decide) (by decide +kernel) (by decide +kernel) hp hd) (pock_pm prm_173171039 (r := 77540036399473290457806115913712) (a := 2) (f := 134) (by decide) (by decide) (by decide) (by decide +kernel) (by decide +kernel) hp hd))) (by decide)
theorem prm_21888242871839275222246405745257275088696311157297823662689037894645226208583 : Prm 21888242871839275222246405745257275088696311157297823662689037894645226208583 := pock (F := 13427688667394608761327070753331941386769) (by decide) (fun p hp hd => (pock_pm prm_13427688667394608761327070753331941386769 (r := 1630082690626329392154177744477557478) (a := 2) (f := 254) (by decide) (by decide) (by decide) (by decide +kernel) (by decide +kernel) hp hd)) (by decide)
theorem prm : Prm 21888242871839275222246405745257275088696311157297823662689037894645226208583 := prm_21888242871839275222246405745257275088696311157297823662689037894645226208583
end Sym
end Go.Proofs.Ytnomlmoplcdkhaa
