/- How a list of elements reads as data: its elements' words. -/
import Derived.Test.YtdocgdodahjooaaOpen
import Derived.Test.YtdocgdodahjooaaVec
import Derived.Deep.Slices
namespace Go.Proofs.Ytdocgdodahjooaa
open Go.ChangeShapes Go.WideShapes Go.ChangeAt Go.RowKit Num

theorem Try.vecty : Try.prog.underlying 37 = some (.slice 23) := by kernel_rfl

theorem open_words {H : Type} {enc : TypeId × Value → H} {W : World} {base fuel : Nat} {spare : Nat → Bool} {held : Bool} {cs : List Value} {x : DataW H × List MemPlace}
    (hf : DataW.trod enc Try.prog W base spare held fuel 23 cs = some x) : ∃ A : Nat, A < 115792089237316195423570985008687907853269984665640564039457584007913129639936 ∧ cs = [(.int .u64 (wd (A) 0 : Nat)), (.int .u64 (wd (A) 1 : Nat)), (.int .u64 (wd (A) 2 : Nat)), (.int .u64 (wd (A) 3 : Nat))] := by
  obtain ⟨xs, m, -, -, hsz, hl, he⟩ := DataW.trod_array Try.arr hf
  rw [Try.arrCells] at hsz
  match cs, hsz with
  | [c0, c1, c2, c3], _ =>
    rw [Try.u64Cells] at he
    have e0 := he 0 (by decide)
    rw [List.getElem?_eq_getElem (by omega)] at e0
    obtain ⟨n0, q0, -, w0⟩ := DataW.trod_int Try.u64 e0
    simp at q0
    have e1 := he 1 (by decide)
    rw [List.getElem?_eq_getElem (by omega)] at e1
    obtain ⟨n1, q1, -, w1⟩ := DataW.trod_int Try.u64 e1
    simp at q1
    have e2 := he 2 (by decide)
    rw [List.getElem?_eq_getElem (by omega)] at e2
    obtain ⟨n2, q2, -, w2⟩ := DataW.trod_int Try.u64 e2
    simp at q2
    have e3 := he 3 (by decide)
    rw [List.getElem?_eq_getElem (by omega)] at e3
    obtain ⟨n3, q3, -, w3⟩ := DataW.trod_int Try.u64 e3
    simp at q3
    subst c0 c1 c2 c3
    have hn : ∃ A : Nat, num n0 n1 n2 n3 = (A : Int) := ⟨(num n0 n1 n2 n3).toNat, (Int.toNat_of_nonneg (num_pos (wd_of_wf w0) (wd_of_wf w1) (wd_of_wf w2) (wd_of_wf w3))).symm⟩
    obtain ⟨A, hA⟩ := hn
    have ht := num_top (wd_of_wf w0) (wd_of_wf w1) (wd_of_wf w2) (wd_of_wf w3)
    obtain ⟨r0, r1, r2, r3⟩ := wd_num (wd_of_wf w0) (wd_of_wf w1) (wd_of_wf w2) (wd_of_wf w3) hA
    refine ⟨A, by rw [hA] at ht; omega, ?_⟩
    rw [r0, r1, r2, r3]

theorem open_vec {H : Type} {enc : TypeId × Value → H} {W : World} {b0 base : Nat} {spare : Nat → Bool} {held : Bool} {v : Value} {d : DataW H} {p : List MemPlace}
    (hv : Value.okWide Try.prog W .any b0 37 v) (h : DataW.Trod enc Try.prog W base spare held 37 v d p) :
    ∃ (ao : Option Addr) (n c b o : Nat) (As : Nat → Nat), v = .slice ao n c ∧ (∀ i, i < n → As i < 115792089237316195423570985008687907853269984665640564039457584007913129639936) ∧ VecAt W ao n b o As ∧ (0 < n → b < W.heap.size) := by
  obtain ⟨a0, len, cap, rfl⟩ := okWide_slice Try.vecty hv
  obtain ⟨fuel, hf⟩ := h
  rcases Go.Deep.open_slice Try.vecty hf with ⟨hcs, -⟩ | ⟨a, len', cap', m, n', D, Pl, hcs, -, hlc, -, hm, -, hx⟩
  · simp [Value.cells] at hcs
    obtain ⟨rfl, rfl, rfl⟩ := hcs
    exact ⟨none, 0, 0, 0, 0, fun _ => 0, rfl, fun i hi => by omega, ⟨fun h => by omega, fun i hi => by omega⟩, fun h => by omega⟩
  · simp [Value.cells] at hcs
    obtain ⟨rfl, rfl, rfl⟩ := hcs
    by_cases hn : 0 < len
    case neg =>
      obtain rfl : len = 0 := by omega
      exact ⟨_, 0, _, 0, 0, fun _ => 0, rfl, fun i hi => by omega, ⟨fun h => by omega, fun i hi => by omega⟩, fun h => by omega⟩
    obtain ⟨b, off, spot⟩ := a
    have hle : len ≤ m := by rw [hm]; split <;> omega
    have hall : ∀ i, ∃ A : Nat, i < len → A < 115792089237316195423570985008687907853269984665640564039457584007913129639936 ∧ ∀ j, j < 4 → W.cell? (((⟨b, off, spot⟩ : Addr).add (i * 4)).add j) = some (.int .u64 (wd A j : Nat)) := by
      intro i
      by_cases hi : i < len
      · obtain ⟨cs, h1, h2⟩ := hx i (by omega)
        rw [Try.arrCells] at h1
        obtain ⟨-, -, h3⟩ := World.cells?_some h1
        obtain ⟨A, hA, rfl⟩ := open_words h2
        refine ⟨A, fun _ => ⟨hA, fun j hj => ?_⟩⟩
        rw [h3 j hj]
        match j, hj with
        | 0, _ => rfl
        | 1, _ => rfl
        | 2, _ => rfl
        | 3, _ => rfl
      · exact ⟨0, fun h => absurd h hi⟩
    obtain ⟨As, hAs⟩ : ∃ As : Nat → Nat, ∀ i, i < len → As i < 115792089237316195423570985008687907853269984665640564039457584007913129639936 ∧ ∀ j, j < 4 → W.cell? (((⟨b, off, spot⟩ : Addr).add (i * 4)).add j) = some (.int .u64 (wd (As i) j : Nat)) :=
      ⟨fun i => Classical.choose (hall i), fun i => Classical.choose_spec (hall i)⟩
    have h0 := (hAs 0 hn).2 0 (by decide)
    have hspot : spot = none := by simpa [Addr.add] using World.cell?_spot h0
    subst hspot
    have hb := World.block_lt_of_cell? W _ h0
    refine ⟨_, len, _, b, off, As, rfl, fun i hi => (hAs i hi).1, ⟨fun _ => rfl, fun i hi j hj => ?_⟩, fun _ => by simpa [Addr.add] using hb⟩
    have := (hAs i hi).2 j hj
    rwa [Go.WideShapes.add_plain, Go.WideShapes.add_plain] at this

end Go.Proofs.Ytdocgdodahjooaa
