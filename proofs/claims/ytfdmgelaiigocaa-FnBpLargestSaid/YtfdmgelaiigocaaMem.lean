/- What memory holds: words of a number at an address; a block of its own that is filled word by word. No program in sight. -/
import Derived.Test.YtfdmgelaiigocaaNum
import Derived.WalkKit
import Derived.WalkSpells
import Derived.Deep.Draws
namespace Go.Proofs.Ytfdmgelaiigocaa
open Go.RowKit Num

/-- A fact kept from the walk (no tactic looks behind the name). -/
structure Shut (p : Prop) : Prop where
  out : p
theorem shut {p : Prop} (h : p) : Shut p := ⟨h⟩

/-- From offset o of block b on lie the n words of the number A. -/
def Cells (w : World) (b o n A : Nat) : Prop := ∀ i, i < n → w.cell? ⟨b, o + i, none⟩ = some (.int .u64 (wd A i))

theorem addr_ne {b b' o o' : Nat} (h : b ≠ b' ∨ o ≠ o') : (⟨b, o, none⟩ : Addr) ≠ ⟨b', o', none⟩ := fun e => by
  have h1 := congrArg Addr.block e
  have h2 := congrArg Addr.off e
  simp only at h1 h2
  omega
theorem keep {w : World} {b b' o o' : Nat} {v u : Value} (hc : w.cell? ⟨b', o', none⟩ = some u) (h : b ≠ b' ∨ o ≠ o') : (w.setCell ⟨b, o, none⟩ v).cell? ⟨b', o', none⟩ = some u := by
  rw [World.cell?_setCell_other _ _ _ _ (addr_ne h)]; exact hc
theorem hit {w : World} {b o : Nat} {v u : Value} (hc : w.cell? ⟨b, o, none⟩ = some u) : (w.setCell ⟨b, o, none⟩ v).cell? ⟨b, o, none⟩ = some v := World.cell?_setCell_same _ _ _ hc
theorem modify_two {α : Type} (h : Array α) (b : Nat) (f g : α → α) : (h.modify b f).modify b g = h.modify b (fun x => g (f x)) := by
  apply Array.ext_getElem?
  intro i
  simp only [Array.getElem?_modify]
  split <;> cases h[i]? <;> simp
theorem set_set (w : World) (b o : Nat) (v v' : Value) : (w.setCell ⟨b, o, none⟩ v).setCell ⟨b, o, none⟩ v' = w.setCell ⟨b, o, none⟩ v' := by
  simp only [World.setCell, modify_two]
  congr 2
  funext x
  cases x <;> simp
theorem set_swap (w : World) (b : Nat) {o o' : Nat} (v v' : Value) (h : o ≠ o') : (w.setCell ⟨b, o, none⟩ v).setCell ⟨b, o', none⟩ v' = (w.setCell ⟨b, o', none⟩ v').setCell ⟨b, o, none⟩ v := by
  simp only [World.setCell, modify_two]
  congr 2
  funext x
  cases x <;> simp
  rw [Array.setIfInBounds_comm _ _ h]

/-- Block b begins with n cells that may be written; cell j holds f j. -/
def Row (w : World) (b n : Nat) (f : Nat → Value) : Prop := ∀ j, j < n → w.cell? ⟨b, j, none⟩ = some (f j) ∧ w.frozen? ⟨b, j, none⟩ = false

theorem Row.set {w : World} {b n i : Nat} {f : Nat → Value} (h : Row w b n f) (hi : i < n) (v : Value) : Row (w.setCell ⟨b, i, none⟩ v) b n (fun j => if j = i then v else f j) := by
  intro j hj
  obtain ⟨h1, h2⟩ := h j hj
  refine ⟨?_, by rw [World.frozen?_setCell]; exact h2⟩
  by_cases e : j = i
  · subst e; simp only [if_true]; exact World.cell?_setCell_same _ _ _ h1
  · simp only [if_neg e]; rw [World.cell?_setCell_other _ _ _ _ (by intro h; cases h; exact e rfl)]; exact h1

theorem Row.made (w : World) (n : Nat) : Row (w.alloc (.cells (madeCells #[.int .u64 0] n) 22)) w.heap.size n (fun _ => .int .u64 0) := by
  intro j hj
  refine ⟨?_, World.frozen?_alloc_new _ _ _ _⟩
  rw [World.cell?_alloc_new]
  simp [madeCells, hj, Nat.mod_one]

/-- Block b of w holds the n words of A, and may be written. -/
def Own (w : World) (b n A : Nat) : Prop := Row w b n (fun j => .int .u64 (wd A j)) ∧ b < w.heap.size

theorem Own.cells {w : World} {b n A : Nat} (h : Own w b n A) : Cells w b 0 n A := fun i hi => by rw [Nat.zero_add]; exact (h.1 i hi).1

theorem Cells.below {w w' : World} {b o n A B : Nat} (h : Cells w b o n A) (hb : Below B w w') (hlt : b < B) : Cells w' b o n A :=
  fun i hi => (hb.cell (p := ⟨b, o + i, none⟩) hlt).trans (h i hi)
theorem Own.below {w w' : World} {b n A B : Nat} (h : Own w b n A) (hb : Below B w w') (hlt : b < B) : Own w' b n A :=
  ⟨fun i hi => ⟨(hb.cell (p := ⟨b, i, none⟩) hlt).trans (h.1 i hi).1, (hb.frozen (p := ⟨b, i, none⟩) hlt).trans (h.1 i hi).2⟩, Nat.lt_of_lt_of_le h.2 hb.size⟩
theorem Cells.drewN {w : World} {b o n A : Nat} (h : Cells w b o n A) (m : Nat) : Cells (w.drewN m) b o n A := h
theorem Own.drew {w : World} {b n A : Nat} (h : Own w b n A) : Own w.drew b n A := h
theorem Own.drewN {w : World} {b n A : Nat} (h : Own w b n A) (m : Nat) : Own (w.drewN m) b n A := h
theorem below_drawn {B : Nat} {a w : World} (h : Below B a w) (n : Nat) : Below B a (w.drewN n) := h.trans ⟨rfl, rfl, rfl, Nat.le_refl _, fun _ _ => rfl⟩
theorem Cells.congr {w : World} {b o n A A' : Nat} (h : Cells w b o n A) (e : ∀ i, i < n → wd A i = wd A' i) : Cells w b o n A' := fun i hi => by rw [h i hi, e i hi]
theorem Own.congr {w : World} {b n A A' : Nat} (h : Own w b n A) (e : ∀ i, i < n → wd A i = wd A' i) : Own w b n A' :=
  ⟨fun i hi => by simp only [← e i hi]; exact h.1 i hi, h.2⟩

/-- What is known of a block that is being filled with the words of S: k of them are there. -/
structure Fills (w wr : World) (n S k : Nat) : Prop where
  row : ∃ f, Row wr w.heap.size n f ∧ ∀ j, j < k → f j = .int .u64 (wd S j)
  below : Below w.heap.size w wr
  size : w.heap.size < wr.heap.size

theorem Fills.start (w : World) (n S : Nat) : Fills w (w.alloc (.cells (madeCells #[.int .u64 0] n) 22)) n S 0 :=
  ⟨⟨_, Row.made w n, fun j hj => by omega⟩, (Below.refl _ _).alloc (Nat.le_refl _) _, by simp⟩

theorem Fills.next {w wr : World} {n S k : Nat} (h : Fills w wr n S k) (hk : k < n) {v : Int} (hv : v = (wd S k : Nat)) : Fills w (wr.setCell ⟨w.heap.size, k, none⟩ (.int .u64 v)) n S (k + 1) := by
  obtain ⟨⟨f, hr, hf⟩, hb, hs⟩ := h
  subst hv
  refine ⟨⟨_, hr.set hk _, fun j hj => ?_⟩, hb.setCell (Nat.le_refl _) _, by rw [World.size_setCell]; exact hs⟩
  by_cases e : j = k
  · subst e; simp
  · simp only [if_neg e]; exact hf j (by omega)

theorem Fills.drewN {w wr : World} {n S k : Nat} (h : Fills w wr n S k) (m : Nat) : Fills w (wr.drewN m) n S k := ⟨h.row, below_drawn h.below m, h.size⟩

theorem Fills.own {w wr : World} {n S : Nat} (h : Fills w wr n S n) : Own wr w.heap.size n S := by
  obtain ⟨⟨f, hr, hf⟩, hb, hs⟩ := h
  exact ⟨fun j hj => ⟨by rw [(hr j hj).1, hf j hj], (hr j hj).2⟩, hs⟩

/-- A call that hands back v and leaves all old memory alone. -/
def Keeps (w : World) (v : Value) (e : Ending) (w' : World) : Prop := e = .returned v ∧ Below w.heap.size w w'

/-- w stands behind W0: below block B all is as it was. -/
structure Now (B : Nat) (W0 w : World) : Prop where
  below : Below B W0 w
  size : B ≤ w.heap.size
theorem Now.start {B : Nat} {W0 : World} (h : B ≤ W0.heap.size) : Now B W0 W0 := ⟨Below.refl _ _, h⟩
theorem Now.drew {B : Nat} {W0 w : World} (h : Now B W0 w) : Now B W0 w.drew := ⟨h.below.drew, h.size⟩
theorem Now.drewN {B : Nat} {W0 w : World} (h : Now B W0 w) (m : Nat) : Now B W0 (w.drewN m) := ⟨below_drawn h.below m, h.size⟩
theorem Now.call {B : Nat} {W0 w w' : World} (h : Now B W0 w) (hb : Below w.heap.size w w') : Now B W0 w' := ⟨h.below.trans (hb.mono h.size), Nat.le_trans h.size hb.size⟩
theorem Now.alloc {B : Nat} {W0 w : World} (h : Now B W0 w) (o : Obj) : Now B W0 (w.alloc o) := ⟨h.below.alloc h.size o, Nat.le_trans h.size (by simp)⟩
theorem Now.keeps {B : Nat} {w W0 w' : World} {v : Value} {e : Ending} (h : Now B W0 w') (h0 : Below w.heap.size w W0) (hB : w.heap.size ≤ B) (he : e = .returned v) : Keeps w v e w' := ⟨he, h0.trans (h.below.mono hB)⟩
theorem Now.setCell {B : Nat} {W0 w : World} (h : Now B W0 w) {p : Addr} (hp : B ≤ p.block) (u : Value) : Now B W0 (w.setCell p u) := ⟨h.below.setCell hp u, by rw [World.size_setCell]; exact h.size⟩
/-- What a call leaves of old cells, as rules for the walk. -/
theorem cell_call {W w1 : World} (hb : Below W.heap.size W w1) (b o : Nat) (h : b < W.heap.size) : w1.cell? ⟨b, o, none⟩ = W.cell? ⟨b, o, none⟩ := hb.cell (p := ⟨b, o, none⟩) h
theorem frozen_call {W w1 : World} (hb : Below W.heap.size W w1) (b o : Nat) (h : b < W.heap.size) : w1.frozen? ⟨b, o, none⟩ = W.frozen? ⟨b, o, none⟩ := hb.frozen (p := ⟨b, o, none⟩) h
theorem Cells.now {w w' : World} {b o n A B : Nat} (h : Cells w b o n A) (hb : Now B w w') (hlt : b < B) : Cells w' b o n A := h.below hb.below hlt

/-- A call that hands back the n words of A in a block of its own, inside f. -/
def Gives (w : World) (n A : Nat) (f : Value → Value) (e : Ending) (w' : World) : Prop :=
  ∃ b, e = .returned (f (.slice (some ⟨b, 0, none⟩) n n)) ∧ w.heap.size ≤ b ∧ Own w' b n A ∧ Below w.heap.size w w'

theorem u64wrap (x : Int) : IntKind.u64.wrap x = x % 18446744073709551616 := by simp [IntKind.wrap, IntKind.bits, IntKind.signed]

theorem plus_word (x y c : Nat) : IntKind.u64.wrap (IntKind.u64.wrap (↑x + ↑c) + ↑y) = (((x + y + c) % 18446744073709551616 : Nat) : Int) := by
  rw [u64wrap, u64wrap]; omega
theorem plus_one {x y c : Nat} (hx : x < 18446744073709551616) (hy : y < 18446744073709551616) (hc : c ≤ 1)
    (h : IntKind.u64.wrap (↑x + ↑c) < (c : Int) ∨ IntKind.u64.wrap (IntKind.u64.wrap (↑x + ↑c) + ↑y) < IntKind.u64.wrap (↑x + ↑c)) : (1 : Int) = (((x + y + c) / 18446744073709551616 : Nat) : Int) := by
  rw [u64wrap, u64wrap] at h; omega
theorem plus_nil {x y c : Nat} (hx : x < 18446744073709551616) (hy : y < 18446744073709551616) (hc : c ≤ 1)
    (h : (c : Int) ≤ IntKind.u64.wrap (↑x + ↑c) ∧ IntKind.u64.wrap (↑x + ↑c) ≤ IntKind.u64.wrap (IntKind.u64.wrap (↑x + ↑c) + ↑y)) : (0 : Int) = (((x + y + c) / 18446744073709551616 : Nat) : Int) := by
  rw [u64wrap, u64wrap] at h; omega
theorem plus_end {A B n : Nat} (hA : A < 18446744073709551616 ^ n) (hB : B < 18446744073709551616 ^ n) : ((car A B n : Int) == 1) = decide (18446744073709551616 ^ n ≤ A + B) := by
  have h := car_le A B n
  rw [car_last hA hB] at h ⊢
  have hp := pow_pos' n
  rw [Bool.eq_iff_iff]
  simp only [beq_iff_eq, decide_eq_true_eq]
  have e := Nat.div_pos_iff (a := A + B) (b := 18446744073709551616 ^ n)
  constructor
  · intro g
    exact (e.1 (by omega)).2
  · intro g
    have := e.2 ⟨hp, g⟩
    omega

theorem less_word {x y c : Nat} (hy : y < 18446744073709551616) (hc : c ≤ 1) :
    IntKind.u64.wrap (IntKind.u64.wrap (↑x - ↑c) - ↑y) = (((x + 18446744073709551616 - y - c) % 18446744073709551616 : Nat) : Int) := by
  rw [u64wrap, u64wrap]; omega
theorem less_one {x y c : Nat} (hx : x < 18446744073709551616) (hc : c ≤ 1)
    (h : x < c ∨ IntKind.u64.wrap (↑x - ↑c) < (y : Int)) : (1 : Int) = ((if x < y + c then 1 else 0 : Nat) : Int) := by
  rw [u64wrap] at h; split <;> omega
theorem less_nil {x y c : Nat} (_hx : x < 18446744073709551616)
    (h : ¬ x < c ∧ (y : Int) ≤ IntKind.u64.wrap (↑x - ↑c)) : (0 : Int) = ((if x < y + c then 1 else 0 : Nat) : Int) := by
  rw [u64wrap] at h; split <;> omega
theorem add_hit {A B M : Nat} (hA : A < M) (hB : B < M) (h : M ≤ A + B) : (A + B) % M = A + B - M := by
  rw [Nat.mod_eq_sub_mod h, Nat.mod_eq_of_lt (by omega)]
theorem less_end {A B n : Nat} (hA : A < 18446744073709551616 ^ n) (hB : B < 18446744073709551616 ^ n) : ((owe A B n : Int) == 1) = decide (A < B) := by
  rw [owe_last hA hB, Bool.eq_iff_iff]
  simp only [beq_iff_eq, decide_eq_true_eq]
  split <;> omega

end Go.Proofs.Ytfdmgelaiigocaa
