/- Contracts of lists' differences: the field's loop, its method, the thin package's function. -/
import Derived.Test.YtdocgdodahjooaaVecSum
namespace Go.Proofs.Ytdocgdodahjooaa
open Go.RowKit Num

/-- Of w nothing but block g has turned. -/
structure But (g : Nat) (w w' : World) : Prop where
  cell : ∀ b o, b ≠ g → w'.cell? ⟨b, o, none⟩ = w.cell? ⟨b, o, none⟩
  below : Below g w w'
  size : w.heap.size ≤ w'.heap.size
theorem But.refl (g : Nat) (w : World) : But g w w := ⟨fun _ _ _ => rfl, Below.refl _ _, Nat.le_refl _⟩
theorem But.setAt {g : Nat} {w w' : World} (h : But g w w') (o : Nat) (u : Value) : But g w (w'.setCell ⟨g, o, none⟩ u) :=
  ⟨fun b o' hb => by rw [World.cell?_setCell_other _ _ _ _ (addr_ne (Or.inl (fun e => hb e.symm)))]; exact h.cell b o' hb, below_setAt h.below o u, by rw [World.size_setCell]; exact h.size⟩
theorem But.drewN {g : Nat} {w w' : World} (h : But g w w') (m : Nat) : But g w (w'.drewN m) := ⟨h.cell, below_drawn h.below m, h.size⟩
theorem VecAt.but {g : Nat} {w w' : World} {ao : Option Addr} {n b o : Nat} {As : Nat → Nat} (h : VecAt w ao n b o As) (hb : But g w w') (hne : 0 < n → b ≠ g) : VecAt w' ao n b o As :=
  ⟨h.at', fun i hi j hj => by rw [hb.cell _ _ (hne (by omega))]; exact h.cells i hi j hj⟩

theorem Row.drew {w : World} {g N : Nat} {f : Nat → Value} (h : Row w g N f) : Row w.drew g N f := h
theorem Row.drewN {w : World} {g N : Nat} {f : Nat → Value} (h : Row w g N f) (m : Nat) : Row (w.drewN m) g N f := h
theorem Row.below {w w' : World} {g N B : Nat} {f : Nat → Value} (h : Row w g N f) (hb : Below B w w') (hlt : g < B) : Row w' g N f :=
  fun j hj => ⟨(hb.cell (p := ⟨g, j, none⟩) hlt).trans (h j hj).1, (hb.frozen (p := ⟨g, j, none⟩) hlt).trans (h j hj).2⟩
theorem ownsRow_base {w : World} {base base' e size : Nat} {v : Value} {n : Nat} {xs : List Value} (h : w.ownsRow base e size v n xs) (hb : base' ≤ base) : w.ownsRow base' e size v n xs := by
  obtain ⟨h0, h1 | ⟨g, cap, cur, h2, h3, h4⟩⟩ := h
  · exact ⟨h0, Or.inl h1⟩
  · exact ⟨h0, Or.inr ⟨g, cap, cur, h2, Nat.le_trans hb h3, h4⟩⟩
theorem Cells.drew {w : World} {b o n A : Nat} (h : Cells w b o n A) : Cells w.drew b o n A := h
theorem But.drew {g : Nat} {w w' : World} (h : But g w w') : But g w w'.drew := h.drewN 1

/-- A row of words, of which 4 are stored. -/
theorem row_put {w : World} {g N p R : Nat} {f : Nat → Value} (h : Row w g N f) (hp : p + 4 ≤ N) :
    ∃ f', Row ((((w.setCell ⟨g, p, none⟩ (.int .u64 (wd R 0 : Nat))).setCell ⟨g, p + 1, none⟩ (.int .u64 (wd R 1 : Nat))).setCell ⟨g, p + 2, none⟩ (.int .u64 (wd R 2 : Nat))).setCell ⟨g, p + 3, none⟩ (.int .u64 (wd R 3 : Nat))) g N f' ∧ (∀ j, j < 4 → f' (p + j) = .int .u64 (wd R j : Nat)) ∧ ∀ i, i < p ∨ p + 4 ≤ i → f' i = f i := by
  refine ⟨_, ((((h).set (by omega) _).set (by omega) _).set (by omega) _).set (by omega) _, fun j hj => ?_, fun i hi => ?_⟩
  · match j, hj with
    | 0, _ => simp
    | 1, _ => simp
    | 2, _ => simp
    | 3, _ => simp
  · rw [if_neg (by omega), if_neg (by omega), if_neg (by omega), if_neg (by omega)]

set_option maxRecDepth 100000 in
set_option maxHeartbeats 1600000 in
theorem sub_gen (ao bo : Option Addr) (n cr ca cb g b1 o1 b2 o2 : Nat) (As Bs : Nat → Nat) (w : World) (hn : n ≤ 2147483647) (hA : ∀ i, i < n → As i < 21888242871839275222246405745257275088548364400416034343698204186575808495617) (hB : ∀ i, i < n → Bs i < 21888242871839275222246405745257275088548364400416034343698204186575808495617)
    (hv : VecAt w ao n b1 o1 As) (hu : VecAt w bo n b2 o2 Bs) (h1 : 0 < n → b1 ≠ g) (h2 : 0 < n → b2 ≠ g) (ho : Row w g (n * 4) (fun _ => .int .u64 0)) :
    Calls Try.prog 45 #[.slice (some ⟨g, 0, none⟩) n cr, .slice ao n ca, .slice bo n cb] w fun e w' => e = .returned (.tuple #[]) ∧ VecAt w' (some ⟨g, 0, none⟩) n g 0 (fun i => subm (As i) (Bs i)) ∧ But g w w' := by
  have HV := shut hv; clear hv
  have HU := shut hu; clear hu
  have HA := shut hA; clear hA
  have HB := shut hB; clear hB
  have H1 := shut h1; clear h1
  have H2 := shut h2; clear h2
  have HO := shut ho; clear ho
  have hd0 : ((n : Int) != (n : Int)) = false := by simp
  go_enter Try.func45, Try.ntmps45
  go_wp2_with fail
  clear hd0
  go_loopw [22] (fun i wr => ∃ k : Nat, k ≤ n ∧ i = .int .i64 (k : Int) ∧ Shut ((∃ f, Row wr g (n * 4) f ∧ (∀ j, j < n * 4 → ∃ x : Int, f j = .int .u64 x) ∧ ∀ i j, i < k → j < 4 → f (i * 4 + j) = .int .u64 (wd (subm (As i) (Bs i)) j : Nat)) ∧ But g w wr)) (fun i _ => n - (intOf i).toNat)
  case atStart => exact ⟨0, Nat.zero_le _, rfl, ⟨⟨_, HO.out, fun j _ => ⟨0, rfl⟩, fun i j hi _ => by omega⟩, But.refl _ _⟩⟩
  case round =>
    obtain ⟨k, hk, rfl, hw⟩ := hrel
    by_cases hlt : k < n
    · have hd : decide (k < n) = true := by simpa using hlt
      have i1 : (k : Int) < (n : Int) := by omega
      obtain rfl := HV.out.at' (by omega)
      obtain rfl := HU.out.at' (by omega)
      have hx := ((HV.out.but hw.out.2 H1.out).cells k hlt).drew
      have hy := ((HU.out.but hw.out.2 H2.out).cells k hlt).drew
      have hne1 := H1.out (by omega)
      have hne2 := H2.out (by omega)
      obtain ⟨f, hr0, hint, hdone⟩ := hw.out.1
      have hr := hr0.drew
      have hbut := hw.out.2.drew
      clear hr0
      generalize hwd : wr.drew = wd0 at *
      have hfit : k * 4 + 4 ≤ n * 4 := by omega

      have x0 : wd0.cell? ⟨b1, o1 + k * 4, none⟩ = some (.int .u64 (wd ((As k)) 0 : Nat)) := hx 0 (by decide)
      have y0 : wd0.cell? ⟨b2, o2 + k * 4, none⟩ = some (.int .u64 (wd ((Bs k)) 0 : Nat)) := hy 0 (by decide)
      obtain ⟨v0, e0⟩ := hint (k * 4 + 0) (by omega)
      have z0 : wd0.cell? ⟨g, k * 4, none⟩ = some (.int .u64 v0) := by have := (hr (k * 4 + 0) (by omega)).1; rw [e0] at this; exact this
      have f0 : wd0.frozen? ⟨g, k * 4, none⟩ = false := (hr (k * 4 + 0) (by omega)).2
      have x1 : wd0.cell? ⟨b1, o1 + k * 4 + 1, none⟩ = some (.int .u64 (wd ((As k)) 1 : Nat)) := hx 1 (by decide)
      have y1 : wd0.cell? ⟨b2, o2 + k * 4 + 1, none⟩ = some (.int .u64 (wd ((Bs k)) 1 : Nat)) := hy 1 (by decide)
      obtain ⟨v1, e1⟩ := hint (k * 4 + 1) (by omega)
      have z1 : wd0.cell? ⟨g, k * 4 + 1, none⟩ = some (.int .u64 v1) := by have := (hr (k * 4 + 1) (by omega)).1; rw [e1] at this; exact this
      have f1 : wd0.frozen? ⟨g, k * 4 + 1, none⟩ = false := (hr (k * 4 + 1) (by omega)).2
      have x2 : wd0.cell? ⟨b1, o1 + k * 4 + 2, none⟩ = some (.int .u64 (wd ((As k)) 2 : Nat)) := hx 2 (by decide)
      have y2 : wd0.cell? ⟨b2, o2 + k * 4 + 2, none⟩ = some (.int .u64 (wd ((Bs k)) 2 : Nat)) := hy 2 (by decide)
      obtain ⟨v2, e2⟩ := hint (k * 4 + 2) (by omega)
      have z2 : wd0.cell? ⟨g, k * 4 + 2, none⟩ = some (.int .u64 v2) := by have := (hr (k * 4 + 2) (by omega)).1; rw [e2] at this; exact this
      have f2 : wd0.frozen? ⟨g, k * 4 + 2, none⟩ = false := (hr (k * 4 + 2) (by omega)).2
      have x3 : wd0.cell? ⟨b1, o1 + k * 4 + 3, none⟩ = some (.int .u64 (wd ((As k)) 3 : Nat)) := hx 3 (by decide)
      have y3 : wd0.cell? ⟨b2, o2 + k * 4 + 3, none⟩ = some (.int .u64 (wd ((Bs k)) 3 : Nat)) := hy 3 (by decide)
      obtain ⟨v3, e3⟩ := hint (k * 4 + 3) (by omega)
      have z3 : wd0.cell? ⟨g, k * 4 + 3, none⟩ = some (.int .u64 v3) := by have := (hr (k * 4 + 3) (by omega)).1; rw [e3] at this; exact this
      have f3 : wd0.frozen? ⟨g, k * 4 + 3, none⟩ = false := (hr (k * 4 + 3) (by omega)).2
      have C := shut (esub g (k * 4) b1 (o1 + k * 4) b2 (o2 + k * 4) (As k) (Bs k) (subm (As k) (Bs k)) v0 v1 v2 v3 wd0 rfl (Or.inl (Ne.symm hne1)) (Or.inl (Ne.symm hne2)) (HA.out k hlt) (HB.out k hlt) x0 x1 x2 x3 y0 y1 y2 y3 z0 z1 z2 z3 f0 f1 f2 f3)
      obtain ⟨f', hr', hnew, hold⟩ := row_put (R := subm (As k) (Bs k)) hr hfit
      have HN := shut (And.intro hbut (And.intro hr' (And.intro hnew (And.intro hold (And.intro hint (And.intro hdone hfit))))))
      clear hbut hx hy hne1 hne2 hr hint hdone hfit hr' hnew hold x0 y0 e0 z0 f0 x1 y1 e1 z1 f1 x2 y2 e2 z2 f2 x3 y3 e3 z3 f3
      go_wp2_with fail
      go_region_with (go_at_call 32; refine C.out.mono ?_; rintro e w' ⟨rfl, m, rfl⟩)
      have HQ : Shut ((∃ f, Row (((((wd0.setCell ⟨g, k * 4, none⟩ (.int .u64 (wd (subm (As k) (Bs k)) 0 : Nat))).setCell ⟨g, k * 4 + 1, none⟩ (.int .u64 (wd (subm (As k) (Bs k)) 1 : Nat))).setCell ⟨g, k * 4 + 2, none⟩ (.int .u64 (wd (subm (As k) (Bs k)) 2 : Nat))).setCell ⟨g, k * 4 + 3, none⟩ (.int .u64 (wd (subm (As k) (Bs k)) 3 : Nat))).drewN m) g (n * 4) f ∧ (∀ j, j < n * 4 → ∃ x : Int, f j = .int .u64 x) ∧ ∀ i j, i < k + 1 → j < 4 → f (i * 4 + j) = .int .u64 (wd (subm (As i) (Bs i)) j : Nat)) ∧ But g w (((((wd0.setCell ⟨g, k * 4, none⟩ (.int .u64 (wd (subm (As k) (Bs k)) 0 : Nat))).setCell ⟨g, k * 4 + 1, none⟩ (.int .u64 (wd (subm (As k) (Bs k)) 1 : Nat))).setCell ⟨g, k * 4 + 2, none⟩ (.int .u64 (wd (subm (As k) (Bs k)) 2 : Nat))).setCell ⟨g, k * 4 + 3, none⟩ (.int .u64 (wd (subm (As k) (Bs k)) 3 : Nat))).drewN m)) := by
        obtain ⟨hbut, hr', hnew, hold, hint, hdone, hfit⟩ := HN.out
        refine ⟨⟨f', hr'.drewN m, fun j hj => ?_, fun i j hi hj => ?_⟩, (((((hbut).setAt (k * 4) (.int .u64 (wd ((subm (As k) (Bs k))) 0 : Nat))).setAt (k * 4 + 1) (.int .u64 (wd ((subm (As k) (Bs k))) 1 : Nat))).setAt (k * 4 + 2) (.int .u64 (wd ((subm (As k) (Bs k))) 2 : Nat))).setAt (k * 4 + 3) (.int .u64 (wd ((subm (As k) (Bs k))) 3 : Nat))).drewN m⟩
        · by_cases c : j < k * 4 ∨ k * 4 + 4 ≤ j
          · rw [hold j c]; exact hint j hj
          · obtain ⟨q, rfl⟩ : ∃ q, j = k * 4 + q := ⟨j - k * 4, by omega⟩
            exact ⟨_, hnew q (by omega)⟩
        · by_cases e : i = k
          · rw [e]; exact hnew j hj
          · rw [hold _ (Or.inl (by omega))]
            exact hdone i j (by omega) hj
      clear HN C
      all_goals
        go_wp2_with fail
        go_roundw
        case rel => exact ⟨k + 1, by omega, by go_num, HQ⟩
        case measure => simp [intOf]; omega
    · have hd : decide (k < n) = false := by simpa using hlt
      obtain rfl : k = n := by omega
      go_wp2_with fail
      go_end0
      refine ⟨rfl, ⟨fun _ => rfl, fun i hi j hj => ?_⟩, hw.out.2⟩
      obtain ⟨f, hr, -, hdone⟩ := hw.out.1
      have h := (hr (i * 4 + j) (by omega)).1
      rw [hdone i j hi hj] at h
      rw [Nat.zero_add]
      exact h

set_option maxRecDepth 100000 in
set_option maxHeartbeats 800000 in
theorem vsub (ao bo : Option Addr) (n cr ca cb g b1 o1 b2 o2 bv : Nat) (As Bs : Nat → Nat) (w : World) (hn : n ≤ 2147483647) (hA : ∀ i, i < n → As i < 21888242871839275222246405745257275088548364400416034343698204186575808495617) (hB : ∀ i, i < n → Bs i < 21888242871839275222246405745257275088548364400416034343698204186575808495617)
    (hv : VecAt w ao n b1 o1 As) (hu : VecAt w bo n b2 o2 Bs) (h1 : 0 < n → b1 ≠ g) (h2 : 0 < n → b2 ≠ g) (ho : Row w g (n * 4) (fun _ => .int .u64 0)) (hc : w.cell? ⟨bv, 0, none⟩ = some (.slice (some ⟨g, 0, none⟩) n cr)) :
    Calls Try.prog 37 #[.pointer (some ⟨bv, 0, none⟩), .slice ao n ca, .slice bo n cb] w fun e w' => e = .returned (.tuple #[]) ∧ VecAt w' (some ⟨g, 0, none⟩) n g 0 (fun i => subm (As i) (Bs i)) ∧ But g w w' := by
  have C := shut (sub_gen ao bo n cr ca cb g b1 o1 b2 o2 As Bs w hn hA hB hv hu h1 h2 ho)
  clear hA hB hv hu h1 h2 ho
  go_enter Try.func37, Try.ntmps37
  go_wp2_with fail
  refine C.out.mono ?_
  rintro e w' ⟨rfl, hv', hb'⟩
  have H := shut (And.intro hv' hb')
  clear hv' hb' C
  go_wp2_with fail
  go_end0
  exact ⟨rfl, H.out.1, H.out.2⟩

theorem hmakeV (n : Nat) (hn : n ≤ 2147483647) (w : World) : (Instr.makeSlice 52 (.int .i64 n) (.int .i64 n)).run Try.prog w =
    .ok (.slice (some ⟨w.heap.size, 0, none⟩) n n) (w.alloc (.cells (madeCells #[.int .u64 0, .int .u64 0, .int .u64 0, .int .u64 0] (n * 4)) 43)) := by
  obtain ⟨i, hi, hz, h1, h2⟩ := info_parts info_elem
  have := run_make (P := Try.prog) w 52 43 i _ (by kernel_rfl) hi hz .i64 .i64 n n (by omega) (by omega) (by rw [h2]; omega) (by omega)
  rw [h1] at this
  simpa [Value.cells] using this
theorem row_made (w : World) (n t : Nat) : Row (w.alloc (.cells (madeCells #[.int .u64 0, .int .u64 0, .int .u64 0, .int .u64 0] (n * 4)) t)) w.heap.size (n * 4) (fun _ => .int .u64 0) := by
  intro j hj
  refine ⟨?_, World.frozen?_alloc_new _ _ _ _⟩
  rw [World.cell?_alloc_new]
  have h4 : j % 4 < 4 := Nat.mod_lt _ (by decide)
  simp [madeCells, hj]
  match j % 4, h4 with
  | 0, _ => rfl
  | 1, _ => rfl
  | 2, _ => rfl
  | 3, _ => rfl

set_option maxRecDepth 100000 in
set_option maxHeartbeats 800000 in
theorem impl_vecsub (ao bo : Option Addr) (n ca cb b1 o1 b2 o2 : Nat) (As Bs : Nat → Nat) (w : World) (hn : n ≤ 2147483647) (hA : ∀ i, i < n → As i < 21888242871839275222246405745257275088548364400416034343698204186575808495617) (hB : ∀ i, i < n → Bs i < 21888242871839275222246405745257275088548364400416034343698204186575808495617)
    (hv : VecAt w ao n b1 o1 As) (hu : VecAt w bo n b2 o2 Bs) (h1 : 0 < n → b1 < w.heap.size) (h2 : 0 < n → b2 < w.heap.size) :
    Calls Try.prog 25 #[.slice ao n ca, .slice bo n cb] w (GivesV w 23 n (fun i => subm (As i) (Bs i))) := by
  have HA := shut hA; clear hA
  have HB := shut hB; clear hB
  have HV := shut hv; clear hv
  have HU := shut hu; clear hu
  have H1 := shut h1; clear h1
  have H2 := shut h2; clear h2
  have hmk := hmakeV n hn
  have G0 : Shut (Now w.heap.size w ((w.alloc (.cells (madeCells #[.int .u64 0, .int .u64 0, .int .u64 0, .int .u64 0] (n * 4)) 43)).alloc (.cells #[.slice (some ⟨w.heap.size, 0, none⟩) n n] 52)) ∧ Row ((w.alloc (.cells (madeCells #[.int .u64 0, .int .u64 0, .int .u64 0, .int .u64 0] (n * 4)) 43)).alloc (.cells #[.slice (some ⟨w.heap.size, 0, none⟩) n n] 52)) w.heap.size (n * 4) (fun _ => .int .u64 0) ∧ ((w.alloc (.cells (madeCells #[.int .u64 0, .int .u64 0, .int .u64 0, .int .u64 0] (n * 4)) 43)).alloc (.cells #[.slice (some ⟨w.heap.size, 0, none⟩) n n] 52)).cell? ⟨w.heap.size + 1, 0, none⟩ = some (.slice (some ⟨w.heap.size, 0, none⟩) n n) ∧ ((w.alloc (.cells (madeCells #[.int .u64 0, .int .u64 0, .int .u64 0, .int .u64 0] (n * 4)) 43)).alloc (.cells #[.slice (some ⟨w.heap.size, 0, none⟩) n n] 52)).heap.size = w.heap.size + 2) := shut
    ⟨((Now.start (Nat.le_refl _)).alloc _).alloc _, (row_made w n 43).below ((Below.refl _ _).alloc (Nat.le_refl _) _) (by simp), by rw [show w.heap.size + 1 = (w.alloc (.cells (madeCells #[.int .u64 0, .int .u64 0, .int .u64 0, .int .u64 0] (n * 4)) 43)).heap.size from by simp, World.cell?_alloc_new]; rfl, by simp⟩
  go_enter Try.func25, Try.ntmps25
  go_wp2_with fail
  clear hmk
  generalize hWT : ((w.alloc (.cells (madeCells #[.int .u64 0, .int .u64 0, .int .u64 0, .int .u64 0] (n * 4)) 43)).alloc (.cells #[.slice (some ⟨w.heap.size, 0, none⟩) n n] 52)) = W0 at *
  clear hWT
  have C1 := shut (made_any ao n ca b1 o1 As W0 hn (HV.out.now G0.out.1 H1.out) (fun h => Nat.lt_of_lt_of_le (H1.out h) G0.out.1.size))
  refine C1.out.mono ?_
  rintro e w1 ⟨v1, rfl, hown1, hb1⟩
  obtain ⟨ao1, c1, g1, rfl, hv1, hg1⟩ := ownsRow_vec hown1
  have D1 := shut (And.intro hv1 (And.intro hg1 (And.intro hb1 (G0.out.1.call hb1))))
  clear hown1 hv1 hg1 hb1 C1
  go_wp2_with fail
  have C2 := shut (made_any bo n cb b2 o2 Bs w1 hn (HU.out.now D1.out.2.2.2 H2.out) (fun h => Nat.lt_of_lt_of_le (H2.out h) D1.out.2.2.2.size))
  refine C2.out.mono ?_
  rintro e w2 ⟨v2, rfl, hown2, hb2⟩
  obtain ⟨ao2, c2, g2, rfl, hv2, hg2⟩ := ownsRow_vec hown2
  have D2 := shut (And.intro hv2 (And.intro hg2 (And.intro hb2 (D1.out.2.2.2.call hb2))))
  clear hown2 hv2 hg2 hb2 C2
  go_wp2_with fail
  have z1 := D1.out.2.2.1.size
  have z2 := D2.out.2.2.1.size
  have z0 := G0.out.2.2.2
  have hrow := (G0.out.2.1.below D1.out.2.2.1 (by omega)).below D2.out.2.2.1 (by omega)
  have hcell := ((D2.out.2.2.1.cell (p := ⟨w.heap.size + 1, 0, none⟩) (by simp; omega)).trans (D1.out.2.2.1.cell (p := ⟨w.heap.size + 1, 0, none⟩) (by simp; omega))).trans G0.out.2.2.1
  have C3 := shut (vsub ao1 ao2 n n c1 c2 w.heap.size g1 0 g2 0 (w.heap.size + 1) As Bs w2 hn HA.out HB.out (D1.out.1.now ⟨D2.out.2.2.1, D2.out.2.2.1.size⟩ (fun h => (D1.out.2.1 h).2)) D2.out.1 (fun h => by have := (D1.out.2.1 h).1; omega) (fun h => by have := (D2.out.2.1 h).1; omega) hrow hcell)
  have HC := shut hcell
  clear hrow hcell z0 z1 z2
  refine C3.out.mono ?_
  rintro e w3 ⟨rfl, hv3, hb3⟩
  have hcell := (hb3.cell (w.heap.size + 1) 0 (by omega)).trans HC.out
  have D3 := shut (And.intro hv3 hb3)
  clear hv3 hb3 C3
  go_wp2_with fail
  have z3 := D3.out.2.size
  have z4 := D2.out.2.2.2.size
  have z1 := D1.out.2.2.1.size
  have z2 := D2.out.2.2.1.size
  have z0 := G0.out.2.2.2
  have C4 := shut (told_any (some ⟨w.heap.size, 0, none⟩) n n w.heap.size 0 _ w3 hn D3.out.1 (fun h => by omega))
  clear hcell z0 z1 z2 z3 z4
  refine C4.out.mono ?_
  rintro e w4 ⟨v4, rfl, hown4, hb4⟩
  have D4 := shut (And.intro hown4 hb4)
  clear hown4 hb4 C4
  go_wp2_with fail
  go_ret
  have z3 := D3.out.2.size
  have z4 := D2.out.2.2.2.size
  exact ⟨_, rfl, ownsRow_base D4.out.1 (by omega), (D2.out.2.2.2.below.trans D3.out.2.below).trans (D4.out.2.mono (by omega))⟩

end Go.Proofs.Ytdocgdodahjooaa
