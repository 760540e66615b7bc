/- Contract of the field's way out of the Montgomery form. -/
import Derived.Test.YteopljkdbndikaaMadd
import Derived.Test.YteopljkdbndikaaElem
import Derived.Deep.RegionWith
namespace Go.Proofs.Yteopljkdbndikaa
open Go.RowKit Num

/-- Of w nothing but cells of block g has turned. -/
structure Turns (g : Nat) (w w' : World) : Prop where
  cell : ∀ b o, b ≠ g → w'.cell? ⟨b, o, none⟩ = w.cell? ⟨b, o, none⟩
  frozen : ∀ b o, w'.frozen? ⟨b, o, none⟩ = w.frozen? ⟨b, o, none⟩
  below : Below g w w'
  size : w'.heap.size = w.heap.size
theorem Turns.refl (g : Nat) (w : World) : Turns g w w := ⟨fun _ _ _ => rfl, fun _ _ => rfl, Below.refl _ _, rfl⟩
theorem Turns.setAt {g : Nat} {w w' : World} (h : Turns g w w') (o : Nat) (u : Value) : Turns g w (w'.setCell ⟨g, o, none⟩ u) :=
  ⟨fun b o' hb => by rw [World.cell?_setCell_other _ _ _ _ (addr_ne (Or.inl (fun e => hb e.symm)))]; exact h.cell b o' hb, fun b o' => by rw [World.frozen?_setCell]; exact h.frozen b o',
   h.below.setCell (Nat.le_refl _) u, by rw [World.size_setCell]; exact h.size⟩
theorem Turns.drewN {g : Nat} {w w' : World} (h : Turns g w w') (m : Nat) : Turns g w (w'.drewN m) := ⟨h.cell, h.frozen, below_drawn h.below m, h.size⟩
theorem Turns.trans {g : Nat} {w w' w'' : World} (h : Turns g w w') (h' : Turns g w' w'') : Turns g w w'' :=
  ⟨fun b o hb => (h'.cell b o hb).trans (h.cell b o hb), fun b o => (h'.frozen b o).trans (h.frozen b o), h.below.trans h'.below, h'.size.trans h.size⟩

theorem upd_keep {W W' : World} {b o o' : Nat} {u v : Value} (hW : (W.setCell ⟨b, o, none⟩ v).drew = W') (h : W.cell? ⟨b, o', none⟩ = some u) (hne : o ≠ o') : W'.cell? ⟨b, o', none⟩ = some u := by
  subst hW; rw [World.cell?_drew]; exact keep h (Or.inr hne)
theorem upd_hit {W W' : World} {b o : Nat} {u v : Value} (hW : (W.setCell ⟨b, o, none⟩ v).drew = W') (h : W.cell? ⟨b, o, none⟩ = some u) : W'.cell? ⟨b, o, none⟩ = some v := by
  subst hW; rw [World.cell?_drew]; exact hit h
theorem upd_frozen {W W' : World} {b o o' : Nat} {v : Value} {f : Bool} (hW : (W.setCell ⟨b, o, none⟩ v).drew = W') (h : W.frozen? ⟨b, o', none⟩ = f) : W'.frozen? ⟨b, o', none⟩ = f := by
  subst hW; exact (World.frozen?_setCell _ _ _ _).trans h
theorem upd_turns {w W W' : World} {b o : Nat} {v : Value} (hW : (W.setCell ⟨b, o, none⟩ v).drew = W') (h : Turns b w W) : Turns b w W' := by
  subst hW; exact (h.setAt o v).drewN 1
theorem put_keep {W W' : World} {b o o' : Nat} {u v : Value} (hW : W.setCell ⟨b, o, none⟩ v = W') (h : W.cell? ⟨b, o', none⟩ = some u) (hne : o ≠ o') : W'.cell? ⟨b, o', none⟩ = some u := by
  subst hW; exact keep h (Or.inr hne)
theorem put_hit {W W' : World} {b o : Nat} {u v : Value} (hW : W.setCell ⟨b, o, none⟩ v = W') (h : W.cell? ⟨b, o, none⟩ = some u) : W'.cell? ⟨b, o, none⟩ = some v := by
  subst hW; exact hit h
theorem put_frozen {W W' : World} {b o o' : Nat} {v : Value} {f : Bool} (hW : W.setCell ⟨b, o, none⟩ v = W') (h : W.frozen? ⟨b, o', none⟩ = f) : W'.frozen? ⟨b, o', none⟩ = f := by
  subst hW; exact (World.frozen?_setCell _ _ _ _).trans h
theorem put_turns {w W W' : World} {b o : Nat} {v : Value} (hW : W.setCell ⟨b, o, none⟩ v = W') (h : Turns b w W) : Turns b w W' := by
  subst hW; exact h.setAt o v

theorem inv_word (z : Int) (_h : Wd z) : ∃ m : Int, (Wd m ∧ (z + m * 18446744069414584321) % 18446744073709551616 = 0) ∧ IntKind.u64.wrap (z * 18446744069414584319) = m := by
  refine ⟨z * 18446744069414584319 % 18446744073709551616, ⟨⟨by omega, by omega⟩, ?_⟩, by rw [u64wrap]⟩
  have e : z * 18446744069414584319 % 18446744073709551616 = z * 18446744069414584319 - 18446744073709551616 * (z * 18446744069414584319 / 18446744073709551616) := by omega
  omega
/-- One round: the number and so often the prime, less a word. -/
theorem mont_round {x0 x1 x2 x3 y0 y1 y2 m l C0 : Int} {C1 C2 C3 : Int} (gm : Wd m) (hm : (x0 + m * 18446744069414584321) % 18446744073709551616 = 0) (e0 : Madd1 m 18446744069414584321 x0 C0 l) (e1 : Madd2 m 6034159408538082302 x1 C0 C1 y0) (e2 : Madd2 m 3691218898639771653 x2 C1 C2 y1) (e3 : Madd2 m 8353516859464449352 x3 C2 C3 y2) (hx : num x0 x1 x2 x3 < 52435875175126190479447740508185965837690552500527637822603658699938581184513) (g0 : Wd x0) (_g1 : Wd x1) (_g2 : Wd x2) (_g3 : Wd x3) : num y0 y1 y2 C3 * 18446744073709551616 = num x0 x1 x2 x3 + m * 52435875175126190479447740508185965837690552500527637822603658699938581184513 ∧ num y0 y1 y2 C3 < 52435875175126190479447740508185965837690552500527637822603658699938581184513 := by
  unfold Madd1 Madd2 Wd at *
  unfold num at *
  have hl : l = 0 := by omega
  have h1 : (y0 + 18446744073709551616 * y1 + 340282366920938463463374607431768211456 * y2 + 6277101735386680763835789423207666416102355444464034512896 * C3) * 18446744073709551616 = (x0 + 18446744073709551616 * x1 + 340282366920938463463374607431768211456 * x2 + 6277101735386680763835789423207666416102355444464034512896 * x3) + m * 52435875175126190479447740508185965837690552500527637822603658699938581184513 := by omega
  exact ⟨h1, by omega⟩

/-- What is left. -/
def Montd (b o : Nat) (w : World) (X : Int) (e : Ending) (w' : World) : Prop :=
  e = .returned (.tuple #[]) ∧ ∃ d0 d1 d2 d3 : Int, (Wd d0 ∧ Wd d1 ∧ Wd d2 ∧ Wd d3) ∧ num d0 d1 d2 d3 < 52435875175126190479447740508185965837690552500527637822603658699938581184513 ∧ (∃ M : Int, num d0 d1 d2 d3 * 115792089237316195423570985008687907853269984665640564039457584007913129639936 = X + M * 52435875175126190479447740508185965837690552500527637822603658699938581184513) ∧ (w'.cell? ⟨b, o, none⟩ = some (.int .u64 d0) ∧ w'.cell? ⟨b, o + 1, none⟩ = some (.int .u64 d1) ∧ w'.cell? ⟨b, o + 2, none⟩ = some (.int .u64 d2) ∧ w'.cell? ⟨b, o + 3, none⟩ = some (.int .u64 d3)) ∧ Turns b w w'
set_option maxRecDepth 100000 in
set_option maxHeartbeats 4000000 in
theorem frommont_t (b o : Nat) (z0_0 z0_1 z0_2 z0_3 : Int) (w : World) (hX : num z0_0 z0_1 z0_2 z0_3 < 52435875175126190479447740508185965837690552500527637822603658699938581184513) (g0_0 : Wd z0_0) (g0_1 : Wd z0_1) (g0_2 : Wd z0_2) (g0_3 : Wd z0_3) (h0_0 : w.cell? ⟨b, o, none⟩ = some (.int .u64 z0_0)) (h0_1 : w.cell? ⟨b, o + 1, none⟩ = some (.int .u64 z0_1)) (h0_2 : w.cell? ⟨b, o + 2, none⟩ = some (.int .u64 z0_2)) (h0_3 : w.cell? ⟨b, o + 3, none⟩ = some (.int .u64 z0_3)) (f0_0 : w.frozen? ⟨b, o, none⟩ = false) (f0_1 : w.frozen? ⟨b, o + 1, none⟩ = false) (f0_2 : w.frozen? ⟨b, o + 2, none⟩ = false) (f0_3 : w.frozen? ⟨b, o + 3, none⟩ = false) :
    Calls Try.prog 33 #[.pointer (some ⟨b, o, none⟩)] w (Montd b o w (num z0_0 z0_1 z0_2 z0_3)) := by
  have Hg0_0 := shut g0_0; clear g0_0
  have Hg0_1 := shut g0_1; clear g0_1
  have Hg0_2 := shut g0_2; clear g0_2
  have Hg0_3 := shut g0_3; clear g0_3
  have S0 := shut hX; clear hX
  obtain ⟨m0, p0, a0⟩ := inv_word z0_0 Hg0_0.out
  have Hp0 := shut p0; have Ha0 := shut a0; clear p0 a0
  obtain ⟨C0_0, l0, e, k⟩ := madd0 Hp0.out.1 (b := 18446744069414584321) ⟨by omega, by omega⟩ Hg0_0.out
  have He0_0 := shut e; have Hk0_0 := shut k; clear e k
  obtain ⟨C0_1, z1_0, e, k⟩ := madd2 Hp0.out.1 (b := 6034159408538082302) ⟨by omega, by omega⟩ Hg0_1.out He0_0.out.2.1
  have He0_1 := shut e; have Hk0_1 := shut k; clear e k
  have Hg1_0 := shut He0_1.out.2.2
  obtain ⟨C0_2, z1_1, e, k⟩ := madd2 Hp0.out.1 (b := 3691218898639771653) ⟨by omega, by omega⟩ Hg0_2.out He0_1.out.2.1
  have He0_2 := shut e; have Hk0_2 := shut k; clear e k
  have Hg1_1 := shut He0_2.out.2.2
  obtain ⟨z1_3, z1_2, e, k⟩ := madd2 Hp0.out.1 (b := 8353516859464449352) ⟨by omega, by omega⟩ Hg0_3.out He0_2.out.2.1
  have He0_3 := shut e; have Hk0_3 := shut k; clear e k
  have Hg1_2 := shut He0_3.out.2.2
  have Hg1_3 := shut He0_3.out.2.1
  have R0 := shut (mont_round Hp0.out.1 Hp0.out.2 He0_0.out He0_1.out He0_2.out He0_3.out S0.out Hg0_0.out Hg0_1.out Hg0_2.out Hg0_3.out)
  have S1 := shut R0.out.2
  obtain ⟨m1, p1, a1⟩ := inv_word z1_0 Hg1_0.out
  have Hp1 := shut p1; have Ha1 := shut a1; clear p1 a1
  obtain ⟨C1_0, l1, e, k⟩ := madd0 Hp1.out.1 (b := 18446744069414584321) ⟨by omega, by omega⟩ Hg1_0.out
  have He1_0 := shut e; have Hk1_0 := shut k; clear e k
  obtain ⟨C1_1, z2_0, e, k⟩ := madd2 Hp1.out.1 (b := 6034159408538082302) ⟨by omega, by omega⟩ Hg1_1.out He1_0.out.2.1
  have He1_1 := shut e; have Hk1_1 := shut k; clear e k
  have Hg2_0 := shut He1_1.out.2.2
  obtain ⟨C1_2, z2_1, e, k⟩ := madd2 Hp1.out.1 (b := 3691218898639771653) ⟨by omega, by omega⟩ Hg1_2.out He1_1.out.2.1
  have He1_2 := shut e; have Hk1_2 := shut k; clear e k
  have Hg2_1 := shut He1_2.out.2.2
  obtain ⟨z2_3, z2_2, e, k⟩ := madd2 Hp1.out.1 (b := 8353516859464449352) ⟨by omega, by omega⟩ Hg1_3.out He1_2.out.2.1
  have He1_3 := shut e; have Hk1_3 := shut k; clear e k
  have Hg2_2 := shut He1_3.out.2.2
  have Hg2_3 := shut He1_3.out.2.1
  have R1 := shut (mont_round Hp1.out.1 Hp1.out.2 He1_0.out He1_1.out He1_2.out He1_3.out S1.out Hg1_0.out Hg1_1.out Hg1_2.out Hg1_3.out)
  have S2 := shut R1.out.2
  obtain ⟨m2, p2, a2⟩ := inv_word z2_0 Hg2_0.out
  have Hp2 := shut p2; have Ha2 := shut a2; clear p2 a2
  obtain ⟨C2_0, l2, e, k⟩ := madd0 Hp2.out.1 (b := 18446744069414584321) ⟨by omega, by omega⟩ Hg2_0.out
  have He2_0 := shut e; have Hk2_0 := shut k; clear e k
  obtain ⟨C2_1, z3_0, e, k⟩ := madd2 Hp2.out.1 (b := 6034159408538082302) ⟨by omega, by omega⟩ Hg2_1.out He2_0.out.2.1
  have He2_1 := shut e; have Hk2_1 := shut k; clear e k
  have Hg3_0 := shut He2_1.out.2.2
  obtain ⟨C2_2, z3_1, e, k⟩ := madd2 Hp2.out.1 (b := 3691218898639771653) ⟨by omega, by omega⟩ Hg2_2.out He2_1.out.2.1
  have He2_2 := shut e; have Hk2_2 := shut k; clear e k
  have Hg3_1 := shut He2_2.out.2.2
  obtain ⟨z3_3, z3_2, e, k⟩ := madd2 Hp2.out.1 (b := 8353516859464449352) ⟨by omega, by omega⟩ Hg2_3.out He2_2.out.2.1
  have He2_3 := shut e; have Hk2_3 := shut k; clear e k
  have Hg3_2 := shut He2_3.out.2.2
  have Hg3_3 := shut He2_3.out.2.1
  have R2 := shut (mont_round Hp2.out.1 Hp2.out.2 He2_0.out He2_1.out He2_2.out He2_3.out S2.out Hg2_0.out Hg2_1.out Hg2_2.out Hg2_3.out)
  have S3 := shut R2.out.2
  obtain ⟨m3, p3, a3⟩ := inv_word z3_0 Hg3_0.out
  have Hp3 := shut p3; have Ha3 := shut a3; clear p3 a3
  obtain ⟨C3_0, l3, e, k⟩ := madd0 Hp3.out.1 (b := 18446744069414584321) ⟨by omega, by omega⟩ Hg3_0.out
  have He3_0 := shut e; have Hk3_0 := shut k; clear e k
  obtain ⟨C3_1, z4_0, e, k⟩ := madd2 Hp3.out.1 (b := 6034159408538082302) ⟨by omega, by omega⟩ Hg3_1.out He3_0.out.2.1
  have He3_1 := shut e; have Hk3_1 := shut k; clear e k
  have Hg4_0 := shut He3_1.out.2.2
  obtain ⟨C3_2, z4_1, e, k⟩ := madd2 Hp3.out.1 (b := 3691218898639771653) ⟨by omega, by omega⟩ Hg3_2.out He3_1.out.2.1
  have He3_2 := shut e; have Hk3_2 := shut k; clear e k
  have Hg4_1 := shut He3_2.out.2.2
  obtain ⟨z4_3, z4_2, e, k⟩ := madd2 Hp3.out.1 (b := 8353516859464449352) ⟨by omega, by omega⟩ Hg3_3.out He3_2.out.2.1
  have He3_3 := shut e; have Hk3_3 := shut k; clear e k
  have Hg4_2 := shut He3_3.out.2.2
  have Hg4_3 := shut He3_3.out.2.1
  have R3 := shut (mont_round Hp3.out.1 Hp3.out.2 He3_0.out He3_1.out He3_2.out He3_3.out S3.out Hg3_0.out Hg3_1.out Hg3_2.out Hg3_3.out)
  have S4 := shut R3.out.2
  have Hh0_0 := shut h0_0; have Hf0_0 := shut f0_0; clear h0_0 f0_0
  have Hh0_1 := shut h0_1; have Hf0_1 := shut f0_1; clear h0_1 f0_1
  have Hh0_2 := shut h0_2; have Hf0_2 := shut f0_2; clear h0_2 f0_2
  have Hh0_3 := shut h0_3; have Hf0_3 := shut f0_3; clear h0_3 f0_3
  have T0 := shut (Turns.refl b w)
  have ht : decide (num z4_0 z4_1 z4_2 z4_3 < 52435875175126190479447740508185965837690552500527637822603658699938581184513) = true := by have := S4.out; simpa using this
  have HT := shut ht; clear ht
  go_enter Try.func33, Try.ntmps33
  have o0 := Hh0_0.out; have o1 := Ha0.out
  go_wp2_with fail
  clear o0 o1
  refine (Hk0_0.out _).mono ?_
  rintro e w' ⟨rfl, rfl⟩
  go_wp2_with fail
  have o0 := Hh0_1.out; have o1 := Hh0_0.out; have o2 := Hf0_0.out
  go_region_with (go_at_call 38; refine (Hk0_1.out _).mono ?_; rintro e w' ⟨rfl, rfl⟩)
  clear o0 o1 o2
  obtain ⟨W1, hW⟩ : ∃ W, (w.setCell ⟨b, o, none⟩ (.int .u64 z1_0)).drew = W := ⟨_, rfl⟩
  rw [hW]
  have Hh1_0 := shut (upd_hit hW Hh0_0.out)
  have Hf1_0 := shut (upd_frozen hW Hf0_0.out)
  have Hh1_1 := shut (upd_keep hW Hh0_1.out (by omega))
  have Hf1_1 := shut (upd_frozen hW Hf0_1.out)
  have Hh1_2 := shut (upd_keep hW Hh0_2.out (by omega))
  have Hf1_2 := shut (upd_frozen hW Hf0_2.out)
  have Hh1_3 := shut (upd_keep hW Hh0_3.out (by omega))
  have Hf1_3 := shut (upd_frozen hW Hf0_3.out)
  have T1 := shut (upd_turns hW T0.out)
  clear hW Hh0_0 Hf0_0 Hh0_1 Hf0_1 Hh0_2 Hf0_2 Hh0_3 Hf0_3 T0
  go_wp2_with fail
  have o0 := Hh1_2.out; have o1 := Hh1_1.out; have o2 := Hf1_1.out
  go_region_with (go_at_call 38; refine (Hk0_2.out _).mono ?_; rintro e w' ⟨rfl, rfl⟩)
  clear o0 o1 o2
  obtain ⟨W2, hW⟩ : ∃ W, (W1.setCell ⟨b, o + 1, none⟩ (.int .u64 z1_1)).drew = W := ⟨_, rfl⟩
  rw [hW]
  have Hh2_0 := shut (upd_keep hW Hh1_0.out (by omega))
  have Hf2_0 := shut (upd_frozen hW Hf1_0.out)
  have Hh2_1 := shut (upd_hit hW Hh1_1.out)
  have Hf2_1 := shut (upd_frozen hW Hf1_1.out)
  have Hh2_2 := shut (upd_keep hW Hh1_2.out (by omega))
  have Hf2_2 := shut (upd_frozen hW Hf1_2.out)
  have Hh2_3 := shut (upd_keep hW Hh1_3.out (by omega))
  have Hf2_3 := shut (upd_frozen hW Hf1_3.out)
  have T2 := shut (upd_turns hW T1.out)
  clear hW Hh1_0 Hf1_0 Hh1_1 Hf1_1 Hh1_2 Hf1_2 Hh1_3 Hf1_3 T1
  go_wp2_with fail
  have o0 := Hh2_3.out; have o1 := Hh2_2.out; have o2 := Hf2_2.out
  go_region_with (go_at_call 38; refine (Hk0_3.out _).mono ?_; rintro e w' ⟨rfl, rfl⟩)
  clear o0 o1 o2
  obtain ⟨W3, hW⟩ : ∃ W, (W2.setCell ⟨b, o + 2, none⟩ (.int .u64 z1_2)).drew = W := ⟨_, rfl⟩
  rw [hW]
  have Hh3_0 := shut (upd_keep hW Hh2_0.out (by omega))
  have Hf3_0 := shut (upd_frozen hW Hf2_0.out)
  have Hh3_1 := shut (upd_keep hW Hh2_1.out (by omega))
  have Hf3_1 := shut (upd_frozen hW Hf2_1.out)
  have Hh3_2 := shut (upd_hit hW Hh2_2.out)
  have Hf3_2 := shut (upd_frozen hW Hf2_2.out)
  have Hh3_3 := shut (upd_keep hW Hh2_3.out (by omega))
  have Hf3_3 := shut (upd_frozen hW Hf2_3.out)
  have T3 := shut (upd_turns hW T2.out)
  clear hW Hh2_0 Hf2_0 Hh2_1 Hf2_1 Hh2_2 Hf2_2 Hh2_3 Hf2_3 T2
  have o0 := Hh3_3.out; have o1 := Hf3_3.out
  have o2 : (W3.setCell ⟨b, o + 3, none⟩ (.int .u64 z1_3)).cell? ⟨b, o, none⟩ = some (.int .u64 z1_0) := keep Hh3_0.out (by omega)
  have o3 := Ha1.out
  go_wp2_with fail
  clear o0 o1 o2 o3
  obtain ⟨W4, hW⟩ : ∃ W, W3.setCell ⟨b, o + 3, none⟩ (.int .u64 z1_3) = W := ⟨_, rfl⟩
  rw [hW]
  have Hh4_0 := shut (put_keep hW Hh3_0.out (by omega))
  have Hf4_0 := shut (put_frozen hW Hf3_0.out)
  have Hh4_1 := shut (put_keep hW Hh3_1.out (by omega))
  have Hf4_1 := shut (put_frozen hW Hf3_1.out)
  have Hh4_2 := shut (put_keep hW Hh3_2.out (by omega))
  have Hf4_2 := shut (put_frozen hW Hf3_2.out)
  have Hh4_3 := shut (put_hit hW Hh3_3.out)
  have Hf4_3 := shut (put_frozen hW Hf3_3.out)
  have T4 := shut (put_turns hW T3.out)
  clear hW Hh3_0 Hf3_0 Hh3_1 Hf3_1 Hh3_2 Hf3_2 Hh3_3 Hf3_3 T3
  refine (Hk1_0.out _).mono ?_
  rintro e w' ⟨rfl, rfl⟩
  go_wp2_with fail
  have o0 := Hh4_1.out; have o1 := Hh4_0.out; have o2 := Hf4_0.out
  go_region_with (go_at_call 38; refine (Hk1_1.out _).mono ?_; rintro e w' ⟨rfl, rfl⟩)
  clear o0 o1 o2
  obtain ⟨W5, hW⟩ : ∃ W, (W4.setCell ⟨b, o, none⟩ (.int .u64 z2_0)).drew = W := ⟨_, rfl⟩
  rw [hW]
  have Hh5_0 := shut (upd_hit hW Hh4_0.out)
  have Hf5_0 := shut (upd_frozen hW Hf4_0.out)
  have Hh5_1 := shut (upd_keep hW Hh4_1.out (by omega))
  have Hf5_1 := shut (upd_frozen hW Hf4_1.out)
  have Hh5_2 := shut (upd_keep hW Hh4_2.out (by omega))
  have Hf5_2 := shut (upd_frozen hW Hf4_2.out)
  have Hh5_3 := shut (upd_keep hW Hh4_3.out (by omega))
  have Hf5_3 := shut (upd_frozen hW Hf4_3.out)
  have T5 := shut (upd_turns hW T4.out)
  clear hW Hh4_0 Hf4_0 Hh4_1 Hf4_1 Hh4_2 Hf4_2 Hh4_3 Hf4_3 T4
  go_wp2_with fail
  have o0 := Hh5_2.out; have o1 := Hh5_1.out; have o2 := Hf5_1.out
  go_region_with (go_at_call 38; refine (Hk1_2.out _).mono ?_; rintro e w' ⟨rfl, rfl⟩)
  clear o0 o1 o2
  obtain ⟨W6, hW⟩ : ∃ W, (W5.setCell ⟨b, o + 1, none⟩ (.int .u64 z2_1)).drew = W := ⟨_, rfl⟩
  rw [hW]
  have Hh6_0 := shut (upd_keep hW Hh5_0.out (by omega))
  have Hf6_0 := shut (upd_frozen hW Hf5_0.out)
  have Hh6_1 := shut (upd_hit hW Hh5_1.out)
  have Hf6_1 := shut (upd_frozen hW Hf5_1.out)
  have Hh6_2 := shut (upd_keep hW Hh5_2.out (by omega))
  have Hf6_2 := shut (upd_frozen hW Hf5_2.out)
  have Hh6_3 := shut (upd_keep hW Hh5_3.out (by omega))
  have Hf6_3 := shut (upd_frozen hW Hf5_3.out)
  have T6 := shut (upd_turns hW T5.out)
  clear hW Hh5_0 Hf5_0 Hh5_1 Hf5_1 Hh5_2 Hf5_2 Hh5_3 Hf5_3 T5
  go_wp2_with fail
  have o0 := Hh6_3.out; have o1 := Hh6_2.out; have o2 := Hf6_2.out
  go_region_with (go_at_call 38; refine (Hk1_3.out _).mono ?_; rintro e w' ⟨rfl, rfl⟩)
  clear o0 o1 o2
  obtain ⟨W7, hW⟩ : ∃ W, (W6.setCell ⟨b, o + 2, none⟩ (.int .u64 z2_2)).drew = W := ⟨_, rfl⟩
  rw [hW]
  have Hh7_0 := shut (upd_keep hW Hh6_0.out (by omega))
  have Hf7_0 := shut (upd_frozen hW Hf6_0.out)
  have Hh7_1 := shut (upd_keep hW Hh6_1.out (by omega))
  have Hf7_1 := shut (upd_frozen hW Hf6_1.out)
  have Hh7_2 := shut (upd_hit hW Hh6_2.out)
  have Hf7_2 := shut (upd_frozen hW Hf6_2.out)
  have Hh7_3 := shut (upd_keep hW Hh6_3.out (by omega))
  have Hf7_3 := shut (upd_frozen hW Hf6_3.out)
  have T7 := shut (upd_turns hW T6.out)
  clear hW Hh6_0 Hf6_0 Hh6_1 Hf6_1 Hh6_2 Hf6_2 Hh6_3 Hf6_3 T6
  have o0 := Hh7_3.out; have o1 := Hf7_3.out
  have o2 : (W7.setCell ⟨b, o + 3, none⟩ (.int .u64 z2_3)).cell? ⟨b, o, none⟩ = some (.int .u64 z2_0) := keep Hh7_0.out (by omega)
  have o3 := Ha2.out
  go_wp2_with fail
  clear o0 o1 o2 o3
  obtain ⟨W8, hW⟩ : ∃ W, W7.setCell ⟨b, o + 3, none⟩ (.int .u64 z2_3) = W := ⟨_, rfl⟩
  rw [hW]
  have Hh8_0 := shut (put_keep hW Hh7_0.out (by omega))
  have Hf8_0 := shut (put_frozen hW Hf7_0.out)
  have Hh8_1 := shut (put_keep hW Hh7_1.out (by omega))
  have Hf8_1 := shut (put_frozen hW Hf7_1.out)
  have Hh8_2 := shut (put_keep hW Hh7_2.out (by omega))
  have Hf8_2 := shut (put_frozen hW Hf7_2.out)
  have Hh8_3 := shut (put_hit hW Hh7_3.out)
  have Hf8_3 := shut (put_frozen hW Hf7_3.out)
  have T8 := shut (put_turns hW T7.out)
  clear hW Hh7_0 Hf7_0 Hh7_1 Hf7_1 Hh7_2 Hf7_2 Hh7_3 Hf7_3 T7
  refine (Hk2_0.out _).mono ?_
  rintro e w' ⟨rfl, rfl⟩
  go_wp2_with fail
  have o0 := Hh8_1.out; have o1 := Hh8_0.out; have o2 := Hf8_0.out
  go_region_with (go_at_call 38; refine (Hk2_1.out _).mono ?_; rintro e w' ⟨rfl, rfl⟩)
  clear o0 o1 o2
  obtain ⟨W9, hW⟩ : ∃ W, (W8.setCell ⟨b, o, none⟩ (.int .u64 z3_0)).drew = W := ⟨_, rfl⟩
  rw [hW]
  have Hh9_0 := shut (upd_hit hW Hh8_0.out)
  have Hf9_0 := shut (upd_frozen hW Hf8_0.out)
  have Hh9_1 := shut (upd_keep hW Hh8_1.out (by omega))
  have Hf9_1 := shut (upd_frozen hW Hf8_1.out)
  have Hh9_2 := shut (upd_keep hW Hh8_2.out (by omega))
  have Hf9_2 := shut (upd_frozen hW Hf8_2.out)
  have Hh9_3 := shut (upd_keep hW Hh8_3.out (by omega))
  have Hf9_3 := shut (upd_frozen hW Hf8_3.out)
  have T9 := shut (upd_turns hW T8.out)
  clear hW Hh8_0 Hf8_0 Hh8_1 Hf8_1 Hh8_2 Hf8_2 Hh8_3 Hf8_3 T8
  go_wp2_with fail
  have o0 := Hh9_2.out; have o1 := Hh9_1.out; have o2 := Hf9_1.out
  go_region_with (go_at_call 38; refine (Hk2_2.out _).mono ?_; rintro e w' ⟨rfl, rfl⟩)
  clear o0 o1 o2
  obtain ⟨W10, hW⟩ : ∃ W, (W9.setCell ⟨b, o + 1, none⟩ (.int .u64 z3_1)).drew = W := ⟨_, rfl⟩
  rw [hW]
  have Hh10_0 := shut (upd_keep hW Hh9_0.out (by omega))
  have Hf10_0 := shut (upd_frozen hW Hf9_0.out)
  have Hh10_1 := shut (upd_hit hW Hh9_1.out)
  have Hf10_1 := shut (upd_frozen hW Hf9_1.out)
  have Hh10_2 := shut (upd_keep hW Hh9_2.out (by omega))
  have Hf10_2 := shut (upd_frozen hW Hf9_2.out)
  have Hh10_3 := shut (upd_keep hW Hh9_3.out (by omega))
  have Hf10_3 := shut (upd_frozen hW Hf9_3.out)
  have T10 := shut (upd_turns hW T9.out)
  clear hW Hh9_0 Hf9_0 Hh9_1 Hf9_1 Hh9_2 Hf9_2 Hh9_3 Hf9_3 T9
  go_wp2_with fail
  have o0 := Hh10_3.out; have o1 := Hh10_2.out; have o2 := Hf10_2.out
  go_region_with (go_at_call 38; refine (Hk2_3.out _).mono ?_; rintro e w' ⟨rfl, rfl⟩)
  clear o0 o1 o2
  obtain ⟨W11, hW⟩ : ∃ W, (W10.setCell ⟨b, o + 2, none⟩ (.int .u64 z3_2)).drew = W := ⟨_, rfl⟩
  rw [hW]
  have Hh11_0 := shut (upd_keep hW Hh10_0.out (by omega))
  have Hf11_0 := shut (upd_frozen hW Hf10_0.out)
  have Hh11_1 := shut (upd_keep hW Hh10_1.out (by omega))
  have Hf11_1 := shut (upd_frozen hW Hf10_1.out)
  have Hh11_2 := shut (upd_hit hW Hh10_2.out)
  have Hf11_2 := shut (upd_frozen hW Hf10_2.out)
  have Hh11_3 := shut (upd_keep hW Hh10_3.out (by omega))
  have Hf11_3 := shut (upd_frozen hW Hf10_3.out)
  have T11 := shut (upd_turns hW T10.out)
  clear hW Hh10_0 Hf10_0 Hh10_1 Hf10_1 Hh10_2 Hf10_2 Hh10_3 Hf10_3 T10
  have o0 := Hh11_3.out; have o1 := Hf11_3.out
  have o2 : (W11.setCell ⟨b, o + 3, none⟩ (.int .u64 z3_3)).cell? ⟨b, o, none⟩ = some (.int .u64 z3_0) := keep Hh11_0.out (by omega)
  have o3 := Ha3.out
  go_wp2_with fail
  clear o0 o1 o2 o3
  obtain ⟨W12, hW⟩ : ∃ W, W11.setCell ⟨b, o + 3, none⟩ (.int .u64 z3_3) = W := ⟨_, rfl⟩
  rw [hW]
  have Hh12_0 := shut (put_keep hW Hh11_0.out (by omega))
  have Hf12_0 := shut (put_frozen hW Hf11_0.out)
  have Hh12_1 := shut (put_keep hW Hh11_1.out (by omega))
  have Hf12_1 := shut (put_frozen hW Hf11_1.out)
  have Hh12_2 := shut (put_keep hW Hh11_2.out (by omega))
  have Hf12_2 := shut (put_frozen hW Hf11_2.out)
  have Hh12_3 := shut (put_hit hW Hh11_3.out)
  have Hf12_3 := shut (put_frozen hW Hf11_3.out)
  have T12 := shut (put_turns hW T11.out)
  clear hW Hh11_0 Hf11_0 Hh11_1 Hf11_1 Hh11_2 Hf11_2 Hh11_3 Hf11_3 T11
  refine (Hk3_0.out _).mono ?_
  rintro e w' ⟨rfl, rfl⟩
  go_wp2_with fail
  have o0 := Hh12_1.out; have o1 := Hh12_0.out; have o2 := Hf12_0.out
  go_region_with (go_at_call 38; refine (Hk3_1.out _).mono ?_; rintro e w' ⟨rfl, rfl⟩)
  clear o0 o1 o2
  obtain ⟨W13, hW⟩ : ∃ W, (W12.setCell ⟨b, o, none⟩ (.int .u64 z4_0)).drew = W := ⟨_, rfl⟩
  rw [hW]
  have Hh13_0 := shut (upd_hit hW Hh12_0.out)
  have Hf13_0 := shut (upd_frozen hW Hf12_0.out)
  have Hh13_1 := shut (upd_keep hW Hh12_1.out (by omega))
  have Hf13_1 := shut (upd_frozen hW Hf12_1.out)
  have Hh13_2 := shut (upd_keep hW Hh12_2.out (by omega))
  have Hf13_2 := shut (upd_frozen hW Hf12_2.out)
  have Hh13_3 := shut (upd_keep hW Hh12_3.out (by omega))
  have Hf13_3 := shut (upd_frozen hW Hf12_3.out)
  have T13 := shut (upd_turns hW T12.out)
  clear hW Hh12_0 Hf12_0 Hh12_1 Hf12_1 Hh12_2 Hf12_2 Hh12_3 Hf12_3 T12
  go_wp2_with fail
  have o0 := Hh13_2.out; have o1 := Hh13_1.out; have o2 := Hf13_1.out
  go_region_with (go_at_call 38; refine (Hk3_2.out _).mono ?_; rintro e w' ⟨rfl, rfl⟩)
  clear o0 o1 o2
  obtain ⟨W14, hW⟩ : ∃ W, (W13.setCell ⟨b, o + 1, none⟩ (.int .u64 z4_1)).drew = W := ⟨_, rfl⟩
  rw [hW]
  have Hh14_0 := shut (upd_keep hW Hh13_0.out (by omega))
  have Hf14_0 := shut (upd_frozen hW Hf13_0.out)
  have Hh14_1 := shut (upd_hit hW Hh13_1.out)
  have Hf14_1 := shut (upd_frozen hW Hf13_1.out)
  have Hh14_2 := shut (upd_keep hW Hh13_2.out (by omega))
  have Hf14_2 := shut (upd_frozen hW Hf13_2.out)
  have Hh14_3 := shut (upd_keep hW Hh13_3.out (by omega))
  have Hf14_3 := shut (upd_frozen hW Hf13_3.out)
  have T14 := shut (upd_turns hW T13.out)
  clear hW Hh13_0 Hf13_0 Hh13_1 Hf13_1 Hh13_2 Hf13_2 Hh13_3 Hf13_3 T13
  go_wp2_with fail
  have o0 := Hh14_3.out; have o1 := Hh14_2.out; have o2 := Hf14_2.out
  go_region_with (go_at_call 38; refine (Hk3_3.out _).mono ?_; rintro e w' ⟨rfl, rfl⟩)
  clear o0 o1 o2
  obtain ⟨W15, hW⟩ : ∃ W, (W14.setCell ⟨b, o + 2, none⟩ (.int .u64 z4_2)).drew = W := ⟨_, rfl⟩
  rw [hW]
  have Hh15_0 := shut (upd_keep hW Hh14_0.out (by omega))
  have Hf15_0 := shut (upd_frozen hW Hf14_0.out)
  have Hh15_1 := shut (upd_keep hW Hh14_1.out (by omega))
  have Hf15_1 := shut (upd_frozen hW Hf14_1.out)
  have Hh15_2 := shut (upd_hit hW Hh14_2.out)
  have Hf15_2 := shut (upd_frozen hW Hf14_2.out)
  have Hh15_3 := shut (upd_keep hW Hh14_3.out (by omega))
  have Hf15_3 := shut (upd_frozen hW Hf14_3.out)
  have T15 := shut (upd_turns hW T14.out)
  clear hW Hh14_0 Hf14_0 Hh14_1 Hf14_1 Hh14_2 Hf14_2 Hh14_3 Hf14_3 T14
  have o0 := Hh15_3.out; have o1 := Hf15_3.out
  have o2 : (W15.setCell ⟨b, o + 3, none⟩ (.int .u64 z4_3)).cell? ⟨b, o, none⟩ = some (.int .u64 z4_0) := keep Hh15_0.out (by omega)
  go_wp2_with fail
  clear o0 o1 o2
  obtain ⟨W16, hW⟩ : ∃ W, W15.setCell ⟨b, o + 3, none⟩ (.int .u64 z4_3) = W := ⟨_, rfl⟩
  rw [hW]
  have Hh16_0 := shut (put_keep hW Hh15_0.out (by omega))
  have Hf16_0 := shut (put_frozen hW Hf15_0.out)
  have Hh16_1 := shut (put_keep hW Hh15_1.out (by omega))
  have Hf16_1 := shut (put_frozen hW Hf15_1.out)
  have Hh16_2 := shut (put_keep hW Hh15_2.out (by omega))
  have Hf16_2 := shut (put_frozen hW Hf15_2.out)
  have Hh16_3 := shut (put_hit hW Hh15_3.out)
  have Hf16_3 := shut (put_frozen hW Hf15_3.out)
  have T16 := shut (put_turns hW T15.out)
  clear hW Hh15_0 Hf15_0 Hh15_1 Hf15_1 Hh15_2 Hf15_2 Hh15_3 Hf15_3 T15
  refine (small_any b o z4_0 z4_1 z4_2 z4_3 _ Hg4_0.out Hg4_1.out Hg4_2.out Hg4_3.out Hh16_0.out Hh16_1.out Hh16_2.out Hh16_3.out).mono ?_
  rintro e w' ⟨rfl, rfl⟩
  have ht := HT.out
  go_wp2_with fail
  go_end0
  refine ⟨rfl, z4_0, z4_1, z4_2, z4_3, ⟨Hg4_0.out, Hg4_1.out, Hg4_2.out, Hg4_3.out⟩, S4.out, ⟨m0 * 1 + m1 * 18446744073709551616 + m2 * 340282366920938463463374607431768211456 + m3 * 6277101735386680763835789423207666416102355444464034512896, ?_⟩, ⟨Hh16_0.out, Hh16_1.out, Hh16_2.out, Hh16_3.out⟩, T16.out⟩
  have r0 := R0.out.1
  have r1 := R1.out.1
  have r2 := R2.out.1
  have r3 := R3.out.1
  generalize num z0_0 z0_1 z0_2 z0_3 = N0 at *
  generalize num z1_0 z1_1 z1_2 z1_3 = N1 at *
  generalize num z2_0 z2_1 z2_2 z2_3 = N2 at *
  generalize num z3_0 z3_1 z3_2 z3_3 = N3 at *
  generalize num z4_0 z4_1 z4_2 z4_3 = N4 at *
  omega
end Go.Proofs.Yteopljkdbndikaa
