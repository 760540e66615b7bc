/- What a call leaves that writes into one block alone. -/
import Derived.Test.YtfdmgelaiigocaaElem
namespace Go.Proofs.Ytfdmgelaiigocaa
open Go.RowKit Num

/-- Of w nothing but cells of block g has turned. -/
structure Turns (g : Nat) (w w' : World) : Prop where
  cell : ∀ b o, b ≠ g → w'.cell? ⟨b, o, none⟩ = w.cell? ⟨b, o, none⟩
  frozen : ∀ b o, w'.frozen? ⟨b, o, none⟩ = w.frozen? ⟨b, o, none⟩
  below : Below g w w'
  size : w'.heap.size = w.heap.size
theorem Turns.refl (g : Nat) (w : World) : Turns g w w := ⟨fun _ _ _ => rfl, fun _ _ => rfl, Below.refl _ _, rfl⟩
theorem Turns.setAt {g : Nat} {w w' : World} (h : Turns g w w') (o : Nat) (u : Value) : Turns g w (w'.setCell ⟨g, o, none⟩ u) :=
  ⟨fun b o' hb => by rw [World.cell?_setCell_other _ _ _ _ (addr_ne (Or.inl (fun e => hb e.symm)))]; exact h.cell b o' hb, fun b o' => by rw [World.frozen?_setCell]; exact h.frozen b o',
   h.below.setCell (Nat.le_refl _) u, by rw [World.size_setCell]; exact h.size⟩
theorem Turns.drewN {g : Nat} {w w' : World} (h : Turns g w w') (m : Nat) : Turns g w (w'.drewN m) := ⟨h.cell, h.frozen, below_drawn h.below m, h.size⟩
theorem Turns.trans {g : Nat} {w w' w'' : World} (h : Turns g w w') (h' : Turns g w' w'') : Turns g w w'' :=
  ⟨fun b o hb => (h'.cell b o hb).trans (h.cell b o hb), fun b o => (h'.frozen b o).trans (h.frozen b o), h.below.trans h'.below, h'.size.trans h.size⟩

theorem upd_keep {W W' : World} {b o o' : Nat} {u v : Value} (hW : (W.setCell ⟨b, o, none⟩ v).drew = W') (h : W.cell? ⟨b, o', none⟩ = some u) (hne : o ≠ o') : W'.cell? ⟨b, o', none⟩ = some u := by
  subst hW; rw [World.cell?_drew]; exact keep h (Or.inr hne)
theorem upd_hit {W W' : World} {b o : Nat} {u v : Value} (hW : (W.setCell ⟨b, o, none⟩ v).drew = W') (h : W.cell? ⟨b, o, none⟩ = some u) : W'.cell? ⟨b, o, none⟩ = some v := by
  subst hW; rw [World.cell?_drew]; exact hit h
theorem upd_frozen {W W' : World} {b o o' : Nat} {v : Value} {f : Bool} (hW : (W.setCell ⟨b, o, none⟩ v).drew = W') (h : W.frozen? ⟨b, o', none⟩ = f) : W'.frozen? ⟨b, o', none⟩ = f := by
  subst hW; exact (World.frozen?_setCell _ _ _ _).trans h
theorem upd_turns {w W W' : World} {b o : Nat} {v : Value} (hW : (W.setCell ⟨b, o, none⟩ v).drew = W') (h : Turns b w W) : Turns b w W' := by
  subst hW; exact (h.setAt o v).drewN 1
theorem put_keep {W W' : World} {b o o' : Nat} {u v : Value} (hW : W.setCell ⟨b, o, none⟩ v = W') (h : W.cell? ⟨b, o', none⟩ = some u) (hne : o ≠ o') : W'.cell? ⟨b, o', none⟩ = some u := by
  subst hW; exact keep h (Or.inr hne)
theorem put_hit {W W' : World} {b o : Nat} {u v : Value} (hW : W.setCell ⟨b, o, none⟩ v = W') (h : W.cell? ⟨b, o, none⟩ = some u) : W'.cell? ⟨b, o, none⟩ = some v := by
  subst hW; exact hit h
theorem put_frozen {W W' : World} {b o o' : Nat} {v : Value} {f : Bool} (hW : W.setCell ⟨b, o, none⟩ v = W') (h : W.frozen? ⟨b, o', none⟩ = f) : W'.frozen? ⟨b, o', none⟩ = f := by
  subst hW; exact (World.frozen?_setCell _ _ _ _).trans h
theorem put_turns {w W W' : World} {b o : Nat} {v : Value} (hW : W.setCell ⟨b, o, none⟩ v = W') (h : Turns b w W) : Turns b w W' := by
  subst hW; exact h.setAt o v
end Go.Proofs.Ytfdmgelaiigocaa
