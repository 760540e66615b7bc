/- Contracts of a list's sum: the field's loop, its method, the thin package's function. -/
import Derived.Test.YtdocgdodahjooaaVec
namespace Go.Proofs.Ytdocgdodahjooaa
open Go.RowKit Num

theorem own_zero (w : World) (t : TypeId) : Own (w.alloc (.cells #[.int .u64 0, .int .u64 0, .int .u64 0, .int .u64 0] t)) w.heap.size 4 0 := by
  have := own_new w 0 t
  simpa [wd_zero] using this
theorem below_setAt {B : Nat} {W0 w : World} (h : Below B W0 w) (o : Nat) (u : Value) : Below B W0 (w.setCell ⟨B, o, none⟩ u) := h.setCell (Nat.le_refl _) u
theorem Now.setAt {B : Nat} {W0 w : World} (h : Now B W0 w) (o : Nat) (u : Value) : Now B W0 (w.setCell ⟨B, o, none⟩ u) := h.setCell (Nat.le_refl _) u

/-- The sum of the first elements, modulo the prime. -/
def sumP (As : Nat → Nat) : Nat → Nat
  | 0 => 0
  | k + 1 => (sumP As k + As k) % 21888242871839275222246405745257275088548364400416034343698204186575808495617
theorem sumP_lt (As : Nat → Nat) (k : Nat) : sumP As k < 21888242871839275222246405745257275088548364400416034343698204186575808495617 := by
  cases k with
  | zero => show 0 < 21888242871839275222246405745257275088548364400416034343698204186575808495617; decide
  | succ k => exact Nat.mod_lt _ (by decide)

set_option maxRecDepth 100000 in
set_option maxHeartbeats 800000 in
theorem sum_gen (ao : Option Addr) (n c b o bz : Nat) (As : Nat → Nat) (w : World) (hn : n ≤ 2147483647) (hA : ∀ i, i < n → As i < 21888242871839275222246405745257275088548364400416034343698204186575808495617) (hv : VecAt w ao n b o As) (hlt : 0 < n → b < bz) (ho : Own w bz 4 0) :
    Calls Try.prog 43 #[.pointer (some ⟨bz, 0, none⟩), .slice ao n c] w fun e w' => e = .returned (.tuple #[]) ∧ Own w' bz 4 (sumP As n) ∧ Now bz w w' := by
  have HV := shut hv; clear hv
  have HL := shut hlt; clear hlt
  have HA := shut hA; clear hA
  have HO := shut ho; clear ho
  go_enter Try.func43, Try.ntmps43
  go_wp2_with fail
  go_loopw [7] (fun i wr => ∃ k : Nat, k ≤ n ∧ i = .int .i64 (k : Int) ∧ Shut (Own wr bz 4 (sumP As k) ∧ Now bz w wr)) (fun i _ => n - (intOf i).toNat)
  case atStart => exact ⟨0, Nat.zero_le _, rfl, ⟨HO.out, Now.start (Nat.le_of_lt HO.out.2)⟩⟩
  case round =>
    obtain ⟨k, hk, rfl, hw⟩ := hrel
    by_cases hlt : k < n
    · have hd : decide (k < n) = true := by simpa using hlt
      have i1 : (k : Int) < (n : Int) := by omega
      obtain rfl := HV.out.at' (by omega)
      have hc := (HV.out.cells k hlt).now hw.out.2 (HL.out (by omega))
      have hr := hw.out.1.1
      have HS := shut hw.out.1.2
      have c0 : wr.cell? ⟨b, o + k * 4, none⟩ = some (.int .u64 (wd ((As k)) 0 : Nat)) := hc 0 (by decide)
      have z0 : wr.cell? ⟨bz, 0, none⟩ = some (.int .u64 (wd ((sumP As k)) 0 : Nat)) := (hr 0 (by decide)).1
      have f0 : wr.frozen? ⟨bz, 0, none⟩ = false := (hr 0 (by decide)).2
      have c1 : wr.cell? ⟨b, o + k * 4 + 1, none⟩ = some (.int .u64 (wd ((As k)) 1 : Nat)) := hc 1 (by decide)
      have z1 : wr.cell? ⟨bz, 1, none⟩ = some (.int .u64 (wd ((sumP As k)) 1 : Nat)) := (hr 1 (by decide)).1
      have f1 : wr.frozen? ⟨bz, 1, none⟩ = false := (hr 1 (by decide)).2
      have c2 : wr.cell? ⟨b, o + k * 4 + 2, none⟩ = some (.int .u64 (wd ((As k)) 2 : Nat)) := hc 2 (by decide)
      have z2 : wr.cell? ⟨bz, 2, none⟩ = some (.int .u64 (wd ((sumP As k)) 2 : Nat)) := (hr 2 (by decide)).1
      have f2 : wr.frozen? ⟨bz, 2, none⟩ = false := (hr 2 (by decide)).2
      have c3 : wr.cell? ⟨b, o + k * 4 + 3, none⟩ = some (.int .u64 (wd ((As k)) 3 : Nat)) := hc 3 (by decide)
      have z3 : wr.cell? ⟨bz, 3, none⟩ = some (.int .u64 (wd ((sumP As k)) 3 : Nat)) := (hr 3 (by decide)).1
      have f3 : wr.frozen? ⟨bz, 3, none⟩ = false := (hr 3 (by decide)).2
      have hbb : b < bz := HL.out (by omega)
      have C := shut (eadd bz 0 bz 0 b (o + k * 4) (sumP As k) (As k) (sumP As (k + 1)) _ _ _ _ wr rfl (by omega) (by omega) (sumP_lt _ _) (HA.out k hlt) z0 z1 z2 z3 c0 c1 c2 c3 z0 z1 z2 z3 f0 f1 f2 f3)
      have HC := shut (own_stored wr bz (sumP As (k + 1)) _ _ _ _ z0 z1 z2 z3 f0 f1 f2 f3 HS.out)
      clear hc hr hbb c0 z0 f0 c1 z1 f1 c2 z2 f2 c3 z3 f3
      go_wp2_with fail
      refine C.out.mono ?_
      rintro e w' ⟨rfl, m, rfl⟩
      have hN := shut (And.intro (HC.out.drewN m) (Now.drewN (((((hw.out.2).setAt 0 (.int .u64 (wd ((sumP As (k + 1))) 0 : Nat))).setAt 1 (.int .u64 (wd ((sumP As (k + 1))) 1 : Nat))).setAt 2 (.int .u64 (wd ((sumP As (k + 1))) 2 : Nat))).setAt 3 (.int .u64 (wd ((sumP As (k + 1))) 3 : Nat))) m))
      clear C HC
      go_wp2_with fail
      go_roundw
      case rel => exact ⟨k + 1, by omega, by go_num, hN⟩
      case measure => simp [intOf]; omega
    · have hd : decide (k < n) = false := by simpa using hlt
      obtain rfl : k = n := by omega
      go_wp2_with fail
      go_end0
      exact ⟨rfl, hw.out.1, hw.out.2⟩

set_option maxRecDepth 100000 in
set_option maxHeartbeats 800000 in
theorem vsum (ao : Option Addr) (n c b o bv : Nat) (As : Nat → Nat) (w : World) (hn : n ≤ 2147483647) (hA : ∀ i, i < n → As i < 21888242871839275222246405745257275088548364400416034343698204186575808495617) (hv : VecAt w ao n b o As) (hlt : 0 < n → b < w.heap.size)
    (hc : w.cell? ⟨bv, 0, none⟩ = some (.slice ao n c)) (hbv : bv < w.heap.size) :
    Calls Try.prog 35 #[.pointer (some ⟨bv, 0, none⟩)] w (Keeps w (.agg #[.int .u64 (wd ((sumP As n)) 0 : Nat), .int .u64 (wd ((sumP As n)) 1 : Nat), .int .u64 (wd ((sumP As n)) 2 : Nat), .int .u64 (wd ((sumP As n)) 3 : Nat)])) := by
  have C := shut (sum_gen ao n c b o w.heap.size As (w.alloc (.cells #[.int .u64 0, .int .u64 0, .int .u64 0, .int .u64 0] 43)) hn hA (hv.now ((Now.start (Nat.le_refl _)).alloc _) hlt) hlt (own_zero w _))
  clear hv hA
  have hcv := (World.cell?_alloc_past (w := w) (.cells #[.int .u64 0, .int .u64 0, .int .u64 0, .int .u64 0] 43) bv 0 hbv).trans hc
  clear hc hbv
  go_enter Try.func35, Try.ntmps35
  go_wp2_with fail
  refine C.out.mono ?_
  rintro e w' ⟨rfl, ho, hnow⟩
  have hb : Shut (Below w.heap.size w w') := shut (((Below.refl _ _).alloc (Nat.le_refl _) _).trans hnow.below)
  have hr := ho.1
  clear C hnow
  have c0 : w'.cell? ⟨w.heap.size, 0, none⟩ = some (.int .u64 (wd ((sumP As n)) 0 : Nat)) := (hr 0 (by decide)).1
  have c1 : w'.cell? ⟨w.heap.size, 1, none⟩ = some (.int .u64 (wd ((sumP As n)) 1 : Nat)) := (hr 1 (by decide)).1
  have c2 : w'.cell? ⟨w.heap.size, 2, none⟩ = some (.int .u64 (wd ((sumP As n)) 2 : Nat)) := (hr 2 (by decide)).1
  have c3 : w'.cell? ⟨w.heap.size, 3, none⟩ = some (.int .u64 (wd ((sumP As n)) 3 : Nat)) := (hr 3 (by decide)).1
  clear hr ho
  go_wp2_with fail
  refine bodyPost_ret (v := .agg #[.int .u64 (wd ((sumP As n)) 0 : Nat), .int .u64 (wd ((sumP As n)) 1 : Nat), .int .u64 (wd ((sumP As n)) 2 : Nat), .int .u64 (wd ((sumP As n)) 3 : Nat)]) ?_ rfl ?_
  · simp [results, Try.results35, go_sem, *]
  · exact ⟨rfl, hb.out⟩

set_option maxRecDepth 100000 in
set_option maxHeartbeats 800000 in
theorem impl_vecsum (ao : Option Addr) (n c b o : Nat) (As : Nat → Nat) (w : World) (hn : n ≤ 2147483647) (hA : ∀ i, i < n → As i < 21888242871839275222246405745257275088548364400416034343698204186575808495617) (hv : VecAt w ao n b o As) (hlt : 0 < n → b < w.heap.size) :
    Calls Try.prog 23 #[.slice ao n c] w (Keeps w (.agg #[.int .u64 (wd ((sumP As n)) 0 : Nat), .int .u64 (wd ((sumP As n)) 1 : Nat), .int .u64 (wd ((sumP As n)) 2 : Nat), .int .u64 (wd ((sumP As n)) 3 : Nat)])) := by
  have HA := shut hA; clear hA
  have C := shut (made_any ao n c b o As (w.alloc (.cells #[.int .u64 0, .int .u64 0, .int .u64 0, .int .u64 0] 23)) hn (hv.now ((Now.start (Nat.le_refl _)).alloc _) hlt) (fun h => by have := hlt h; simp; omega))
  clear hv
  go_enter Try.func23, Try.ntmps23
  go_wp2_with fail
  refine C.out.mono ?_
  rintro e w1 ⟨v, rfl, hown, hb⟩
  clear C
  obtain ⟨ao1, c1, g, rfl, hv1, hg⟩ := ownsRow_vec hown
  have C2 := shut (vsum ao1 n c1 g 0 w1.heap.size As (w1.alloc (.cells #[.slice ao1 n c1] 52)) hn HA.out (hv1.now ((Now.start (Nat.le_refl _)).alloc _) (fun h => (hg h).2)) (fun h => by have := (hg h).2; simp; omega) (by rw [World.cell?_alloc_new]; rfl) (by simp))
  clear hv1 hg
  go_wp2_with fail
  refine C2.out.mono ?_
  rintro e w' ⟨rfl, hb2⟩
  have hb' : Shut (Below w.heap.size w w') := shut (((Below.refl _ _).alloc (Nat.le_refl _) _).trans ((hb.mono (by simp)).trans ((((Below.refl _ _).alloc (Nat.le_refl _) _).trans (hb2.mono (by simp))).mono (by have := hb.size; simp at this; omega))))
  have hs : w.heap.size < w'.heap.size := by have h1 := hb.size; have h2 := hb2.size; simp at h1 h2; omega
  have ho := (((own_zero w 23).below hb (by simp)).below ((Below.refl w1.heap.size w1).alloc (Nat.le_refl _) _) (by have := hb.size; simp at this; omega)).below hb2 (by have := hb.size; simp at this ⊢; omega)
  have hr := ho.1
  clear C2 hb hb2 hown ho
  have z0 : w'.cell? ⟨w.heap.size, 0, none⟩ = some (.int .u64 0) := by have := (hr 0 (by decide)).1; simp only [wd_zero] at this; exact this
  have f0 : w'.frozen? ⟨w.heap.size, 0, none⟩ = false := (hr 0 (by decide)).2
  have z1 : w'.cell? ⟨w.heap.size, 1, none⟩ = some (.int .u64 0) := by have := (hr 1 (by decide)).1; simp only [wd_zero] at this; exact this
  have f1 : w'.frozen? ⟨w.heap.size, 1, none⟩ = false := (hr 1 (by decide)).2
  have z2 : w'.cell? ⟨w.heap.size, 2, none⟩ = some (.int .u64 0) := by have := (hr 2 (by decide)).1; simp only [wd_zero] at this; exact this
  have f2 : w'.frozen? ⟨w.heap.size, 2, none⟩ = false := (hr 2 (by decide)).2
  have z3 : w'.cell? ⟨w.heap.size, 3, none⟩ = some (.int .u64 0) := by have := (hr 3 (by decide)).1; simp only [wd_zero] at this; exact this
  have f3 : w'.frozen? ⟨w.heap.size, 3, none⟩ = false := (hr 3 (by decide)).2
  clear hr
  go_wp2_with fail
  refine bodyPost_ret (v := .agg #[.int .u64 (wd ((sumP As n)) 0 : Nat), .int .u64 (wd ((sumP As n)) 1 : Nat), .int .u64 (wd ((sumP As n)) 2 : Nat), .int .u64 (wd ((sumP As n)) 3 : Nat)]) ?_ rfl ?_
  · simp [results, Try.results23, go_sem, *]
  · refine ⟨rfl, ?_⟩
    repeat (with_reducible refine below_setAt ?_ _ _)
    exact hb'.out

end Go.Proofs.Ytdocgdodahjooaa
