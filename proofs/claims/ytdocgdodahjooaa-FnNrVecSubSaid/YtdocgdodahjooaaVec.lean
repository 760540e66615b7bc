/- Lists of elements: their words in memory; the reference's test; the thin package's copies. -/
import Derived.Test.YtdocgdodahjooaaImpl
import Derived.Deep.DeepCutAuto
import Derived.Deep.RegionWith
import Derived.Laws.OwnMore
namespace Go.Proofs.Ytdocgdodahjooaa
open Go.RowKit Num

/-- A list of n elements at an address: the words of As 0, As 1, .. -/
structure VecAt (w : World) (ao : Option Addr) (n b o : Nat) (As : Nat → Nat) : Prop where
  at' : 0 < n → ao = some ⟨b, o, none⟩
  cells : ∀ i, i < n → Cells w b (o + i * 4) 4 (As i)

theorem VecAt.now {w w' : World} {ao : Option Addr} {n b o B : Nat} {As : Nat → Nat} (h : VecAt w ao n b o As) (hb : Now B w w') (hlt : 0 < n → b < B) : VecAt w' ao n b o As :=
  ⟨h.at', fun i hi => (h.cells i hi).now hb (hlt (by omega))⟩

/-- All elements are below the prime. -/
def allB (n : Nat) (As : Nat → Nat) : Bool := decide (∀ i, i < n → As i < 21888242871839275222246405745257275088548364400416034343698204186575808495617)

set_option maxRecDepth 100000 in
set_option maxHeartbeats 800000 in
theorem all_any (ao : Option Addr) (n c b o : Nat) (As : Nat → Nat) (w : World) (hn : n ≤ 2147483647) (hA : ∀ i, i < n → As i < 115792089237316195423570985008687907853269984665640564039457584007913129639936) (hv : VecAt w ao n b o As) (hlt : 0 < n → b < w.heap.size) :
    Calls Try.prog 22 #[.slice ao n c] w (Keeps w (.bool (allB n As))) := by
  have HV := shut hv; clear hv
  have HA := shut hA; clear hA
  have HL := shut hlt; clear hlt
  go_enter Try.func22, Try.ntmps22
  go_wp2
  go_loopw [3] (fun i wr => ∃ k : Nat, k ≤ n ∧ i = .int .i64 (k : Int) ∧ Shut (∀ j, j < k → As j < 21888242871839275222246405745257275088548364400416034343698204186575808495617) ∧ Shut (Now w.heap.size w wr)) (fun i _ => n - (intOf i).toNat)
  case atStart => exact ⟨0, Nat.zero_le _, rfl, ⟨fun j hj => by omega⟩, ⟨Now.start (Nat.le_refl _)⟩⟩
  case round =>
    obtain ⟨k, hk, rfl, hh, hw⟩ := hrel
    by_cases hlt : k < n
    · have hd : decide (k < n) = true := by simpa using hlt
      have i1 : (k : Int) < (n : Int) := by omega
      obtain rfl := HV.out.at' (by omega)
      go_wp2_with fail
      by_cases hx : As k < 21888242871839275222246405745257275088548364400416034343698204186575808495617
      · have ex : decide (As k < 21888242871839275222246405745257275088548364400416034343698204186575808495617) = true := by simpa using hx
        have HX := shut hx
        clear hx
        first | (go_region_with (first | (go_at_call 11; have _t := g1; refine (less_any b (o + k * 4) 4 b1 0 4 4 (As k) 21888242871839275222246405745257275088548364400416034343698204186575808495617 w1 (by decide) (HA.out k hlt) (by decide) ((HV.out.cells k hlt).now g1.out.2 (HL.out (by omega))) g1.out.1.cells).mono ?_; rintro e w' ⟨rfl, m, rfl⟩; clear _t) | (go_at_call 12; refine (prime_any _).mono ?_; rintro e w1 ⟨b1, rfl, hb1, ho1, hl1⟩; have g1 := shut (And.intro ho1 (hw.out.drew.call hl1)); clear hb1 ho1 hl1))) | fail
        all_goals
          go_wp2_with fail
          go_roundw
          case rel => exact ⟨k + 1, by omega, by go_num, ⟨fun j hj => by
            by_cases e : j = k
            · rw [e]; exact HX.out
            · exact hh.out j (by omega)⟩, ⟨g1.out.2.drewN m⟩⟩
          case measure => simp [intOf]; omega
      · have ex : decide (As k < 21888242871839275222246405745257275088548364400416034343698204186575808495617) = false := by simpa using hx
        have HX := shut hx
        clear hx
        first | (go_region_with (first | (go_at_call 11; have _t := g1; refine (less_any b (o + k * 4) 4 b1 0 4 4 (As k) 21888242871839275222246405745257275088548364400416034343698204186575808495617 w1 (by decide) (HA.out k hlt) (by decide) ((HV.out.cells k hlt).now g1.out.2 (HL.out (by omega))) g1.out.1.cells).mono ?_; rintro e w' ⟨rfl, m, rfl⟩; clear _t) | (go_at_call 12; refine (prime_any _).mono ?_; rintro e w1 ⟨b1, rfl, hb1, ho1, hl1⟩; have g1 := shut (And.intro ho1 (hw.out.drew.call hl1)); clear hb1 ho1 hl1))) | fail
        all_goals
          go_wp2_with fail
          go_ret
          exact (g1.out.2.drewN m).keeps (Below.refl _ _) (Nat.le_refl _) (by
            rw [show allB n As = false from by
              unfold allB
              exact decide_eq_false fun h => HX.out (h k hlt)]; rfl)
    · have hd : decide (k < n) = false := by simpa using hlt
      go_wp2
      go_ret
      exact hw.out.keeps (Below.refl _ _) (Nat.le_refl _) (by
        rw [show allB n As = true from by
          unfold allB
          exact decide_eq_true fun i hi => hh.out i (by omega)]; rfl)

/-- The words of n elements, one behind the other. -/
def flat (As : Nat → Nat) : Nat → List Value
  | 0 => []
  | k + 1 => flat As k ++ [.int .u64 (wd (As k) 0 : Nat), .int .u64 (wd (As k) 1 : Nat), .int .u64 (wd (As k) 2 : Nat), .int .u64 (wd (As k) 3 : Nat)]
theorem flat_length (As : Nat → Nat) (n : Nat) : (flat As n).length = n * 4 := by
  induction n with
  | zero => rfl
  | succ n ih => simp [flat, ih]; omega
theorem flat_get (As : Nat → Nat) {n i j : Nat} (hi : i < n) (hj : j < 4) : (flat As n)[i * 4 + j]? = some (.int .u64 (wd (As i) j : Nat)) := by
  induction n with
  | zero => omega
  | succ n ih =>
    simp only [flat]
    by_cases e : i = n
    · subst e
      rw [List.getElem?_append_right (by rw [flat_length]; omega), flat_length, Nat.add_sub_cancel_left]
      match j, hj with
      | 0, _ => rfl
      | 1, _ => rfl
      | 2, _ => rfl
      | 3, _ => rfl
    · rw [List.getElem?_append_left (by rw [flat_length]; omega)]
      exact ih (by omega)

theorem addr_add (b j : Nat) : (⟨b, 0, none⟩ : Addr).add j = ⟨b, j, none⟩ := by unfold Addr.add; split <;> simp_all
/-- What a call leaves that hands back a new list of n elements. -/
def GivesV (w : World) (E n : Nat) (As : Nat → Nat) (e : Ending) (w' : World) : Prop :=
  ∃ v, e = .returned v ∧ w'.ownsRow w.heap.size E 4 v n (flat As n) ∧ Below w.heap.size w w'

theorem ownsRow_vec {w : World} {base E n : Nat} {v : Value} {As : Nat → Nat} (h : w.ownsRow base E 4 v n (flat As n)) : ∃ ao c g, v = .slice ao n c ∧ VecAt w ao n g 0 As ∧ (0 < n → base ≤ g ∧ g < w.heap.size) := by
  have h0 := h
  obtain ⟨-, ⟨rfl, rfl⟩ | ⟨g, cap, cur, rfl, -⟩⟩ := h
  · exact ⟨none, 0, 0, rfl, ⟨fun h => by omega, fun i hi => by omega⟩, fun h => by omega⟩
  · refine ⟨some ⟨g, 0, none⟩, cap, g, rfl, ⟨fun _ => rfl, fun i hi j hj => ?_⟩, fun _ => h0.lt g rfl⟩
    have := h0.cells (g := g) rfl (i * 4 + j) _ (flat_get As hi hj)
    rw [addr_add] at this
    rw [Nat.zero_add]
    exact this

theorem info_arr : (Try.prog.info? 23).map (fun i => (i.zero, i.size, i.bytes)) = some (some (.agg #[.int .u64 0, .int .u64 0, .int .u64 0, .int .u64 0]), 4, 32) := by kernel_rfl
theorem info_elem : (Try.prog.info? 43).map (fun i => (i.zero, i.size, i.bytes)) = some (some (.agg #[.int .u64 0, .int .u64 0, .int .u64 0, .int .u64 0]), 4, 32) := by kernel_rfl

theorem cell_two (w : World) (o : Obj) (vs : Array Value) (t : TypeId) (j : Nat) : ((w.alloc o).alloc (.cells vs t)).cell? ((⟨w.heap.size + 1, 0, none⟩ : Addr).add j) = vs[j]? := by
  have e : w.heap.size + 1 = (w.alloc o).heap.size := by simp
  rw [e, addr_add, World.cell?_alloc_new]

set_option maxRecDepth 100000 in
set_option maxHeartbeats 800000 in
theorem made_any (ao : Option Addr) (n c b o : Nat) (As : Nat → Nat) (w : World) (hn : n ≤ 2147483647) (hv : VecAt w ao n b o As) (hlt : 0 < n → b < w.heap.size) :
    Calls Try.prog 34 #[.slice ao n c] w (GivesV w 43 n As) := by
  have HV := shut hv; clear hv
  have HL := shut hlt; clear hlt
  obtain ⟨i0, hi, hz0, hz1, hz2⟩ := info_parts info_elem
  go_enter Try.func34, Try.ntmps34
  go_wp2
  go_loopw [3, 8] (fun v i wr => ∃ k : Nat, k ≤ n ∧ i = .int .i64 (k : Int) ∧ wr.ownsRow w.heap.size 43 4 v k (flat As k) ∧ Shut (Now w.heap.size w wr)) (fun _ i _ => n - (intOf i).toNat)
  case atStart => exact ⟨0, Nat.zero_le _, rfl, World.ownsRow_nil _ _ _ _, ⟨Now.start (Nat.le_refl _)⟩⟩
  case round =>
    obtain ⟨k, hk, rfl, hown, hw⟩ := hrel
    by_cases hlt : k < n
    · have hd : decide (k < n) = true := by simpa using hlt
      have i1 : (k : Int) < (n : Int) := by omega
      obtain rfl := HV.out.at' (by omega)
      have hc := ((HV.out.cells k hlt).now hw.out (HL.out (by omega)))
      have c0 : wr.cell? ⟨b, o + k * 4, none⟩ = some (.int .u64 (wd ((As k)) 0 : Nat)) := hc 0 (by decide)
      have c1 : wr.cell? ⟨b, o + k * 4 + 1, none⟩ = some (.int .u64 (wd ((As k)) 1 : Nat)) := hc 1 (by decide)
      have c2 : wr.cell? ⟨b, o + k * 4 + 2, none⟩ = some (.int .u64 (wd ((As k)) 2 : Nat)) := hc 2 (by decide)
      have c3 : wr.cell? ⟨b, o + k * 4 + 3, none⟩ = some (.int .u64 (wd ((As k)) 3 : Nat)) := hc 3 (by decide)
      clear hc
      have HO := shut hown
      clear hown
      go_wp2_with (at_builtin; refine wpList_append_own _ rfl _ _ 51 rfl w.heap.size 43 i0 _ 4 32 Try.underlying51 hi hz0 hz1 hz2 rfl (by decide) _ _ _ rfl ((HO.out.alloc _).alloc _) ⟨wr.heap.size + 1, 0, none⟩ 1 1 [.int .u64 (wd (As k) 0 : Nat), .int .u64 (wd (As k) 1 : Nat), .int .u64 (wd (As k) 2 : Nat), .int .u64 (wd (As k) 3 : Nat)] rfl rfl ?c1 ?c2 ?c3 ?c4 ?c5 ?_)
      case c1 =>
        intro j u hj
        rw [cell_two]
        match j, hj with
        | 0, hj => exact hj
        | 1, hj => exact hj
        | 2, hj => exact hj
        | 3, hj => exact hj
      case c2 => intro u hu; simp at hu; rcases hu with rfl | rfl | rfl | rfl <;> rfl
      case c3 => unfold maxLen; omega
      case c4 => omega
      case c5 => have := hw.out.size; simp; omega
      · intro v' w1 hown' hgrow _
        have hN : Shut (Now w.heap.size w w1) := shut ⟨((hw.out.alloc _).alloc _).below.grown hgrow ((hw.out.alloc _).alloc _).size (fun x hx => (HO.out.lt x hx).1), Nat.le_trans ((hw.out.alloc _).alloc _).size hgrow.size⟩
        have HG := shut hown'
        clear hown' hgrow
        go_wp2_with fail
        go_roundw
        case rel => exact ⟨k + 1, by omega, by go_num, HG.out, hN⟩
        case measure => simp [intOf]; omega
    · have hd : decide (k < n) = false := by simpa using hlt
      obtain rfl : k = n := by omega
      have HO := shut hown
      clear hown
      go_wp2_with fail
      go_ret
      exact ⟨_, rfl, HO.out, hw.out.below⟩

set_option maxRecDepth 100000 in
set_option maxHeartbeats 800000 in
theorem told_any (ao : Option Addr) (n c b o : Nat) (As : Nat → Nat) (w : World) (hn : n ≤ 2147483647) (hv : VecAt w ao n b o As) (hlt : 0 < n → b < w.heap.size) :
    Calls Try.prog 38 #[.slice ao n c] w (GivesV w 23 n As) := by
  have HV := shut hv; clear hv
  have HL := shut hlt; clear hlt
  obtain ⟨i0, hi, hz0, hz1, hz2⟩ := info_parts info_arr
  go_enter Try.func38, Try.ntmps38
  go_wp2
  go_loopw [3, 8] (fun v i wr => ∃ k : Nat, k ≤ n ∧ i = .int .i64 (k : Int) ∧ wr.ownsRow w.heap.size 23 4 v k (flat As k) ∧ Shut (Now w.heap.size w wr)) (fun _ i _ => n - (intOf i).toNat)
  case atStart => exact ⟨0, Nat.zero_le _, rfl, World.ownsRow_nil _ _ _ _, ⟨Now.start (Nat.le_refl _)⟩⟩
  case round =>
    obtain ⟨k, hk, rfl, hown, hw⟩ := hrel
    by_cases hlt : k < n
    · have hd : decide (k < n) = true := by simpa using hlt
      have i1 : (k : Int) < (n : Int) := by omega
      obtain rfl := HV.out.at' (by omega)
      have hc := ((HV.out.cells k hlt).now hw.out (HL.out (by omega)))
      have c0 : wr.cell? ⟨b, o + k * 4, none⟩ = some (.int .u64 (wd ((As k)) 0 : Nat)) := hc 0 (by decide)
      have c1 : wr.cell? ⟨b, o + k * 4 + 1, none⟩ = some (.int .u64 (wd ((As k)) 1 : Nat)) := hc 1 (by decide)
      have c2 : wr.cell? ⟨b, o + k * 4 + 2, none⟩ = some (.int .u64 (wd ((As k)) 2 : Nat)) := hc 2 (by decide)
      have c3 : wr.cell? ⟨b, o + k * 4 + 3, none⟩ = some (.int .u64 (wd ((As k)) 3 : Nat)) := hc 3 (by decide)
      clear hc
      have HO := shut hown
      clear hown
      go_wp2_with (at_builtin; refine wpList_append_own _ rfl _ _ 37 rfl w.heap.size 23 i0 _ 4 32 Try.underlying37 hi hz0 hz1 hz2 rfl (by decide) _ _ _ rfl ((HO.out.alloc _).alloc _) ⟨wr.heap.size + 1, 0, none⟩ 1 1 [.int .u64 (wd (As k) 0 : Nat), .int .u64 (wd (As k) 1 : Nat), .int .u64 (wd (As k) 2 : Nat), .int .u64 (wd (As k) 3 : Nat)] rfl rfl ?c1 ?c2 ?c3 ?c4 ?c5 ?_)
      case c1 =>
        intro j u hj
        rw [cell_two]
        match j, hj with
        | 0, hj => exact hj
        | 1, hj => exact hj
        | 2, hj => exact hj
        | 3, hj => exact hj
      case c2 => intro u hu; simp at hu; rcases hu with rfl | rfl | rfl | rfl <;> rfl
      case c3 => unfold maxLen; omega
      case c4 => omega
      case c5 => have := hw.out.size; simp; omega
      · intro v' w1 hown' hgrow _
        have hN : Shut (Now w.heap.size w w1) := shut ⟨((hw.out.alloc _).alloc _).below.grown hgrow ((hw.out.alloc _).alloc _).size (fun x hx => (HO.out.lt x hx).1), Nat.le_trans ((hw.out.alloc _).alloc _).size hgrow.size⟩
        have HG := shut hown'
        clear hown' hgrow
        go_wp2_with fail
        go_roundw
        case rel => exact ⟨k + 1, by omega, by go_num, HG.out, hN⟩
        case measure => simp [intOf]; omega
    · have hd : decide (k < n) = false := by simpa using hlt
      obtain rfl : k = n := by omega
      have HO := shut hown
      clear hown
      go_wp2_with fail
      go_ret
      exact ⟨_, rfl, HO.out, hw.out.below⟩

end Go.Proofs.Ytdocgdodahjooaa
