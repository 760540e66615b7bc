/- The law on a list's sum: its walk. -/
import Derived.Test.YtdocgdodahjooaaVecSum
import Derived.Test.YtdocgdodahjooaaEqArr
namespace Go.Proofs.Ytdocgdodahjooaa
open Go.RowKit Num

theorem setone (b o : Nat) (z0 z1 z2 z3 : Int) (w : World) (hz0 : w.cell? ⟨b, o, none⟩ = some (.int .u64 z0)) (hz1 : w.cell? ⟨b, o + 1, none⟩ = some (.int .u64 z1)) (hz2 : w.cell? ⟨b, o + 2, none⟩ = some (.int .u64 z2)) (hz3 : w.cell? ⟨b, o + 3, none⟩ = some (.int .u64 z3)) (fz0 : w.frozen? ⟨b, o, none⟩ = false) (fz1 : w.frozen? ⟨b, o + 1, none⟩ = false) (fz2 : w.frozen? ⟨b, o + 2, none⟩ = false) (fz3 : w.frozen? ⟨b, o + 3, none⟩ = false) :
    Calls Try.prog 44 #[.pointer (some ⟨b, o, none⟩)] w fun e w' => e = .returned (.pointer (some ⟨b, o, none⟩)) ∧ w' = ((((w.setCell ⟨b, o, none⟩ (.int .u64 12436184717236109307)).setCell ⟨b, o + 1, none⟩ (.int .u64 3962172157175319849)).setCell ⟨b, o + 2, none⟩ (.int .u64 7381016538464732718)).setCell ⟨b, o + 3, none⟩ (.int .u64 1011752739694698287)) := by
  have c0 : w.cell? ⟨b, o, none⟩ = some (.int .u64 z0) := hz0
  have c1 : (w.setCell ⟨b, o, none⟩ (.int .u64 12436184717236109307)).cell? ⟨b, o + 1, none⟩ = some (.int .u64 z1) := keep (hz1) (by omega)
  have c2 : ((w.setCell ⟨b, o, none⟩ (.int .u64 12436184717236109307)).setCell ⟨b, o + 1, none⟩ (.int .u64 3962172157175319849)).cell? ⟨b, o + 2, none⟩ = some (.int .u64 z2) := keep (keep (hz2) (by omega)) (by omega)
  have c3 : (((w.setCell ⟨b, o, none⟩ (.int .u64 12436184717236109307)).setCell ⟨b, o + 1, none⟩ (.int .u64 3962172157175319849)).setCell ⟨b, o + 2, none⟩ (.int .u64 7381016538464732718)).cell? ⟨b, o + 3, none⟩ = some (.int .u64 z3) := keep (keep (keep (hz3) (by omega)) (by omega)) (by omega)
  go_enter Try.func44, Try.ntmps44
  go_wp2_with fail
  go_ret
  exact ⟨rfl, rfl⟩
theorem f_one (w : World) : Calls Try.prog 36 #[] w (Keeps w (.agg #[.int .u64 12436184717236109307, .int .u64 3962172157175319849, .int .u64 7381016538464732718, .int .u64 1011752739694698287])) := by
  go_enter Try.func36, Try.ntmps36
  go_wp2_with fail
  refine (setone _ _ 0 0 0 0 _ (by simp [go_sem]) (by simp [go_sem]) (by simp [go_sem]) (by simp [go_sem]) (by simp [go_sem]) (by simp [go_sem]) (by simp [go_sem]) (by simp [go_sem])).mono ?_
  rintro e w' ⟨rfl, rfl⟩
  go_wp2_with fail
  refine bodyPost_ret (v := .agg #[.int .u64 12436184717236109307, .int .u64 3962172157175319849, .int .u64 7381016538464732718, .int .u64 1011752739694698287]) ?_ rfl ?_
  · simp [results, Try.results36, go_sem]
  · refine And.intro rfl ?_
    repeat (first | with_reducible exact Below.refl _ _ | with_reducible refine below_drawn ?_ _ | with_reducible refine Below.drew ?_ | with_reducible refine Below.setCell ?_ (by simp <;> omega) _ | with_reducible refine Below.alloc ?_ (by simp <;> omega) _)

theorem impl_one (w : World) : Calls Try.prog 24 #[] w (Keeps w (.agg #[.int .u64 12436184717236109307, .int .u64 3962172157175319849, .int .u64 7381016538464732718, .int .u64 1011752739694698287])) := by
  have ho := (own_zero w 23).1
  go_enter Try.func24, Try.ntmps24
  go_wp2_with fail
  refine (f_one _).mono ?_
  rintro e w' ⟨rfl, hb⟩
  have hc := cell_call hb
  have hf := frozen_call hb
  have hs : w.heap.size < w'.heap.size := by have := hb.size; simp at this; omega
  have z0 : w'.cell? ⟨w.heap.size, 0, none⟩ = some (.int .u64 0) := by rw [hc _ _ (by simp)]; have := (ho 0 (by decide)).1; simp only [wd_zero] at this; exact this
  have f0 : w'.frozen? ⟨w.heap.size, 0, none⟩ = false := by rw [hf _ _ (by simp)]; exact (ho 0 (by decide)).2
  have z1 : w'.cell? ⟨w.heap.size, 1, none⟩ = some (.int .u64 0) := by rw [hc _ _ (by simp)]; have := (ho 1 (by decide)).1; simp only [wd_zero] at this; exact this
  have f1 : w'.frozen? ⟨w.heap.size, 1, none⟩ = false := by rw [hf _ _ (by simp)]; exact (ho 1 (by decide)).2
  have z2 : w'.cell? ⟨w.heap.size, 2, none⟩ = some (.int .u64 0) := by rw [hc _ _ (by simp)]; have := (ho 2 (by decide)).1; simp only [wd_zero] at this; exact this
  have f2 : w'.frozen? ⟨w.heap.size, 2, none⟩ = false := by rw [hf _ _ (by simp)]; exact (ho 2 (by decide)).2
  have z3 : w'.cell? ⟨w.heap.size, 3, none⟩ = some (.int .u64 0) := by rw [hc _ _ (by simp)]; have := (ho 3 (by decide)).1; simp only [wd_zero] at this; exact this
  have f3 : w'.frozen? ⟨w.heap.size, 3, none⟩ = false := by rw [hf _ _ (by simp)]; exact (ho 3 (by decide)).2
  have HB := shut hb
  clear ho hc hf hb
  go_wp2_with fail
  refine bodyPost_ret (v := .agg #[.int .u64 12436184717236109307, .int .u64 3962172157175319849, .int .u64 7381016538464732718, .int .u64 1011752739694698287]) ?_ rfl ?_
  · simp [results, Try.results24, go_sem, *]
  · refine And.intro rfl ?_
    repeat (with_reducible refine below_setAt ?_ _ _)
    exact ((Below.refl _ _).alloc (Nat.le_refl _) _).trans (HB.out.mono (by simp))

set_option maxRecDepth 100000 in
set_option maxHeartbeats 1600000 in
theorem law_vecSum (ao : Option Addr) (n c b o : Nat) (As : Nat → Nat) (w : World) (hA : ∀ i, i < n → As i < 115792089237316195423570985008687907853269984665640564039457584007913129639936) (hv : VecAt w ao n b o As) (hlt : 0 < n → b < w.heap.size) :
    Calls Try.prog 9 #[.slice ao n c] w (Keeps w (.bool true)) := by
  have HV := shut hv; clear hv
  have HA := shut hA; clear hA
  have HL := shut hlt; clear hlt
  by_cases hn : n ≤ 2147483647
  case neg =>
    have h1 : (2147483647 : Int) < (n : Int) := by omega
    go_enter Try.func9, Try.ntmps9
    go_wp2_with fail
    go_ret
    exact ⟨rfl, Below.refl _ _⟩
  have h1 : ¬ (2147483647 : Int) < (n : Int) := by omega
  have C := shut (all_any ao n c b o As w hn HA.out HV.out HL.out)
  cases hall : allB n As with
  | false =>
    rw [hall] at C
    clear hall
    go_enter Try.func9, Try.ntmps9
    go_wp2_with fail
    refine C.out.mono ?_
    rintro e w' ⟨rfl, hb⟩
    have HB := shut hb; clear hb C
    go_wp2_with fail
    go_ret
    exact ⟨rfl, HB.out⟩
  | true =>
    rw [hall] at C
    have HP : Shut (∀ i, i < n → As i < 21888242871839275222246405745257275088548364400416034343698204186575808495617) := shut (by unfold allB at hall; exact of_decide_eq_true hall)
    clear hall
    have hmk : ∀ w : World, (Instr.makeSlice 25 (.int .i64 4) (.int .i64 4)).run Try.prog w = .ok (.slice (some ⟨w.heap.size, 0, none⟩) 4 4) (w.alloc (.cells #[.int .u64 0, .int .u64 0, .int .u64 0, .int .u64 0] 22)) := fun _ => by kernel_rfl
    go_enter Try.func9, Try.ntmps9
    go_wp2_with fail
    refine C.out.mono ?_
    rintro e w' ⟨rfl, hb⟩
    have HB := shut hb; clear hb C
    go_wp2_with fail
    go_loopw [3, 4] (fun v i wr => ∃ k : Nat, k ≤ n ∧ i = .int .i64 (k : Int) ∧ ∃ bk, v = .slice (some ⟨bk, 0, none⟩) 4 4 ∧ Shut (Own wr bk 4 (sumP As k) ∧ Now w.heap.size w wr)) (fun _ i _ => n - (intOf i).toNat)
    case atStart => exact ⟨0, Nat.zero_le _, rfl, _, rfl, ⟨(by
      have := own_zero w' 22
      exact this), (Now.mk HB.out HB.out.size).alloc _⟩⟩
    case round =>
      obtain ⟨k, hk, rfl, bk, rfl, hw⟩ := hrel
      by_cases hlt : k < n
      · have hd : decide (k < n) = true := by simpa using hlt
        have i1 : (k : Int) < (n : Int) := by omega
        obtain rfl := HV.out.at' (by omega)
        go_wp2_with fail
        first | (go_region_with (first | (go_at_call 18; have _t := g1; refine (add_any bk 0 4 b (o + k * 4) 4 b1 0 4 4 (sumP As k) (As k) 21888242871839275222246405745257275088548364400416034343698204186575808495617 w1 (by decide) (by decide) (sumP_lt _ _) (HP.out k hlt) g1.out.2.2.cells ((HV.out.cells k hlt).now g1.out.2.1 (HL.out (by omega))) g1.out.1.cells g1.out.2.2.2 (Nat.lt_of_lt_of_le (HL.out (by omega)) g1.out.2.1.size) g1.out.1.2).mono ?_; rintro e w2 ⟨b2, rfl, hb2, ho2, hl2⟩; have g2 := shut (And.intro ho2 (g1.out.2.1.call hl2)); clear hb2 ho2 hl2 _t) | (go_at_call 12; refine (prime_any _).mono ?_; rintro e w1 ⟨b1, rfl, hb1, ho1, hl1⟩; have g1 := shut (And.intro ho1 (And.intro (hw.out.2.drew.call hl1) (hw.out.1.drew.below hl1 hw.out.1.2))); clear hb1 ho1 hl1))) | fail
        all_goals
          go_wp2_with fail
          go_roundw
          case rel => exact ⟨k + 1, by omega, by go_num, _, rfl, g2⟩
          case measure => simp [intOf]; omega
      · have hd : decide (k < n) = false := by simpa using hlt
        obtain rfl : k = n := by omega
        have C2 := shut (impl_vecsum ao k c b o As wr hn HP.out (HV.out.now hw.out.2 HL.out) (fun h => Nat.lt_of_lt_of_le (HL.out h) hw.out.2.size))
        go_wp2_with fail
        refine C2.out.mono ?_
        rintro e w2 ⟨rfl, hb2⟩
        have G := shut (And.intro (own_new w2 (sumP As k) 23) (And.intro (hw.out.1.below hb2 hw.out.1.2) ((hw.out.2.call hb2).alloc (.cells #[(.int .u64 (wd ((sumP As k)) 0 : Nat)), (.int .u64 (wd ((sumP As k)) 1 : Nat)), (.int .u64 (wd ((sumP As k)) 2 : Nat)), (.int .u64 (wd ((sumP As k)) 3 : Nat))] 23))))
        have C3 := shut (same_any w2.heap.size 0 4 bk 0 4 4 (sumP As k) (sumP As k) (w2.alloc (.cells #[(.int .u64 (wd ((sumP As k)) 0 : Nat)), (.int .u64 (wd ((sumP As k)) 1 : Nat)), (.int .u64 (wd ((sumP As k)) 2 : Nat)), (.int .u64 (wd ((sumP As k)) 3 : Nat))] 23)) (by decide) (Nat.lt_trans (sumP_lt _ _) (by decide)) (Nat.lt_trans (sumP_lt _ _) (by decide)) G.out.1.cells (G.out.2.1.cells.below ((Below.refl _ _).alloc (Nat.le_refl _) _) G.out.2.1.2))
        clear C2 hb2
        have hne := ne_arr
        go_wp2_with fail
        refine C3.out.mono ?_
        rintro e w3 ⟨rfl, m, rfl⟩
        have hs : decide (sumP As k = sumP As k) = true := by simp
        clear C3
        go_wp2_with fail
        refine (impl_one _).mono ?_
        rintro e w4 ⟨rfl, hb4⟩
        have HB4 := shut hb4; clear hb4
        go_wp2_with fail
        go_ret
        exact ((G.out.2.2.drewN m).call HB4.out).keeps (Below.refl _ _) (Nat.le_refl _) rfl

end Go.Proofs.Ytdocgdodahjooaa
