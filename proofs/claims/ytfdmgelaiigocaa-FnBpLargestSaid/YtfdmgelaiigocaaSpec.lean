/- Contracts of the reference's functions on words: comparison, equality, sum and difference with a carry, sum modulo a number. -/
import Derived.Test.YtfdmgelaiigocaaRows
import Derived.Test.YtfdmgelaiigocaaMem
import Derived.WalkKit
import Derived.WalkSpells
import Derived.WalkLawsBesides
import Derived.Deep.QuietTactic
import Derived.BigQuiet
namespace Go.Proofs.Ytfdmgelaiigocaa
open Go.RowKit Num

theorem hmake (n : Nat) (hn : n ≤ 64) (w : World) : (Instr.makeSlice 25 (.int .i64 n) (.int .i64 n)).run Try.prog w =
    .ok (.slice (some ⟨w.heap.size, 0, none⟩) n n) (w.alloc (.cells (madeCells #[.int .u64 0] n) 22)) := by
  obtain ⟨i, hi, hz, h1, h2⟩ := info_parts (show (Try.prog.info? 22).map (fun i => (i.zero, i.size, i.bytes)) = some (some (.int .u64 0), 1, 8) from by kernel_rfl)
  have := run_make (P := Try.prog) w 25 22 i (.int .u64 0) (by kernel_rfl) hi hz .i64 .i64 n n (by omega) (by omega) (by rw [h2]; omega) (by omega)
  rw [h1] at this
  simpa [Value.cells] using this

set_option maxHeartbeats 400000 in
theorem less_any (b1 o1 c1 b2 o2 c2 n A B : Nat) (w : World) (hn : n ≤ 64) (hA : A < 18446744073709551616 ^ n) (hB : B < 18446744073709551616 ^ n)
    (h1 : Cells w b1 o1 n A) (h2 : Cells w b2 o2 n B) :
    Calls Try.prog 5 #[.slice (some ⟨b1, o1, none⟩) n c1, .slice (some ⟨b2, o2, none⟩) n c2] w fun e w' => e = .returned (.bool (decide (A < B))) ∧ ∃ m, w' = w.drewN m := by
  have H1 := shut h1; clear h1
  have H2 := shut h2; clear h2
  have HA := shut hA; clear hA
  have HB := shut hB; clear hB
  go_enter Try.func5, Try.ntmps5
  go_wp2
  go_loopw [5] (fun i wr => ∃ k : Nat, k ≤ n ∧ i = .int .i64 ((k : Int) - 1) ∧ Shut (A / 18446744073709551616 ^ k = B / 18446744073709551616 ^ k) ∧ ∃ m, wr = w.drewN m) (fun i _ => (intOf i + 1).toNat)
  case atStart => exact ⟨n, Nat.le_refl _, rfl, ⟨by rw [Nat.div_eq_of_lt HA.out, Nat.div_eq_of_lt HB.out]⟩, 0, rfl⟩
  case round =>
    obtain ⟨k, hk, rfl, hh, m, rfl⟩ := hrel
    rcases k with _ | j
    · go_wp2
      go_ret
      have e : A = B := by simpa using hh.out
      subst e
      exact ⟨by simp, m, rfl⟩
    · have ca := H1.out j (by omega)
      have cb := H2.out j (by omega)
      rw [show ((j + 1 : Nat) : Int) - 1 = (j : Int) from by omega]
      have i1 : (j : Int) < (n : Int) := by omega
      by_cases hw : wd A j = wd B j
      · have ht : ((wd A j : Int) != (wd B j : Int)) = false := by simp [hw]
        go_wp2
        go_quiet (fail)
        go_wp2
        go_roundw
        case rel => exact ⟨j, by omega, by go_num, ⟨by rw [high_succ A j, high_succ B j, hh.out, hw]⟩, _, rfl⟩
        case measure => simp [intOf]
      · have ht : ((wd A j : Int) != (wd B j : Int)) = true := by simp; omega
        go_wp2
        go_quiet (fail)
        go_wp2
        go_quiet (fail)
        go_wp2
        go_ret
        refine ⟨?_, _, by rw [World.drewN_drewN, World.drewN_drewN]⟩
        have e : decide (wd A j < wd B j) = decide (A < B) := by
          have := less_words hh.out hw
          simp; omega
        show Ending.returned (Value.bool (decide (wd A j < wd B j))) = _
        rw [e]

set_option maxHeartbeats 400000 in
theorem same_any (b1 o1 c1 b2 o2 c2 n A B : Nat) (w : World) (hn : n ≤ 64) (hA : A < 18446744073709551616 ^ n) (hB : B < 18446744073709551616 ^ n)
    (h1 : Cells w b1 o1 n A) (h2 : Cells w b2 o2 n B) :
    Calls Try.prog 17 #[.slice (some ⟨b1, o1, none⟩) n c1, .slice (some ⟨b2, o2, none⟩) n c2] w fun e w' => e = .returned (.bool (decide (A = B))) ∧ ∃ m, w' = w.drewN m := by
  have H1 := shut h1; clear h1
  have H2 := shut h2; clear h2
  have HA := shut hA; clear hA
  have HB := shut hB; clear hB
  go_enter Try.func17, Try.ntmps17
  go_wp2
  go_loopw [5] (fun i wr => ∃ k : Nat, k ≤ n ∧ i = .int .i64 (k : Int) ∧ Shut (∀ j, j < k → wd A j = wd B j) ∧ ∃ m, wr = w.drewN m) (fun i _ => n - (intOf i).toNat)
  case atStart => exact ⟨0, Nat.zero_le _, rfl, ⟨fun j hj => by omega⟩, 0, rfl⟩
  case round =>
    obtain ⟨k, hk, rfl, hh, m, rfl⟩ := hrel
    by_cases hlt : k < n
    · have ca := H1.out k hlt
      have cb := H2.out k hlt
      have i1 : (k : Int) < (n : Int) := by omega
      have hd : decide (k < n) = true := by simpa using hlt
      by_cases hw : wd A k = wd B k
      · have ht : ((wd A k : Int) != (wd B k : Int)) = false := by simp [hw]
        go_wp2
        go_quiet (fail)
        go_wp2
        go_roundw
        case rel => exact ⟨k + 1, by omega, by go_num, ⟨fun j hj => (by
          by_cases e : j = k
          · rw [e, hw]
          · exact hh.out j (by omega))⟩, _, rfl⟩
        case measure => simp [intOf]; omega
      · have ht : ((wd A k : Int) != (wd B k : Int)) = true := by simp; omega
        go_wp2
        go_quiet (fail)
        go_wp2
        go_ret
        have e : decide (A = B) = false := by
          have : A ≠ B := fun e => hw (by rw [e])
          simpa using this
        exact ⟨by rw [e]; rfl, _, by rw [World.drewN_drewN]⟩
    · have hd : decide (k < n) = false := by simpa using hlt
      go_wp2
      go_ret
      have e : decide (A = B) = true := by
        have : A = B := eq_of_wd HA.out HB.out (fun i hi => hh.out i (by omega))
        simpa using this
      exact ⟨by rw [e]; simp, _, rfl⟩

set_option maxHeartbeats 400000 in
theorem plus_any (b1 o1 c1 b2 o2 c2 n A B : Nat) (w : World) (hn : n ≤ 64) (hA : A < 18446744073709551616 ^ n) (hB : B < 18446744073709551616 ^ n)
    (h1 : Cells w b1 o1 n A) (h2 : Cells w b2 o2 n B) (hb1 : b1 < w.heap.size) (hb2 : b2 < w.heap.size) :
    Calls Try.prog 13 #[.slice (some ⟨b1, o1, none⟩) n c1, .slice (some ⟨b2, o2, none⟩) n c2] w (Gives w n (A + B) (fun v => .tuple #[v, .bool (decide (18446744073709551616 ^ n ≤ A + B))])) := by
  have H1 := shut h1; clear h1
  have H2 := shut h2; clear h2
  have HA := shut hA; clear hA
  have HB := shut hB; clear hB
  have hmk := hmake n hn
  go_enter Try.func13, Try.ntmps13
  go_wp2
  go_loopw [7, 8] (fun c i wr => ∃ k : Nat, k ≤ n ∧ i = .int .i64 (k : Int) ∧ c = .int .u64 (car A B k) ∧ Fills w wr n (A + B) k) (fun _ i _ => n - (intOf i).toNat)
  case atStart => exact ⟨0, Nat.zero_le _, rfl, by rw [car_zero]; rfl, Fills.start _ _ _⟩
  case round =>
    obtain ⟨k, hk, rfl, rfl, hf⟩ := hrel
    have HF := shut hf
    clear hf
    by_cases hlt : k < n
    · have ca : wr.cell? ⟨b1, o1 + k, none⟩ = some (.int .u64 (wd A k)) := (HF.out.below.cell (p := ⟨b1, o1 + k, none⟩) hb1).trans (H1.out k hlt)
      have cb : wr.cell? ⟨b2, o2 + k, none⟩ = some (.int .u64 (wd B k)) := (HF.out.below.cell (p := ⟨b2, o2 + k, none⟩) hb2).trans (H2.out k hlt)
      obtain ⟨f, hr, -⟩ := HF.out.row
      have cc := (hr k hlt).1
      have cf := (hr k hlt).2
      have HR := shut hr
      clear hr
      go_wp2
      all_goals
        go_roundw
        case rel =>
          refine ⟨k + 1, by omega, by go_num, congrArg _ ?_, HF.out.next hlt (by rw [wd_add, plus_word])⟩
          rw [car_succ]
          first
            | exact plus_one (wd_lt _ _) (wd_lt _ _) (car_le _ _ _) (by assumption)
            | exact plus_nil (wd_lt _ _) (wd_lt _ _) (car_le _ _ _) (by assumption)
            | exact plus_one (wd_lt _ _) (wd_lt _ _) (car_le _ _ _) (Or.inl (Int.not_le.1 (by assumption)))
        case measure => simp [intOf]; omega
    · obtain rfl : k = n := by omega
      go_wp2
      go_ret2
      exact ⟨w.heap.size, by rw [← plus_end HA.out HB.out]; rfl, Nat.le_refl _, HF.out.own, HF.out.below⟩

set_option maxHeartbeats 400000 in
theorem lessen_any (b1 o1 c1 b2 o2 c2 n A B : Nat) (w : World) (hn : n ≤ 64) (hA : A < 18446744073709551616 ^ n) (hB : B < 18446744073709551616 ^ n)
    (h1 : Cells w b1 o1 n A) (h2 : Cells w b2 o2 n B) (hb1 : b1 < w.heap.size) (hb2 : b2 < w.heap.size) :
    Calls Try.prog 36 #[.slice (some ⟨b1, o1, none⟩) n c1, .slice (some ⟨b2, o2, none⟩) n c2] w (Gives w n (A + 18446744073709551616 ^ n - B) (fun v => .tuple #[v, .bool (decide (A < B))])) := by
  have H1 := shut h1; clear h1
  have H2 := shut h2; clear h2
  have HA := shut hA; clear hA
  have HB := shut hB; clear hB
  have hmk := hmake n hn
  go_enter Try.func36, Try.ntmps36
  go_wp2
  go_loopw [7, 8] (fun c i wr => ∃ k : Nat, k ≤ n ∧ i = .int .i64 (k : Int) ∧ c = .int .u64 (owe A B k) ∧ Fills w wr n (A + 18446744073709551616 ^ n - B) k) (fun _ i _ => n - (intOf i).toNat)
  case atStart => exact ⟨0, Nat.zero_le _, rfl, by rw [owe_zero]; rfl, Fills.start _ _ _⟩
  case round =>
    obtain ⟨k, hk, rfl, rfl, hf⟩ := hrel
    have HF := shut hf
    clear hf
    by_cases hlt : k < n
    · have ca : wr.cell? ⟨b1, o1 + k, none⟩ = some (.int .u64 (wd A k)) := (HF.out.below.cell (p := ⟨b1, o1 + k, none⟩) hb1).trans (H1.out k hlt)
      have cb : wr.cell? ⟨b2, o2 + k, none⟩ = some (.int .u64 (wd B k)) := (HF.out.below.cell (p := ⟨b2, o2 + k, none⟩) hb2).trans (H2.out k hlt)
      obtain ⟨f, hr, -⟩ := HF.out.row
      have cc := (hr k hlt).1
      have cf := (hr k hlt).2
      have HR := shut hr
      clear hr
      go_wp2
      all_goals
        go_roundw
        case rel =>
          refine ⟨k + 1, by omega, by go_num, congrArg _ ?_, HF.out.next hlt (by rw [wd_sub HB.out hlt]; exact less_word (wd_lt _ _) (owe_le _ _ _))⟩
          rw [owe_succ]
          first
            | exact less_one (wd_lt _ _) (owe_le _ _ _) (by assumption)
            | exact less_nil (wd_lt _ _) (by assumption)
            | exact less_one (wd_lt _ _) (owe_le _ _ _) (Or.inl (Nat.not_le.1 (by assumption)))
        case measure => simp [intOf]; omega
    · obtain rfl : k = n := by omega
      go_wp2
      go_ret2
      exact ⟨w.heap.size, by rw [← less_end HA.out HB.out]; rfl, Nat.le_refl _, HF.out.own, HF.out.below⟩

/-- a + b modulo m. -/
theorem add_any (b1 o1 c1 b2 o2 c2 b3 o3 c3 n A B M : Nat) (w : World) (hn : n ≤ 64) (hM : M < 18446744073709551616 ^ n) (hA : A < M) (hB : B < M)
    (h1 : Cells w b1 o1 n A) (h2 : Cells w b2 o2 n B) (h3 : Cells w b3 o3 n M) (hb1 : b1 < w.heap.size) (hb2 : b2 < w.heap.size) (hb3 : b3 < w.heap.size) :
    Calls Try.prog 32 #[.slice (some ⟨b1, o1, none⟩) n c1, .slice (some ⟨b2, o2, none⟩) n c2, .slice (some ⟨b3, o3, none⟩) n c3] w (Gives w n ((A + B) % M) (fun v => v)) := by
  have hA' : A < 18446744073709551616 ^ n := Nat.lt_trans hA hM
  have hB' : B < 18446744073709551616 ^ n := Nat.lt_trans hB hM
  have C1 := shut (plus_any b1 o1 c1 b2 o2 c2 n A B w hn hA' hB' h1 h2 hb1 hb2)
  have H3 := shut h3; clear h3
  have HN := shut (And.intro hM (And.intro hA (And.intro hB (And.intro hA' hB'))))
  clear hM hA hB hA' hB' h1 h2
  go_enter Try.func32, Try.ntmps32
  go_wp2_with fail
  refine C1.out.mono ?_
  rintro e w1 ⟨b, rfl, hb, hown, hbel⟩
  obtain ⟨hM, hA, hB, hA', hB'⟩ := HN.out
  have hlt1 := hown.2
  by_cases hge : 18446744073709551616 ^ n ≤ A + B
  · have hd : decide (18446744073709551616 ^ n ≤ A + B) = true := by simpa using hge
    have hp := pow_pos' n
    have hx : (A + B) % 18446744073709551616 ^ n < 18446744073709551616 ^ n := Nat.mod_lt _ hp
    have ex : (A + B) % 18446744073709551616 ^ n + 18446744073709551616 ^ n - M = (A + B) % M := by
      rw [add_hit hA hB (by omega), Nat.mod_eq_sub_mod hge, Nat.mod_eq_of_lt (by omega)]; omega
    have own' : Own w1 b n ((A + B) % 18446744073709551616 ^ n) := hown.congr (fun i hi => (wd_mod hi).symm)
    have C2 := lessen_any b 0 n b3 o3 c3 n _ M w1 hn hx hM own'.cells (H3.out.below hbel hb3) hlt1 (by omega)
    rw [ex] at C2
    have D2 := shut C2
    have HB := shut hbel
    have HD := shut hb
    clear C2 hx ex own' hp hge hM hA hB hA' hB' hown hbel hb
    go_wp2_with fail
    refine D2.out.mono ?_
    rintro e w2 ⟨b', rfl, hb', hown', hbel'⟩
    have HE := shut (And.intro hb' (And.intro hown' hbel'))
    clear hb' hown' hbel'
    go_wp2_with fail
    go_ret
    obtain ⟨hb', hown', hbel'⟩ := HE.out
    exact ⟨b', rfl, by have := HD.out; have := HB.out.size; omega, hown', HB.out.trans (hbel'.mono HB.out.size)⟩
  · have hd : decide (18446744073709551616 ^ n ≤ A + B) = false := by simpa using hge
    have hx : A + B < 18446744073709551616 ^ n := by omega
    have C2 := less_any b 0 n b3 o3 c3 n (A + B) M w1 hn hx hM hown.cells (H3.out.below hbel hb3)
    have D2 := shut C2
    have HB := shut hbel
    have HD := shut hb
    have HO := shut hown
    have HX := shut hx
    clear C2 hx hge hM hA hB hA' hB' hown hbel hb
    by_cases hl : A + B < M
    · have hl' : decide (A + B < M) = true := by simpa using hl
      have HL := shut hl
      clear hl
      go_wp2_with fail
      refine D2.out.mono ?_
      rintro e w2 ⟨rfl, m, rfl⟩
      go_wp2_with fail
      go_ret
      exact ⟨b, rfl, HD.out, by rw [Nat.mod_eq_of_lt HL.out]; exact HO.out, below_drawn HB.out m⟩
    · have hl' : decide (A + B < M) = false := by simpa using hl
      obtain ⟨hM, hA, hB, hA', hB'⟩ := HN.out
      have ex : A + B + 18446744073709551616 ^ n - M = 18446744073709551616 ^ n + (A + B) % M := by
        rw [add_hit hA hB (by omega)]; omega
      have HL := shut ex
      clear hl ex hM hA hB hA' hB'
      go_wp2_with fail
      refine D2.out.mono ?_
      rintro e w2 ⟨rfl, m, rfl⟩
      have C3 := lessen_any b 0 n b3 o3 c3 n _ M (w1.drewN m) hn HX.out HN.out.1 HO.out.cells (H3.out.below (below_drawn HB.out m) hb3) hlt1 (by have := HB.out.size; exact Nat.lt_of_lt_of_le hb3 this)
      have D3 := shut C3
      clear C3
      go_wp2_with fail
      refine D3.out.mono ?_
      rintro e w2 ⟨b', rfl, hb', hown', hbel'⟩
      have HE := shut (And.intro hb' (And.intro hown' hbel'))
      clear hb' hown' hbel'
      go_wp2_with fail
      go_ret
      obtain ⟨hb', hown', hbel'⟩ := HE.out
      rw [HL.out] at hown'
      exact ⟨b', rfl, Nat.le_trans HB.out.size hb', hown'.congr (fun i hi => wd_pow_add _ hi), HB.out.trans (Below.mono (below_drawn (Below.refl _ _) m |>.trans hbel') HB.out.size)⟩

end Go.Proofs.Ytfdmgelaiigocaa
