/- The law on lists' differences: its walk. -/
import Derived.Test.YtdocgdodahjooaaVecSub
import Derived.Test.YtdocgdodahjooaaLawVecSum
import Derived.Test.YtdocgdodahjooaaEqArr
import Derived.Deep.RegionHeld3
namespace Go.Proofs.Ytdocgdodahjooaa
open Go.RowKit Num

theorem subm_lt' (X Y : Nat) : subm X Y < 21888242871839275222246405745257275088548364400416034343698204186575808495617 := Nat.mod_lt _ (by decide)

set_option maxRecDepth 100000 in
set_option maxHeartbeats 800000 in
theorem vs_f1 (ao bo : Option Addr) (n ca cb b1 o1 b2 o2 : Nat) (As Bs : Nat → Nat) (w : World) (_hn : n ≤ 2147483647) (_HA : Shut (∀ i, i < n → As i < 115792089237316195423570985008687907853269984665640564039457584007913129639936)) (_HB : Shut (∀ i, i < n → Bs i < 115792089237316195423570985008687907853269984665640564039457584007913129639936))
    (_HV : Shut (VecAt w ao n b1 o1 As)) (_HU : Shut (VecAt w bo n b2 o2 Bs)) (_H1 : Shut (0 < n → b1 < w.heap.size)) (_H2 : Shut (0 < n → b2 < w.heap.size))
    (t1 : decide ((2147483647 : Int) < (n : Int)) = false) (_t3 : ((n : Int) != (n : Int)) = false) (C : Shut (Calls Try.prog 22 #[.slice ao n ca] w (Keeps w (.bool false)))) :
    Calls Try.prog 10 #[.slice ao n ca, .slice bo n cb] w (Keeps w (.bool true)) := by
  go_enter Try.func10, Try.ntmps10
  go_wp2_with fail
  refine C.out.mono ?_
  rintro e w' ⟨rfl, hb⟩
  have HB := shut hb; clear hb C
  go_wp2_with fail
  go_ret
  exact ⟨rfl, HB.out⟩

set_option maxRecDepth 100000 in
set_option maxHeartbeats 800000 in
theorem vs_f2 (ao bo : Option Addr) (n ca cb b1 o1 b2 o2 : Nat) (As Bs : Nat → Nat) (w : World) (hn : n ≤ 2147483647) (_HA : Shut (∀ i, i < n → As i < 115792089237316195423570985008687907853269984665640564039457584007913129639936)) (HB : Shut (∀ i, i < n → Bs i < 115792089237316195423570985008687907853269984665640564039457584007913129639936))
    (_HV : Shut (VecAt w ao n b1 o1 As)) (HU : Shut (VecAt w bo n b2 o2 Bs)) (_H1 : Shut (0 < n → b1 < w.heap.size)) (H2 : Shut (0 < n → b2 < w.heap.size))
    (t1 : decide ((2147483647 : Int) < (n : Int)) = false) (_t3 : ((n : Int) != (n : Int)) = false) (C : Shut (Calls Try.prog 22 #[.slice ao n ca] w (Keeps w (.bool true)))) (hall' : Shut (allB n Bs = false)) :
    Calls Try.prog 10 #[.slice ao n ca, .slice bo n cb] w (Keeps w (.bool true)) := by
  go_enter Try.func10, Try.ntmps10
  go_wp2_with fail
  refine C.out.mono ?_
  rintro e w' ⟨rfl, hb⟩
  have HB1 := shut hb; clear hb C
  have C := shut (all_any bo n cb b2 o2 Bs w' hn HB.out (HU.out.now ⟨HB1.out, HB1.out.size⟩ H2.out) (fun h => Nat.lt_of_lt_of_le (H2.out h) HB1.out.size))
  rw [hall'.out] at C
  go_wp2_with fail
  refine C.out.mono ?_
  rintro e w2 ⟨rfl, hb⟩
  have HB2 := shut hb; clear hb C
  go_wp2_with fail
  go_ret
  exact ⟨rfl, HB1.out.trans (HB2.out.mono HB1.out.size)⟩

set_option maxRecDepth 100000 in
set_option maxHeartbeats 800000 in
theorem vs_main (ao bo : Option Addr) (n ca cb b1 o1 b2 o2 : Nat) (As Bs : Nat → Nat) (w : World) (hn : n ≤ 2147483647) (_HA : Shut (∀ i, i < n → As i < 115792089237316195423570985008687907853269984665640564039457584007913129639936)) (HB : Shut (∀ i, i < n → Bs i < 115792089237316195423570985008687907853269984665640564039457584007913129639936))
    (HV : Shut (VecAt w ao n b1 o1 As)) (HU : Shut (VecAt w bo n b2 o2 Bs)) (H1 : Shut (0 < n → b1 < w.heap.size)) (H2 : Shut (0 < n → b2 < w.heap.size))
    (t1 : decide ((2147483647 : Int) < (n : Int)) = false) (_t3 : ((n : Int) != (n : Int)) = false) (C : Shut (Calls Try.prog 22 #[.slice ao n ca] w (Keeps w (.bool true)))) (hall' : Shut (allB n Bs = true)) (HP : Shut (∀ i, i < n → As i < 21888242871839275222246405745257275088548364400416034343698204186575808495617)) (HQ : Shut (∀ i, i < n → Bs i < 21888242871839275222246405745257275088548364400416034343698204186575808495617)) :
    Calls Try.prog 10 #[.slice ao n ca, .slice bo n cb] w (Keeps w (.bool true)) := by
  go_enter Try.func10, Try.ntmps10
  go_wp2_with fail
  refine C.out.mono ?_
  rintro e w' ⟨rfl, hb⟩
  have HB1 := shut hb; clear hb C
  have C := shut (all_any bo n cb b2 o2 Bs w' hn HB.out (HU.out.now ⟨HB1.out, HB1.out.size⟩ H2.out) (fun h => Nat.lt_of_lt_of_le (H2.out h) HB1.out.size))
  rw [hall'.out] at C
  go_wp2_with fail
  refine C.out.mono ?_
  rintro e w1 ⟨rfl, hb⟩
  have HN := shut (Now.mk (HB1.out.trans (hb.mono HB1.out.size)) (Nat.le_trans HB1.out.size hb.size)); clear hb C
  go_wp2_with fail
  have C := shut (impl_vecsub ao bo n ca cb b1 o1 b2 o2 As Bs w1 hn HP.out HQ.out (HV.out.now HN.out H1.out) (HU.out.now HN.out H2.out) (fun h => Nat.lt_of_lt_of_le (H1.out h) HN.out.size) (fun h => Nat.lt_of_lt_of_le (H2.out h) HN.out.size))
  refine C.out.mono ?_
  rintro e w2 ⟨v, rfl, hown, hb⟩
  obtain ⟨ao3, c3, g, rfl, hv3, hg3⟩ := ownsRow_vec hown
  have HN2 := shut (HN.out.call hb)
  have H3 := shut (And.intro hv3 hg3)
  clear hown hv3 hg3 hb C
  have heq := eq_arr
  go_wp2_with fail
  refine (impl_one _).mono ?_
  rintro e w3 ⟨rfl, hb⟩
  have HN3 := shut (Now.mk hb hb.size); clear hb
  go_wp2_with fail
  clear heq
  go_loopw [6] (fun i wr => ∃ k : Nat, k ≤ n ∧ i = .int .i64 (k : Int) ∧ Shut (Now w2.heap.size w2 wr)) (fun i _ => n - (intOf i).toNat)
  case atStart => exact ⟨0, Nat.zero_le _, rfl, HN3⟩
  case round =>
    obtain ⟨k, hk, rfl, hw⟩ := hrel
    by_cases hlt : k < n
    · have hd : decide (k < n) = true := by simpa using hlt
      have i1 : (k : Int) < (n : Int) := by omega
      obtain rfl := HV.out.at' (by omega)
      obtain rfl := HU.out.at' (by omega)
      obtain rfl := H3.out.1.at' (by omega)
      have x1 := (HV.out.now HN2.out H1.out).cells k hlt
      have x2 := (HU.out.now HN2.out H2.out).cells k hlt
      have x3 := H3.out.1.cells k hlt
      rw [Nat.zero_add] at x3
      have px := HP.out k hlt
      have py := HQ.out k hlt
      obtain ⟨X, hX⟩ : ∃ X, As k = X := ⟨_, rfl⟩
      obtain ⟨Y, hY⟩ : ∃ Y, Bs k = Y := ⟨_, rfl⟩
      rw [hX] at x1 px
      rw [hY] at x2 py
      obtain ⟨R, hR⟩ : ∃ R, subm X Y = R := ⟨_, rfl⟩
      have x3 : Cells w2 g (k * 4) 4 R := by rw [← hR, ← hX, ← hY]; exact x3
      have C1 := shut (fun w => impl_sub X Y R hR.symm px py w)
      clear hX hY hR px py
      have l1 := Nat.lt_of_lt_of_le (H1.out (by omega)) HN2.out.size
      have l2 := Nat.lt_of_lt_of_le (H2.out (by omega)) HN2.out.size
      have l3 := (H3.out.2 (by omega)).2
      have hsee : ∀ w', Now w2.heap.size w2 w' → (Now w2.heap.size w2 w' ∧ w'.cell? ⟨b1, o1 + k * 4, none⟩ = some (.int .u64 (wd (X) 0 : Nat)) ∧ w'.cell? ⟨b1, o1 + k * 4 + 1, none⟩ = some (.int .u64 (wd (X) 1 : Nat)) ∧ w'.cell? ⟨b1, o1 + k * 4 + 2, none⟩ = some (.int .u64 (wd (X) 2 : Nat)) ∧ w'.cell? ⟨b1, o1 + k * 4 + 3, none⟩ = some (.int .u64 (wd (X) 3 : Nat)) ∧ w'.cell? ⟨b2, o2 + k * 4, none⟩ = some (.int .u64 (wd (Y) 0 : Nat)) ∧ w'.cell? ⟨b2, o2 + k * 4 + 1, none⟩ = some (.int .u64 (wd (Y) 1 : Nat)) ∧ w'.cell? ⟨b2, o2 + k * 4 + 2, none⟩ = some (.int .u64 (wd (Y) 2 : Nat)) ∧ w'.cell? ⟨b2, o2 + k * 4 + 3, none⟩ = some (.int .u64 (wd (Y) 3 : Nat)) ∧ w'.cell? ⟨g, k * 4, none⟩ = some (.int .u64 (wd (R) 0 : Nat)) ∧ w'.cell? ⟨g, k * 4 + 1, none⟩ = some (.int .u64 (wd (R) 1 : Nat)) ∧ w'.cell? ⟨g, k * 4 + 2, none⟩ = some (.int .u64 (wd (R) 2 : Nat)) ∧ w'.cell? ⟨g, k * 4 + 3, none⟩ = some (.int .u64 (wd (R) 3 : Nat))) := fun w' h => ⟨h, (x1.now h l1) 0 (by decide), (x1.now h l1) 1 (by decide), (x1.now h l1) 2 (by decide), (x1.now h l1) 3 (by decide), (x2.now h l2) 0 (by decide), (x2.now h l2) 1 (by decide), (x2.now h l2) 2 (by decide), (x2.now h l2) 3 (by decide), (x3.now h l3) 0 (by decide), (x3.now h l3) 1 (by decide), (x3.now h l3) 2 (by decide), (x3.now h l3) 3 (by decide)⟩
      have HSEE := shut hsee
      clear hsee x1 x2 x3 l1 l2 l3
      go_wp2_with fail
      have hne := ne_arr
      refine wp_region_noPanic ?_
      obtain ⟨-, aa0, aa1, aa2, aa3, aa4, aa5, aa6, aa7, aa8, aa9, aa10, aa11⟩ := HSEE.out _ hw.out
      first | (go_region_with (go_at_call 20; (with_reducible refine (C1.out _).mono ?_); rintro e w11 ⟨rfl, hl1⟩; have Q1 : Shut (Now w2.heap.size w2 w11) := shut (hw.out.drew.call hl1); clear hl1; obtain ⟨-, bb0, bb1, bb2, bb3, bb4, bb5, bb6, bb7, bb8, bb9, bb10, bb11⟩ := HSEE.out _ Q1.out)) | fail
      all_goals
        refine NoPanic.normal ?_
        clear hne aa0 aa1 aa2 aa3 aa4 aa5 aa6 aa7 aa8 aa9 aa10 aa11 bb0 bb1 bb2 bb3 bb4 bb5 bb6 bb7 bb8 bb9 bb10 bb11
        go_wp2_with fail
        go_roundw
        case rel => exact ⟨k + 1, by omega, by go_num, Q1⟩
        case measure => simp [intOf]; omega
    · have hd : decide (k < n) = false := by simpa using hlt
      go_wp2_with fail
      go_ret
      exact (HN2.out.call hw.out.below).keeps (Below.refl _ _) (Nat.le_refl _) rfl

set_option maxRecDepth 100000 in
set_option maxHeartbeats 800000 in
theorem law_vecSub (ao bo : Option Addr) (n n2 ca cb b1 o1 b2 o2 : Nat) (As Bs : Nat → Nat) (w : World) (hA : ∀ i, i < n → As i < 115792089237316195423570985008687907853269984665640564039457584007913129639936) (hB : ∀ i, i < n2 → Bs i < 115792089237316195423570985008687907853269984665640564039457584007913129639936)
    (hv : VecAt w ao n b1 o1 As) (hu : VecAt w bo n2 b2 o2 Bs) (h1 : 0 < n → b1 < w.heap.size) (h2 : 0 < n2 → b2 < w.heap.size) :
    Calls Try.prog 10 #[.slice ao n ca, .slice bo n2 cb] w (Keeps w (.bool true)) := by
  have HA := shut hA; clear hA
  have HB := shut hB; clear hB
  have HV := shut hv; clear hv
  have HU := shut hu; clear hu
  have H1 := shut h1; clear h1
  have H2 := shut h2; clear h2
  by_cases hn : n ≤ 2147483647
  case neg =>
    have h1 : decide ((2147483647 : Int) < (n : Int)) = true := by simp; omega
    go_enter Try.func10, Try.ntmps10
    go_wp2_with fail
    go_ret
    exact ⟨rfl, Below.refl _ _⟩
  have t1 : decide ((2147483647 : Int) < (n : Int)) = false := by simp; omega
  by_cases hn2 : n2 ≤ 2147483647
  case neg =>
    have h1 : decide ((2147483647 : Int) < (n2 : Int)) = true := by simp; omega
    go_enter Try.func10, Try.ntmps10
    go_wp2_with fail
    go_ret
    exact ⟨rfl, Below.refl _ _⟩
  have t2 : decide ((2147483647 : Int) < (n2 : Int)) = false := by simp; omega
  by_cases he : n = n2
  case neg =>
    have h1 : ((n : Int) != (n2 : Int)) = true := by simp; omega
    clear hn hn2
    go_enter Try.func10, Try.ntmps10
    go_wp2_with fail
    go_ret
    exact ⟨rfl, Below.refl _ _⟩
  subst he
  have t3 : ((n : Int) != (n : Int)) = false := by simp
  have C := shut (all_any ao n ca b1 o1 As w hn HA.out HV.out H1.out)
  cases hall : allB n As with
  | false => exact vs_f1 ao bo n ca cb b1 o1 b2 o2 As Bs w hn HA HB HV HU H1 H2 t1 t3 (shut (hall ▸ C.out))
  | true =>
    have HP : Shut (∀ i, i < n → As i < 21888242871839275222246405745257275088548364400416034343698204186575808495617) := shut (by unfold allB at hall; exact of_decide_eq_true hall)
    rw [hall] at C
    cases hall2 : allB n Bs with
    | false => exact vs_f2 ao bo n ca cb b1 o1 b2 o2 As Bs w hn HA HB HV HU H1 H2 t1 t3 C (shut hall2)
    | true => exact vs_main ao bo n ca cb b1 o1 b2 o2 As Bs w hn HA HB HV HU H1 H2 t1 t3 C (shut hall2) HP (shut (by unfold allB at hall2; exact of_decide_eq_true hall2))

end Go.Proofs.Ytdocgdodahjooaa
