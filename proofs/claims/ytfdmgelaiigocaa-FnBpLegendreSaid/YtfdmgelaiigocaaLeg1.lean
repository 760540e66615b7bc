/- Contract of the field's symbol: its walk. -/
import Derived.Test.YtfdmgelaiigocaaLeg00
import Derived.Deep.CutRange
namespace Go.Proofs.Ytfdmgelaiigocaa
open Go.RowKit Num

set_option maxRecDepth 100000 in
set_option maxHeartbeats 4000000 in
theorem elegendre (b o X : Nat) (w : World) (hX : X < 39402006196394479212279040100143613805079739270465446667948293404245721771497210611414266254884915640806627990306816) (_hb : b < w.heap.size) (h0 : w.cell? ⟨b, o, none⟩ = some (.int .u64 (wd X 0 : Nat))) (h1 : w.cell? ⟨b, o + 1, none⟩ = some (.int .u64 (wd X 1 : Nat))) (h2 : w.cell? ⟨b, o + 2, none⟩ = some (.int .u64 (wd X 2 : Nat))) (h3 : w.cell? ⟨b, o + 3, none⟩ = some (.int .u64 (wd X 3 : Nat))) (h4 : w.cell? ⟨b, o + 4, none⟩ = some (.int .u64 (wd X 4 : Nat))) (h5 : w.cell? ⟨b, o + 5, none⟩ = some (.int .u64 (wd X 5 : Nat))) : Calls Try.prog 14 #[.pointer (some ⟨b, o, none⟩)] w (Keeps w (.int .i64 (Sym.K (X : Int) 4002409555221667393417789825735904156556882819939007885332058136124031650490837864442687629129015664037894272559787))) := by
  obtain ⟨Z, hZ⟩ : ∃ Z, Sym.K (X : Int) 4002409555221667393417789825735904156556882819939007885332058136124031650490837864442687629129015664037894272559787 = Z := ⟨_, rfl⟩
  rw [hZ]
  have HK : Shut (Keep w Z X 4002409555221667393417789825735904156556882819939007885332058136124031650490837864442687629129015664037894272559787 0 (X + 4002409555221667393417789825735904156556882819939007885332058136124031650490837864442687629129015664037894272559787) 1 (((w.alloc (.cells #[(.int .u64 (wd (X) 0 : Nat)), (.int .u64 (wd (X) 1 : Nat)), (.int .u64 (wd (X) 2 : Nat)), (.int .u64 (wd (X) 3 : Nat)), (.int .u64 (wd (X) 4 : Nat)), (.int .u64 (wd (X) 5 : Nat))] 32)).alloc (.cells #[.int .u64 13402431016077863595, .int .u64 2210141511517208575, .int .u64 7435674573564081700, .int .u64 7239337960414712511, .int .u64 5412103778470702295, .int .u64 1873798617647539866] 32)).alloc (.cells #[.int .u64 0, .int .u64 0, .int .u64 0, .int .u64 0, .int .u64 0, .int .u64 0] 32))) := shut {
    now := (((Now.start (Nat.le_refl _)).alloc _).alloc _).alloc _
    oa := own_alloc (own_alloc (own_new w X 32) _) _
    ob := by
      have := own_alloc (own_new (w.alloc (.cells #[(.int .u64 (wd (X) 0 : Nat)), (.int .u64 (wd (X) 1 : Nat)), (.int .u64 (wd (X) 2 : Nat)), (.int .u64 (wd (X) 3 : Nat)), (.int .u64 (wd (X) 4 : Nat)), (.int .u64 (wd (X) 5 : Nat))] 32)) 4002409555221667393417789825735904156556882819939007885332058136124031650490837864442687629129015664037894272559787 32) (.cells #[.int .u64 0, .int .u64 0, .int .u64 0, .int .u64 0, .int .u64 0, .int .u64 0] 32)
      rw [← wdP0, ← wdP1, ← wdP2, ← wdP3, ← wdP4, ← wdP5] at this; simpa using this
    os := by
      have := own_new ((w.alloc (.cells #[(.int .u64 (wd (X) 0 : Nat)), (.int .u64 (wd (X) 1 : Nat)), (.int .u64 (wd (X) 2 : Nat)), (.int .u64 (wd (X) 3 : Nat)), (.int .u64 (wd (X) 4 : Nat)), (.int .u64 (wd (X) 5 : Nat))] 32)).alloc (.cells #[.int .u64 13402431016077863595, .int .u64 2210141511517208575, .int .u64 7435674573564081700, .int .u64 7239337960414712511, .int .u64 5412103778470702295, .int .u64 1873798617647539866] 32)) 0 32
      simpa [wd_zero] using this
    ha := hX
    hb := by decide
    odd := by decide
    one := Or.inl rfl
    sy := by rw [Int.one_mul]; exact hZ
    sum := Nat.le_refl _ }
  clear hX hZ
  go_enter Try.func14, Try.ntmps14
  go_wp2_with fail
  go_loopg [8] (X + 4002409555221667393417789825735904156556882819939007885332058136124031650490837864442687629129015664037894272559787) (fun k l wr => ∃ (A B S : Nat) (lv : Int), l = .int .i64 lv ∧ Shut (Keep w Z A B S k lv wr))
  case atStart => exact ⟨X, 4002409555221667393417789825735904156556882819939007885332058136124031650490837864442687629129015664037894272559787, 0, 1, rfl, HK⟩
  case round =>
    clear HK
    obtain ⟨A, B, S, lv, rfl, hk⟩ := hrel
    have C0 := shut (iszero w.heap.size 0 A wr hk.out.ha (hk.out.oa.1 0 (by decide)).1 (by rw [Nat.zero_add]; exact (hk.out.oa.1 1 (by decide)).1) (by rw [Nat.zero_add]; exact (hk.out.oa.1 2 (by decide)).1) (by rw [Nat.zero_add]; exact (hk.out.oa.1 3 (by decide)).1) (by rw [Nat.zero_add]; exact (hk.out.oa.1 4 (by decide)).1) (by rw [Nat.zero_add]; exact (hk.out.oa.1 5 (by decide)).1))
    by_cases hA : A = 0
    · have hd : decide (A = 0) = true := by simpa using hA
      have HA := shut hA
      clear hA
      go_wp2_with fail
      refine C0.out.mono ?_
      rintro e w' ⟨rfl, m, rfl⟩
      have hz : lv * Sym.K 0 B = Z := by have := hk.out.sy; rwa [HA.out] at this
      rw [Sym.K_zero _ (by have := hk.out.odd; omega) (by omega)] at hz
      have hone := one_words (X := B) hk.out.hb
      have hrest := or_rest B
      have HW := shut (Now.drewN hk.out.now m)
      obtain ⟨c0, c1, c2, c3, c4, c5⟩ := own_cells hk.out.ob
      by_cases h1 : wd B 0 = 1
      · have t1 : (((wd B 0 : Nat) : Int) == 1) = true := by simp [h1]
        by_cases h2 : bits .or .u64 (bits .or .u64 (bits .or .u64 (bits .or .u64 (((wd B 1 : Nat) : Int)) ((wd B 2 : Nat) : Int)) ((wd B 3 : Nat) : Int)) ((wd B 4 : Nat) : Int)) ((wd B 5 : Nat) : Int) = 0
        · have t2 : (bits .or .u64 (bits .or .u64 (bits .or .u64 (bits .or .u64 (((wd B 1 : Nat) : Int)) ((wd B 2 : Nat) : Int)) ((wd B 3 : Nat) : Int)) ((wd B 4 : Nat) : Int)) ((wd B 5 : Nat) : Int) == 0) = true := by simpa using h2
          have e : Z = lv := by
            have hB := hone.1 ⟨h1, hrest.1 h2⟩
            rw [if_pos (by omega), Int.mul_one] at hz
            exact hz.symm
          have HE := shut e
          clear e hz hone hrest h1 h2
          go_wp2_with fail
          go_ret
          exact ⟨by rw [HE.out]; rfl, HW.out.below⟩
        · have t2 : (bits .or .u64 (bits .or .u64 (bits .or .u64 (bits .or .u64 (((wd B 1 : Nat) : Int)) ((wd B 2 : Nat) : Int)) ((wd B 3 : Nat) : Int)) ((wd B 4 : Nat) : Int)) ((wd B 5 : Nat) : Int) == 0) = false := by simpa using h2
          have e : Z = 0 := by
            rw [if_neg (fun hB => h2 (hrest.2 (hone.2 (by omega)).2)), Int.mul_zero] at hz
            exact hz.symm
          have HE := shut e
          clear e hz hone hrest h1 h2
          go_wp2_with fail
          go_ret
          exact ⟨by rw [HE.out]; rfl, HW.out.below⟩
      · have t1 : (((wd B 0 : Nat) : Int) == 1) = false := by simp; omega
        have e : Z = 0 := by
          rw [if_neg (fun hB => h1 (hone.2 (by omega)).1), Int.mul_zero] at hz
          exact hz.symm
        have HE := shut e
        clear e hz hone hrest h1
        go_wp2_with fail
        go_ret
        exact ⟨by rw [HE.out]; rfl, HW.out.below⟩
    · have hd : decide (A = 0) = false := by simpa using hA
      have HA := shut hA
      clear hA
      go_wp2_with fail
      refine C0.out.mono ?_
      rintro e w' ⟨rfl, m, rfl⟩
      have HK := shut (hk.out.drewN m)
      clear C0 hk
      obtain ⟨W1, hW⟩ : ∃ W1, wr.drewN m = W1 := ⟨_, rfl⟩
      rw [hW] at HK ⊢
      clear hW
      obtain ⟨n, hn⟩ : ∃ n, n = max (blen A) (blen B) := ⟨_, rfl⟩
      have C1 := shut (ebitlen w.heap.size 0 A W1 HK.out.ha (HK.out.oa.1 0 (by decide)).1 (by rw [Nat.zero_add]; exact (HK.out.oa.1 1 (by decide)).1) (by rw [Nat.zero_add]; exact (HK.out.oa.1 2 (by decide)).1) (by rw [Nat.zero_add]; exact (HK.out.oa.1 3 (by decide)).1) (by rw [Nat.zero_add]; exact (HK.out.oa.1 4 (by decide)).1) (by rw [Nat.zero_add]; exact (HK.out.oa.1 5 (by decide)).1))
      have C2 := shut (ebitlen (w.heap.size + 1) 0 B W1 HK.out.hb (HK.out.ob.1 0 (by decide)).1 (by rw [Nat.zero_add]; exact (HK.out.ob.1 1 (by decide)).1) (by rw [Nat.zero_add]; exact (HK.out.ob.1 2 (by decide)).1) (by rw [Nat.zero_add]; exact (HK.out.ob.1 3 (by decide)).1) (by rw [Nat.zero_add]; exact (HK.out.ob.1 4 (by decide)).1) (by rw [Nat.zero_add]; exact (HK.out.ob.1 5 (by decide)).1))
      have hmx : max ((blen A : Nat) : Int) ((blen B : Nat) : Int) = (n : Int) := by omega
      have hA2 : A < 2 ^ n := Nat.lt_of_lt_of_le (blen_lt A) (Nat.pow_le_pow_right (by decide) (by omega))
      have hB2 : B < 2 ^ n := Nat.lt_of_lt_of_le (blen_lt B) (Nat.pow_le_pow_right (by decide) (by omega))
      have hn4 : n ≤ 384 := by
        have h1 := blen_top HK.out.ha
        have h2 := blen_top HK.out.hb
        omega
      have C3 := shut (approx w.heap.size A n W1 hn4 hA2 HK.out.oa)
      have C4 := shut (approx (w.heap.size + 1) B n W1 hn4 hB2 HK.out.ob)
      have HN := shut (And.intro hn (And.intro hA2 hB2))
      clear hn hA2 hB2 hn4
      go_wp2_with fail
      refine C1.out.mono ?_
      rintro e w' ⟨rfl, rfl⟩
      go_wp2_with fail
      refine C2.out.mono ?_
      rintro e w' ⟨rfl, rfl⟩
      go_wp2_with fail
      refine C3.out.mono ?_
      rintro e w' ⟨rfl, rfl⟩
      go_wp2_with fail
      refine C4.out.mono ?_
      rintro e w' ⟨rfl, rfl⟩
      clear C1 C2 C3 C4 hmx hd
      obtain ⟨x, hx⟩ : ∃ x, apx A n = x := ⟨_, rfl⟩
      obtain ⟨y, hy⟩ : ∃ y, apx B n = y := ⟨_, rfl⟩
      have hxl : x < 18446744073709551616 := by rw [← hx]; exact apx_lt HN.out.2.1
      have hyl : y < 18446744073709551616 := by rw [← hy]; exact apx_lt HN.out.2.2
      have HI : Shut (Inn A B x y Z 0 x y 1 4294967296 lv) := shut (inn_start HK.out.odd (by rw [← hx]; exact apx_low32) (by rw [← hy]; exact apx_low32) HK.out.sy HK.out.one hxl hyl)
      rw [hx, hy]
      have HX := shut (And.intro hx hy)
      clear hx hy hxl hyl
      go_wp2_with fail
      go_loopg [5, 6, 8, 10, 11, 33] 30 (fun k c0 c1 l α β i wi => ∃ (j a1 b1 : Nat) (d0 d1 ll : Int), j ≤ 30 ∧ j + k = 30 ∧ i = .int .i64 (j : Int) ∧ c0 = .int .i64 d0 ∧ c1 = .int .i64 d1 ∧ l = .int .i64 ll ∧ α = .int .u64 (a1 : Int) ∧ β = .int .u64 (b1 : Int) ∧ wi = W1 ∧ Shut (Inn A B x y Z j a1 b1 d0 d1 ll))
      case atStart => exact ⟨0, x, y, 1, 4294967296, lv, by decide, rfl, rfl, rfl, rfl, rfl, rfl, rfl, rfl, HI⟩
      case round =>
        clear HI
        obtain ⟨j, a1, b1, d0, d1, ll, hj, hjk, rfl, rfl, rfl, rfl, rfl, rfl, rfl, hi⟩ := hrel
        by_cases hlt : j < 30
        · have i1 : (j : Int) < 30 := by omega
          have hdj : decide (j < 30) = true := by simpa using hlt
          have HJ := shut (And.intro hlt (And.intro hj hjk))
          obtain ⟨mm, hmm⟩ : ∃ mm, -ll = mm := ⟨_, rfl⟩
          have hm2 : wrap64 (-mm) = ll := by have := hi.out.one; unfold wrap64; omega
          have hm : wrap64 (-ll) = mm := by have := hi.out.one; unfold wrap64; omega
          have HM := shut hmm
          clear hlt hj hjk hmm
          have HO_ll := shut hi.out.one
          clear hm hm2
          by_cases hpar : a1 % 2 = 0
          · have p1 : bits .and .u64 (a1 : Int) 1 = 0 := by rw [and_one a1 hi.out.la, hpar]; rfl
            have HPAR := shut hpar; clear hpar
            obtain ⟨l2, hl1⟩ : ∃ l1, Sym.ch8 (b1 : Int) * ll = l1 := ⟨_, rfl⟩
            have Hl2 := shut hl1
            clear hl1
            go_upto_region 15 with fail
            go_cut [47] from 42 to 46 (fun t wx => t = .bool (decide (b1 % 8 = 3 ∨ b1 % 8 = 5)) ∧ wr = wx)
            case first =>
              by_cases r3 : b1 % 8 = 3
              · have s8 : bits .and .u64 (b1 : Int) 7 = 3 := by rw [and_seven b1 hi.out.lb, r3]; rfl
                have hD : decide (b1 % 8 = 3 ∨ b1 % 8 = 5) = true := by simp [r3]
                have HD := shut hD
                clear hD r3
                go_wp2_with fail
                go_meet
                exact ⟨by rw [HD.out], rfl⟩
              by_cases r5 : b1 % 8 = 5
              · have s8 : bits .and .u64 (b1 : Int) 7 = 5 := by rw [and_seven b1 hi.out.lb, r5]; rfl
                have hD : decide (b1 % 8 = 3 ∨ b1 % 8 = 5) = true := by simp [r5]
                have HD := shut hD
                clear hD r3 r5
                go_wp2_with fail
                go_meet
                exact ⟨by rw [HD.out], rfl⟩
              obtain ⟨r8, hr8⟩ : ∃ r8 : Int, ((b1 % 8 : Nat) : Int) = r8 := ⟨_, rfl⟩
              have s8 : bits .and .u64 (b1 : Int) 7 = r8 := by rw [and_seven b1 hi.out.lb, hr8]
              have t3 : (r8 == 3) = false := by simp; omega
              have t5 : (r8 == 5) = false := by simp; omega
              have hD : decide (b1 % 8 = 3 ∨ b1 % 8 = 5) = false := by simp [r3, r5]
              have HD := shut hD
              clear hr8 hD r3 r5
              go_wp2_with fail
              go_meet
              exact ⟨by rw [HD.out], rfl⟩
            obtain ⟨rfl, rfl⟩ := hcut
            obtain ⟨tt, htt⟩ : ∃ tt, decide (b1 % 8 = 3 ∨ b1 % 8 = 5) = tt := ⟨_, rfl⟩
            rw [htt]
            have HTT := shut htt
            clear htt
            go_upto_if 47 with fail
            go_cut [8] from 48 to 49 (fun l wx => l = .int .i64 l2 ∧ wr = wx)
            case first =>
              by_cases hc : b1 % 8 = 3 ∨ b1 % 8 = 5
              · have e1 : tt = true := by rw [← HTT.out]; simpa using hc
                have e2 : wrap64 (-ll) = l2 := by rw [← Hl2.out]; unfold Sym.ch8; rw [if_pos (by omega)]; have := HO_ll.out; unfold wrap64; omega
                subst e1
                clear hc
                go_wp2_with fail
                go_meet
                exact ⟨by simp only [e2], rfl⟩
              · have e1 : tt = false := by rw [← HTT.out]; simpa using hc
                have e2 : ll = l2 := by rw [← Hl2.out]; unfold Sym.ch8; rw [if_neg (by omega)]; omega
                have E2 := shut e2
                subst e1
                clear hc e2
                go_wp2_with fail
                go_meet
                exact ⟨by rw [E2.out], rfl⟩
            obtain ⟨rfl, rfl⟩ := hcut
            have HO_l2 := shut (show l2 = 1 ∨ l2 = -1 by rw [← Hl2.out]; exact one_mul_one (ch8_one _) HO_ll.out)
            clear HTT
            have HI := shut (hi.out.even HJ.out.1 HPAR.out Hl2.out.symm)
            clear hi p1
            go_wp2_with fail
            go_roundg (29 - j)
            case measure => have := HJ.out; omega
            case rel => exact ⟨j + 1, a1 / 2, b1, d0, wrap64 (d1 * 2), l2, by have := HJ.out; omega, by have := HJ.out; omega, by go_num, rfl, rfl, rfl, congrArg _ (half_val HI.out.la), rfl, rfl, HI⟩
          have p1 : bits .and .u64 (a1 : Int) 1 = 1 := by rw [and_one a1 hi.out.la, show a1 % 2 = 1 from by omega]; rfl
          have HPAR : Shut (a1 % 2 = 1) := shut (by omega)
          clear hpar
          by_cases hle : b1 ≤ a1
          · have R := sub_run_le a1 b1 hi.out.la hi.out.lb hle
            obtain ⟨dd, hdd⟩ : ∃ dd, a1 - b1 = dd := ⟨_, rfl⟩
            rw [hdd] at R
            have HLE := shut (And.intro hle hdd); clear hle hdd
            obtain ⟨l2, hl1⟩ : ∃ l1, Sym.ch8 (b1 : Int) * ll = l1 := ⟨_, rfl⟩
            have Hl2 := shut hl1
            clear hl1
            go_upto_region 27 with fail
            go_cut [86] from 81 to 85 (fun t wx => t = .bool (decide (b1 % 8 = 3 ∨ b1 % 8 = 5)) ∧ wr = wx)
            case first =>
              by_cases r3 : b1 % 8 = 3
              · have s8 : bits .and .u64 (b1 : Int) 7 = 3 := by rw [and_seven b1 hi.out.lb, r3]; rfl
                have hD : decide (b1 % 8 = 3 ∨ b1 % 8 = 5) = true := by simp [r3]
                have HD := shut hD
                clear hD r3
                go_wp2_with fail
                go_meet
                exact ⟨by rw [HD.out], rfl⟩
              by_cases r5 : b1 % 8 = 5
              · have s8 : bits .and .u64 (b1 : Int) 7 = 5 := by rw [and_seven b1 hi.out.lb, r5]; rfl
                have hD : decide (b1 % 8 = 3 ∨ b1 % 8 = 5) = true := by simp [r5]
                have HD := shut hD
                clear hD r3 r5
                go_wp2_with fail
                go_meet
                exact ⟨by rw [HD.out], rfl⟩
              obtain ⟨r8, hr8⟩ : ∃ r8 : Int, ((b1 % 8 : Nat) : Int) = r8 := ⟨_, rfl⟩
              have s8 : bits .and .u64 (b1 : Int) 7 = r8 := by rw [and_seven b1 hi.out.lb, hr8]
              have t3 : (r8 == 3) = false := by simp; omega
              have t5 : (r8 == 5) = false := by simp; omega
              have hD : decide (b1 % 8 = 3 ∨ b1 % 8 = 5) = false := by simp [r3, r5]
              have HD := shut hD
              clear hr8 hD r3 r5
              go_wp2_with fail
              go_meet
              exact ⟨by rw [HD.out], rfl⟩
            obtain ⟨rfl, rfl⟩ := hcut
            obtain ⟨tt, htt⟩ : ∃ tt, decide (b1 % 8 = 3 ∨ b1 % 8 = 5) = tt := ⟨_, rfl⟩
            rw [htt]
            have HTT := shut htt
            clear htt
            go_upto_if 86 with fail
            go_cut [8] from 87 to 88 (fun l wx => l = .int .i64 l2 ∧ wr = wx)
            case first =>
              by_cases hc : b1 % 8 = 3 ∨ b1 % 8 = 5
              · have e1 : tt = true := by rw [← HTT.out]; simpa using hc
                have e2 : wrap64 (-ll) = l2 := by rw [← Hl2.out]; unfold Sym.ch8; rw [if_pos (by omega)]; have := HO_ll.out; unfold wrap64; omega
                subst e1
                clear hc
                go_wp2_with fail
                go_meet
                exact ⟨by simp only [e2], rfl⟩
              · have e1 : tt = false := by rw [← HTT.out]; simpa using hc
                have e2 : ll = l2 := by rw [← Hl2.out]; unfold Sym.ch8; rw [if_neg (by omega)]; omega
                have E2 := shut e2
                subst e1
                clear hc e2
                go_wp2_with fail
                go_meet
                exact ⟨by rw [E2.out], rfl⟩
            obtain ⟨rfl, rfl⟩ := hcut
            have HO_l2 := shut (show l2 = 1 ∨ l2 = -1 by rw [← Hl2.out]; exact one_mul_one (ch8_one _) HO_ll.out)
            clear HTT
            have HI := shut (hi.out.sub HJ.out.1 HPAR.out HLE.out.1 Hl2.out.symm)
            rw [HLE.out.2] at HI
            clear hi p1 R
            go_wp2_with fail
            go_roundg (29 - j)
            case measure => have := HJ.out; omega
            case rel => exact ⟨j + 1, dd / 2, b1, wrap64 (d0 - d1), wrap64 (d1 * 2), l2, by have := HJ.out; omega, by have := HJ.out; omega, by go_num, rfl, rfl, rfl, congrArg _ (half_val HI.out.la), rfl, rfl, HI⟩
          obtain ⟨ss, R⟩ := sub_run_lt a1 b1 hi.out.la hi.out.lb (by omega)
          have hw : IntKind.u64.wrap ((b1 : Int) - a1) = ((b1 - a1 : Nat) : Int) := by have := hi.out.lb; rw [u64wrap]; omega
          obtain ⟨dd, hdd⟩ : ∃ dd, b1 - a1 = dd := ⟨_, rfl⟩
          rw [hdd] at hw
          have HLE : Shut (a1 < b1 ∧ b1 - a1 = dd) := shut ⟨by omega, hdd⟩; clear hle hdd
          obtain ⟨l3, hl1⟩ : ∃ l1, Sym.ch4 (a1 : Int) (b1 : Int) * ll = l1 := ⟨_, rfl⟩
          have Hl3 := shut hl1
          clear hl1
          go_upto_region 19 with fail
          go_cut [65] from 58 to 64 (fun t wx => t = .bool (decide (a1 % 4 = 3 ∧ b1 % 4 = 3)) ∧ wr = wx)
          case first =>
            by_cases q1 : b1 % 4 = 3
            · have u1 : bits .and .u64 (b1 : Int) 3 = 3 := by rw [and_three b1 hi.out.lb, q1]; rfl
              by_cases q2 : a1 % 4 = 3
              · have u2 : bits .and .u64 (a1 : Int) 3 = 3 := by rw [and_three a1 hi.out.la, q2]; rfl
                have HD : Shut (decide (a1 % 4 = 3 ∧ b1 % 4 = 3) = true) := shut (by simp [q1, q2])
                clear q1 q2
                go_wp2_with fail
                go_meet
                exact ⟨by rw [HD.out], rfl⟩
              obtain ⟨r4, hr4⟩ : ∃ r4 : Int, ((a1 % 4 : Nat) : Int) = r4 := ⟨_, rfl⟩
              have u2 : bits .and .u64 (a1 : Int) 3 = r4 := by rw [and_three a1 hi.out.la, hr4]
              have u3 : (r4 == 3) = false := by simp; omega
              have HD : Shut (decide (a1 % 4 = 3 ∧ b1 % 4 = 3) = false) := shut (by simp [q2])
              clear q1 q2 hr4
              go_wp2_with fail
              go_meet
              exact ⟨by rw [HD.out], rfl⟩
            obtain ⟨r4, hr4⟩ : ∃ r4 : Int, ((b1 % 4 : Nat) : Int) = r4 := ⟨_, rfl⟩
            have u2 : bits .and .u64 (b1 : Int) 3 = r4 := by rw [and_three b1 hi.out.lb, hr4]
            have u3 : (r4 == 3) = false := by simp; omega
            have HD : Shut (decide (a1 % 4 = 3 ∧ b1 % 4 = 3) = false) := shut (by simp [q1])
            clear q1 hr4
            go_wp2_with fail
            go_meet
            exact ⟨by rw [HD.out], rfl⟩
          obtain ⟨rfl, rfl⟩ := hcut
          obtain ⟨tt, htt⟩ : ∃ tt, decide (a1 % 4 = 3 ∧ b1 % 4 = 3) = tt := ⟨_, rfl⟩
          rw [htt]
          have HTT := shut htt
          clear htt
          go_upto_if 65 with fail
          go_cut [8] from 66 to 67 (fun l wx => l = .int .i64 l3 ∧ wr = wx)
          case first =>
            by_cases hc : a1 % 4 = 3 ∧ b1 % 4 = 3
            · have e1 : tt = true := by rw [← HTT.out]; simpa using hc
              have e2 : wrap64 (-ll) = l3 := by rw [← Hl3.out]; unfold Sym.ch4; rw [if_pos (by omega)]; have := HO_ll.out; unfold wrap64; omega
              subst e1
              clear hc
              go_wp2_with fail
              go_meet
              exact ⟨by simp only [e2], rfl⟩
            · have e1 : tt = false := by rw [← HTT.out]; simpa using hc
              have e2 : ll = l3 := by rw [← Hl3.out]; unfold Sym.ch4; rw [if_neg (by omega)]; omega
              have E2 := shut e2
              subst e1
              clear hc e2
              go_wp2_with fail
              go_meet
              exact ⟨by rw [E2.out], rfl⟩
          obtain ⟨rfl, rfl⟩ := hcut
          have HO_l3 := shut (show l3 = 1 ∨ l3 = -1 by rw [← Hl3.out]; exact one_mul_one (ch4_one _ _) HO_ll.out)
          clear HTT
          obtain ⟨l2, hl1⟩ : ∃ l1, Sym.ch8 (a1 : Int) * l3 = l1 := ⟨_, rfl⟩
          have Hl2 := shut hl1
          clear hl1
          go_upto_region 27 with fail
          go_cut [86] from 81 to 85 (fun t wx => t = .bool (decide (a1 % 8 = 3 ∨ a1 % 8 = 5)) ∧ wr = wx)
          case first =>
            by_cases r3 : a1 % 8 = 3
            · have s8 : bits .and .u64 (a1 : Int) 7 = 3 := by rw [and_seven a1 hi.out.la, r3]; rfl
              have hD : decide (a1 % 8 = 3 ∨ a1 % 8 = 5) = true := by simp [r3]
              have HD := shut hD
              clear hD r3
              go_wp2_with fail
              go_meet
              exact ⟨by rw [HD.out], rfl⟩
            by_cases r5 : a1 % 8 = 5
            · have s8 : bits .and .u64 (a1 : Int) 7 = 5 := by rw [and_seven a1 hi.out.la, r5]; rfl
              have hD : decide (a1 % 8 = 3 ∨ a1 % 8 = 5) = true := by simp [r5]
              have HD := shut hD
              clear hD r3 r5
              go_wp2_with fail
              go_meet
              exact ⟨by rw [HD.out], rfl⟩
            obtain ⟨r8, hr8⟩ : ∃ r8 : Int, ((a1 % 8 : Nat) : Int) = r8 := ⟨_, rfl⟩
            have s8 : bits .and .u64 (a1 : Int) 7 = r8 := by rw [and_seven a1 hi.out.la, hr8]
            have t3 : (r8 == 3) = false := by simp; omega
            have t5 : (r8 == 5) = false := by simp; omega
            have hD : decide (a1 % 8 = 3 ∨ a1 % 8 = 5) = false := by simp [r3, r5]
            have HD := shut hD
            clear hr8 hD r3 r5
            go_wp2_with fail
            go_meet
            exact ⟨by rw [HD.out], rfl⟩
          obtain ⟨rfl, rfl⟩ := hcut
          obtain ⟨tt, htt⟩ : ∃ tt, decide (a1 % 8 = 3 ∨ a1 % 8 = 5) = tt := ⟨_, rfl⟩
          rw [htt]
          have HTT := shut htt
          clear htt
          go_upto_if 86 with fail
          go_cut [8] from 87 to 88 (fun l wx => l = .int .i64 l2 ∧ wr = wx)
          case first =>
            by_cases hc : a1 % 8 = 3 ∨ a1 % 8 = 5
            · have e1 : tt = true := by rw [← HTT.out]; simpa using hc
              have e2 : wrap64 (-l3) = l2 := by rw [← Hl2.out]; unfold Sym.ch8; rw [if_pos (by omega)]; have := HO_l3.out; unfold wrap64; omega
              subst e1
              clear hc
              go_wp2_with fail
              go_meet
              exact ⟨by simp only [e2], rfl⟩
            · have e1 : tt = false := by rw [← HTT.out]; simpa using hc
              have e2 : l3 = l2 := by rw [← Hl2.out]; unfold Sym.ch8; rw [if_neg (by omega)]; omega
              have E2 := shut e2
              subst e1
              clear hc e2
              go_wp2_with fail
              go_meet
              exact ⟨by rw [E2.out], rfl⟩
          obtain ⟨rfl, rfl⟩ := hcut
          have HO_l2 := shut (show l2 = 1 ∨ l2 = -1 by rw [← Hl2.out]; exact one_mul_one (ch8_one _) HO_l3.out)
          clear HTT
          have HI := shut (hi.out.swap (l' := l2) HJ.out.1 HPAR.out HLE.out.1 (by rw [Hl3.out, Hl2.out]))
          rw [HLE.out.2] at HI
          clear hi p1 R hw
          go_wp2_with fail
          go_roundg (29 - j)
          case measure => have := HJ.out; omega
          case rel => exact ⟨j + 1, dd / 2, a1, wrap64 (d1 - d0), wrap64 (d0 * 2), l2, by have := HJ.out; omega, by have := HJ.out; omega, by go_num, rfl, rfl, rfl, congrArg _ (half_val HI.out.la), rfl, rfl, HI⟩
        · obtain rfl : j = 30 := by omega
          obtain ⟨f0, g0, f1, g1, A1, B1, l1, ⟨e0, e1⟩, hbd, ⟨eA, eB⟩, htop, hless, hodd2, hl1, hone1, hsy1⟩ := inn_end hi.out HK.out.ha HK.out.hb HK.out.odd HA.out HN.out.1 HN.out.2.1 HN.out.2.2 HX.out.1 HX.out.2
          have D0 := shut (fun w => decompose d0 f0 g0 w e0 (by omega) (by omega) (by omega) (by omega))
          have D1 := shut (fun w => decompose d1 f1 g1 w e1 (by omega) (by omega) (by omega) (by omega))
          have HE := shut (And.intro hbd (And.intro eA (And.intro eB htop)))
          have HF := shut (And.intro hless (And.intro hodd2 (And.intro hone1 hsy1)))
          have HL := shut (And.intro hl1 (And.intro hi.out.one hi.out.lb))
          clear e0 e1 hbd eA eB htop hless hodd2 hl1 hone1 hsy1 hi hlt hj
          obtain ⟨oa0, oa1, oa2, oa3, oa4, oa5⟩ := own_cells HK.out.oa
          obtain ⟨os0, os1, os2, os3, os4, os5⟩ := own_cells HK.out.os
          obtain ⟨of0, of1, of2, of3, of4, of5⟩ := own_frozen HK.out.os
          go_wp2_with fail
          obtain ⟨W2, hW⟩ : ∃ W2, ((((((wr.setCell ⟨w.heap.size + 1 + 1, 0, none⟩ (.int .u64 (wd (A) 0 : Nat))).setCell ⟨w.heap.size + 1 + 1, 1, none⟩ (.int .u64 (wd (A) 1 : Nat))).setCell ⟨w.heap.size + 1 + 1, 2, none⟩ (.int .u64 (wd (A) 2 : Nat))).setCell ⟨w.heap.size + 1 + 1, 3, none⟩ (.int .u64 (wd (A) 3 : Nat))).setCell ⟨w.heap.size + 1 + 1, 4, none⟩ (.int .u64 (wd (A) 4 : Nat))).setCell ⟨w.heap.size + 1 + 1, 5, none⟩ (.int .u64 (wd (A) 5 : Nat))) = W2 := ⟨_, rfl⟩
          have HQ : Shut (Own W2 w.heap.size 6 A ∧ Own W2 (w.heap.size + 1) 6 B ∧ Own W2 (w.heap.size + 1 + 1) 6 A ∧ Now w.heap.size w W2) := shut (by
            have hbel : Below (w.heap.size + 1 + 1) wr W2 := by rw [← hW]; exact below_at (below_at (below_at (below_at (below_at (below_at (Below.refl _ _) 0 _) 1 _) 2 _) 3 _) 4 _) 5 _
            refine ⟨HK.out.oa.below hbel (by omega), HK.out.ob.below hbel (by omega), ?_, HK.out.now.below.trans (hbel.mono (by omega)), Nat.le_trans HK.out.now.size hbel.size⟩
            rw [← hW]
            exact own_stored wr (w.heap.size + 1 + 1) A _ _ _ _ _ _ os0 os1 os2 os3 os4 os5 of0 of1 of2 of3 of4 of5 HK.out.os.2)
          rw [hW]
          clear hW oa0 os0 of0 oa1 os1 of1 oa2 os2 of2 oa3 os3 of3 oa4 os4 of4 oa5 os5 of5
          have C0 := shut (comb_t (w.heap.size) 0 (w.heap.size + 1 + 1) 0 (w.heap.size + 1) 0 ((wd A 0 : Nat) : Int) ((wd A 1 : Nat) : Int) ((wd A 2 : Nat) : Int) ((wd A 3 : Nat) : Int) ((wd A 4 : Nat) : Int) ((wd A 5 : Nat) : Int) ((wd A 0 : Nat) : Int) ((wd A 1 : Nat) : Int) ((wd A 2 : Nat) : Int) ((wd A 3 : Nat) : Int) ((wd A 4 : Nat) : Int) ((wd A 5 : Nat) : Int) ((wd B 0 : Nat) : Int) ((wd B 1 : Nat) : Int) ((wd B 2 : Nat) : Int) ((wd B 3 : Nat) : Int) ((wd B 4 : Nat) : Int) ((wd B 5 : Nat) : Int) f0 g0 W2 (by omega) HQ.out.1.2 HQ.out.2.2.1.2 HQ.out.2.1.2 (by have := HE.out; omega) (by have := HE.out; omega) (wd_nat _ _) (wd_nat _ _) (wd_nat _ _) (wd_nat _ _) (wd_nat _ _) (wd_nat _ _) (wd_nat _ _) (wd_nat _ _) (wd_nat _ _) (wd_nat _ _) (wd_nat _ _) (wd_nat _ _) (by have := (HQ.out.1.1 0 (by decide)).1; simpa using this) (by have := (HQ.out.1.1 1 (by decide)).1; simpa using this) (by have := (HQ.out.1.1 2 (by decide)).1; simpa using this) (by have := (HQ.out.1.1 3 (by decide)).1; simpa using this) (by have := (HQ.out.1.1 4 (by decide)).1; simpa using this) (by have := (HQ.out.1.1 5 (by decide)).1; simpa using this) (by have := (HQ.out.2.2.1.1 0 (by decide)).1; simpa using this) (by have := (HQ.out.2.2.1.1 1 (by decide)).1; simpa using this) (by have := (HQ.out.2.2.1.1 2 (by decide)).1; simpa using this) (by have := (HQ.out.2.2.1.1 3 (by decide)).1; simpa using this) (by have := (HQ.out.2.2.1.1 4 (by decide)).1; simpa using this) (by have := (HQ.out.2.2.1.1 5 (by decide)).1; simpa using this) (by have := (HQ.out.2.1.1 0 (by decide)).1; simpa using this) (by have := (HQ.out.2.1.1 1 (by decide)).1; simpa using this) (by have := (HQ.out.2.1.1 2 (by decide)).1; simpa using this) (by have := (HQ.out.2.1.1 3 (by decide)).1; simpa using this) (by have := (HQ.out.2.1.1 4 (by decide)).1; simpa using this) (by have := (HQ.out.2.1.1 5 (by decide)).1; simpa using this) (by have := (HQ.out.1.1 0 (by decide)).2; simpa using this) (by have := (HQ.out.1.1 1 (by decide)).2; simpa using this) (by have := (HQ.out.1.1 2 (by decide)).2; simpa using this) (by have := (HQ.out.1.1 3 (by decide)).2; simpa using this) (by have := (HQ.out.1.1 4 (by decide)).2; simpa using this) (by have := (HQ.out.1.1 5 (by decide)).2; simpa using this))
          refine (D0.out _).mono ?_
          rintro e w' ⟨rfl, rfl⟩
          go_wp2_with fail
          refine C0.out.mono ?_
          rintro e w3 ⟨p0, p1, p2, p3, p4, p5, ph, rfl, hwd, ⟨k, hk⟩, hc, hg⟩
          have nA : num ((wd A 0 : Nat) : Int) ((wd A 1 : Nat) : Int) ((wd A 2 : Nat) : Int) ((wd A 3 : Nat) : Int) ((wd A 4 : Nat) : Int) ((wd A 5 : Nat) : Int) = (A : Int) := num_wd HK.out.ha
          have nB : num ((wd B 0 : Nat) : Int) ((wd B 1 : Nat) : Int) ((wd B 2 : Nat) : Int) ((wd B 3 : Nat) : Int) ((wd B 4 : Nat) : Int) ((wd B 5 : Nat) : Int) = (B : Int) := num_wd HK.out.hb
          have hk2 := hk
          rw [nA, nB, HE.out.2.1] at hk2
          have HP := shut (And.intro hwd (And.intro hk2 (And.intro hc hg)))
          have HNN := shut (And.intro nA nB)
          have HQ3 : Shut (Own w3 (w.heap.size + 1) 6 B ∧ Own w3 (w.heap.size + 1 + 1) 6 A ∧ Now w.heap.size w w3 ∧ w.heap.size < w3.heap.size) := shut ⟨HQ.out.2.1.grows hg (by omega), HQ.out.2.2.1.grows hg (by omega), HQ.out.2.2.2.grows hg (Nat.le_refl _), Nat.lt_of_lt_of_le HQ.out.1.2 hg.size⟩
          have HF3 : Shut (w3.frozen? ⟨w.heap.size, 0, none⟩ = false ∧ w3.frozen? ⟨w.heap.size, 1, none⟩ = false ∧ w3.frozen? ⟨w.heap.size, 2, none⟩ = false ∧ w3.frozen? ⟨w.heap.size, 3, none⟩ = false ∧ w3.frozen? ⟨w.heap.size, 4, none⟩ = false ∧ w3.frozen? ⟨w.heap.size, 5, none⟩ = false) := shut ⟨(hg.frozen _ _ HQ.out.1.2).trans (HQ.out.1.1 0 (by decide)).2, (hg.frozen _ _ HQ.out.1.2).trans (HQ.out.1.1 1 (by decide)).2, (hg.frozen _ _ HQ.out.1.2).trans (HQ.out.1.1 2 (by decide)).2, (hg.frozen _ _ HQ.out.1.2).trans (HQ.out.1.1 3 (by decide)).2, (hg.frozen _ _ HQ.out.1.2).trans (HQ.out.1.1 4 (by decide)).2, (hg.frozen _ _ HQ.out.1.2).trans (HQ.out.1.1 5 (by decide)).2⟩
          clear hwd hk hk2 hc hg nA nB C0 D0
          obtain ⟨M, hM⟩ : ∃ M, A1.natAbs = M := ⟨_, rfl⟩
          obtain ⟨N, hN⟩ : ∃ N, 1073741824 * M = N := ⟨_, rfl⟩
          have HMN := shut (And.intro hM hN)
          clear hM hN
          go_upto_if 103 with fail
          go_cut [8, 17] from 101 to 110 (fun l ah wx => l = .int .i64 l1 ∧ ah = .int .u64 ((wd N 6 : Nat) : Int) ∧ Shut (Own wx w.heap.size 6 N ∧ Own wx (w.heap.size + 1) 6 B ∧ Own wx (w.heap.size + 1 + 1) 6 A ∧ Now w.heap.size w wx))
          case first =>
            by_cases hneg : A1 < 0
            · obtain ⟨s1, s2⟩ := comb_neg (HP.out.1.1) (HP.out.1.2.1) (HP.out.1.2.2.1) (HP.out.1.2.2.2.1) (HP.out.1.2.2.2.2.1) (HP.out.1.2.2.2.2.2.1) (HP.out.1.2.2.2.2.2.2) HP.out.2.1 HE.out.2.2.2.1 hneg
              have S2 := shut @s2
              have NG := shut (negl_t w.heap.size 0 p0 p1 p2 p3 p4 p5 ph w3 (HP.out.1.1) (HP.out.1.2.1) (HP.out.1.2.2.1) (HP.out.1.2.2.2.1) (HP.out.1.2.2.2.2.1) (HP.out.1.2.2.2.2.2.1) (HP.out.1.2.2.2.2.2.2) (by have := (HP.out.2.2.1.1); simpa using this) (by have := (HP.out.2.2.1.2.1); simpa using this) (by have := (HP.out.2.2.1.2.2.1); simpa using this) (by have := (HP.out.2.2.1.2.2.2.1); simpa using this) (by have := (HP.out.2.2.1.2.2.2.2.1); simpa using this) (by have := (HP.out.2.2.1.2.2.2.2.2); simpa using this) (by have := (HF3.out.1); simpa using this) (by have := (HF3.out.2.1); simpa using this) (by have := (HF3.out.2.2.1); simpa using this) (by have := (HF3.out.2.2.2.1); simpa using this) (by have := (HF3.out.2.2.2.2.1); simpa using this) (by have := (HF3.out.2.2.2.2.2); simpa using this))
              by_cases h4 : b1 % 4 = 3
              · have u1 : bits .and .u64 (b1 : Int) 3 = 3 := by rw [and_three b1 HL.out.2.2, h4]; rfl
                have hl : wrap64 (-ll) = l1 := by rw [HL.out.1, if_pos ⟨hneg, h4⟩]; have := HL.out.2.1; unfold wrap64; omega
                clear hneg h4 s2
                go_wp2_with fail
                clear s1
                refine NG.out.mono ?_
                rintro e w4 ⟨q0, q1, q2, q3, q4, q5, qh, rfl, hwd, ⟨k2, hk2⟩, hc, ht⟩
                obtain ⟨⟨eq0, eq1, eq2, eq3, eq4, eq5⟩, eh⟩ := S2.out (hwd.1) (hwd.2.1) (hwd.2.2.1) (hwd.2.2.2.1) (hwd.2.2.2.2.1) (hwd.2.2.2.2.2.1) (hwd.2.2.2.2.2.2) hk2
                rw [HMN.out.1, HMN.out.2] at eh eq0 eq1 eq2 eq3 eq4 eq5
                subst eh eq0 eq1 eq2 eq3 eq4 eq5
                have HR : Shut (Own w4 w.heap.size 6 N ∧ Own w4 (w.heap.size + 1) 6 B ∧ Own w4 (w.heap.size + 1 + 1) 6 A ∧ Now w.heap.size w w4) := shut ⟨own_of hc ⟨(ht.frozen _ _).trans (HF3.out.1), (ht.frozen _ _).trans (HF3.out.2.1), (ht.frozen _ _).trans (HF3.out.2.2.1), (ht.frozen _ _).trans (HF3.out.2.2.2.1), (ht.frozen _ _).trans (HF3.out.2.2.2.2.1), (ht.frozen _ _).trans (HF3.out.2.2.2.2.2)⟩ (by rw [ht.size]; exact HQ3.out.2.2.2), HQ3.out.1.grows ht.grows (by omega), HQ3.out.2.1.grows ht.grows (by omega), HQ3.out.2.2.1.grows ht.grows (Nat.le_refl _)⟩
                clear hwd hk2 hc ht
                go_wp2_with fail
                go_meet
                exact ⟨by simp only [hl], rfl, HR⟩
              · obtain ⟨r4, hr4⟩ : ∃ r4 : Int, ((b1 % 4 : Nat) : Int) = r4 := ⟨_, rfl⟩
                have u1 : bits .and .u64 (b1 : Int) 3 = r4 := by rw [and_three b1 HL.out.2.2, hr4]
                have u2 : (r4 == 3) = false := by simp; omega
                have hl : ll = l1 := by rw [HL.out.1, if_neg (fun h => h4 h.2)]
                have Hl := shut hl
                clear hneg h4 s2 hr4 hl
                go_wp2_with fail
                clear s1
                refine NG.out.mono ?_
                rintro e w4 ⟨q0, q1, q2, q3, q4, q5, qh, rfl, hwd, ⟨k2, hk2⟩, hc, ht⟩
                obtain ⟨⟨eq0, eq1, eq2, eq3, eq4, eq5⟩, eh⟩ := S2.out (hwd.1) (hwd.2.1) (hwd.2.2.1) (hwd.2.2.2.1) (hwd.2.2.2.2.1) (hwd.2.2.2.2.2.1) (hwd.2.2.2.2.2.2) hk2
                rw [HMN.out.1, HMN.out.2] at eh eq0 eq1 eq2 eq3 eq4 eq5
                subst eh eq0 eq1 eq2 eq3 eq4 eq5
                have HR : Shut (Own w4 w.heap.size 6 N ∧ Own w4 (w.heap.size + 1) 6 B ∧ Own w4 (w.heap.size + 1 + 1) 6 A ∧ Now w.heap.size w w4) := shut ⟨own_of hc ⟨(ht.frozen _ _).trans (HF3.out.1), (ht.frozen _ _).trans (HF3.out.2.1), (ht.frozen _ _).trans (HF3.out.2.2.1), (ht.frozen _ _).trans (HF3.out.2.2.2.1), (ht.frozen _ _).trans (HF3.out.2.2.2.2.1), (ht.frozen _ _).trans (HF3.out.2.2.2.2.2)⟩ (by rw [ht.size]; exact HQ3.out.2.2.2), HQ3.out.1.grows ht.grows (by omega), HQ3.out.2.1.grows ht.grows (by omega), HQ3.out.2.2.1.grows ht.grows (Nat.le_refl _)⟩
                clear hwd hk2 hc ht
                go_wp2_with fail
                go_meet
                exact ⟨by rw [← Hl.out], rfl, HR⟩
            · obtain ⟨s1, ⟨eq0, eq1, eq2, eq3, eq4, eq5⟩, eh⟩ := comb_pos (HP.out.1.1) (HP.out.1.2.1) (HP.out.1.2.2.1) (HP.out.1.2.2.2.1) (HP.out.1.2.2.2.2.1) (HP.out.1.2.2.2.2.2.1) (HP.out.1.2.2.2.2.2.2) HP.out.2.1 HE.out.2.2.2.1 hneg
              have Hl : Shut (ll = l1) := shut (by rw [HL.out.1, if_neg (fun h => hneg h.1)])
              rw [HMN.out.1, HMN.out.2] at eh eq0 eq1 eq2 eq3 eq4 eq5
              subst eh eq0 eq1 eq2 eq3 eq4 eq5
              have HR : Shut (Own w3 w.heap.size 6 N ∧ Own w3 (w.heap.size + 1) 6 B ∧ Own w3 (w.heap.size + 1 + 1) 6 A ∧ Now w.heap.size w w3) := shut ⟨own_of HP.out.2.2.1 HF3.out HQ3.out.2.2.2, HQ3.out.1, HQ3.out.2.1, HQ3.out.2.2.1⟩
              clear hneg
              go_wp2_with fail
              go_meet
              exact ⟨by rw [← Hl.out], rfl, HR⟩
          case rest =>
            obtain ⟨rfl, rfl, hq⟩ := hcut
            obtain ⟨xc0, xc1, xc2, xc3, xc4, xc5⟩ := own_cells hq.out.1
            obtain ⟨xf0, xf1, xf2, xf3, xf4, xf5⟩ := own_frozen hq.out.1
            have xs0 := shift_word M 0
            rw [HMN.out.2] at xs0
            have xs1 := shift_word M 1
            rw [HMN.out.2] at xs1
            have xs2 := shift_word M 2
            rw [HMN.out.2] at xs2
            have xs3 := shift_word M 3
            rw [HMN.out.2] at xs3
            have xs4 := shift_word M 4
            rw [HMN.out.2] at xs4
            have xs5 := shift_word M 5
            rw [HMN.out.2] at xs5
            go_wp2_with fail
            obtain ⟨W5, hW⟩ : ∃ W, ((((((wc.setCell ⟨w.heap.size, 0, none⟩ (.int .u64 (wd (M) 0 : Nat))).setCell ⟨w.heap.size, 1, none⟩ (.int .u64 (wd (M) 1 : Nat))).setCell ⟨w.heap.size, 2, none⟩ (.int .u64 (wd (M) 2 : Nat))).setCell ⟨w.heap.size, 3, none⟩ (.int .u64 (wd (M) 3 : Nat))).setCell ⟨w.heap.size, 4, none⟩ (.int .u64 (wd (M) 4 : Nat))).setCell ⟨w.heap.size, 5, none⟩ (.int .u64 (wd (M) 5 : Nat))) = W := ⟨_, rfl⟩
            have tur : Turns (w.heap.size) wc W5 := by rw [← hW]; exact ((((((Turns.refl _ _).setAt 0 _).setAt 1 _).setAt 2 _).setAt 3 _).setAt 4 _).setAt 5 _
            have HO : Shut (Own W5 (w.heap.size) 6 M) := shut (by rw [← hW]; exact own_stored wc (w.heap.size) M _ _ _ _ _ _ xc0 xc1 xc2 xc3 xc4 xc5 xf0 xf1 xf2 xf3 xf4 xf5 hq.out.1.2)
            have HT := shut tur
            rw [hW]
            clear hW tur xc0 xf0 xs0 xc1 xf1 xs1 xc2 xf2 xs2 xc3 xf3 xs3 xc4 xf4 xs4 xc5 xf5 xs5
            have HQ5 : Shut (Own W5 w.heap.size 6 M ∧ Own W5 (w.heap.size + 1) 6 B ∧ Own W5 (w.heap.size + 1 + 1) 6 A ∧ Now w.heap.size w W5) := shut ⟨HO.out, hq.out.2.1.grows HT.out.grows (by omega), hq.out.2.2.1.grows HT.out.grows (by omega), hq.out.2.2.2.grows HT.out.grows (Nat.le_refl _)⟩
            clear HO HT hq HP HQ3 HF3 HQ
            have C1 := shut (comb_t (w.heap.size + 1) 0 (w.heap.size + 1 + 1) 0 (w.heap.size + 1) 0 ((wd B 0 : Nat) : Int) ((wd B 1 : Nat) : Int) ((wd B 2 : Nat) : Int) ((wd B 3 : Nat) : Int) ((wd B 4 : Nat) : Int) ((wd B 5 : Nat) : Int) ((wd A 0 : Nat) : Int) ((wd A 1 : Nat) : Int) ((wd A 2 : Nat) : Int) ((wd A 3 : Nat) : Int) ((wd A 4 : Nat) : Int) ((wd A 5 : Nat) : Int) ((wd B 0 : Nat) : Int) ((wd B 1 : Nat) : Int) ((wd B 2 : Nat) : Int) ((wd B 3 : Nat) : Int) ((wd B 4 : Nat) : Int) ((wd B 5 : Nat) : Int) f1 g1 W5 (by omega) HQ5.out.2.1.2 HQ5.out.2.2.1.2 HQ5.out.2.1.2 (by have := HE.out; omega) (by have := HE.out; omega) (wd_nat _ _) (wd_nat _ _) (wd_nat _ _) (wd_nat _ _) (wd_nat _ _) (wd_nat _ _) (wd_nat _ _) (wd_nat _ _) (wd_nat _ _) (wd_nat _ _) (wd_nat _ _) (wd_nat _ _) (by have := (HQ5.out.2.1.1 0 (by decide)).1; simpa using this) (by have := (HQ5.out.2.1.1 1 (by decide)).1; simpa using this) (by have := (HQ5.out.2.1.1 2 (by decide)).1; simpa using this) (by have := (HQ5.out.2.1.1 3 (by decide)).1; simpa using this) (by have := (HQ5.out.2.1.1 4 (by decide)).1; simpa using this) (by have := (HQ5.out.2.1.1 5 (by decide)).1; simpa using this) (by have := (HQ5.out.2.2.1.1 0 (by decide)).1; simpa using this) (by have := (HQ5.out.2.2.1.1 1 (by decide)).1; simpa using this) (by have := (HQ5.out.2.2.1.1 2 (by decide)).1; simpa using this) (by have := (HQ5.out.2.2.1.1 3 (by decide)).1; simpa using this) (by have := (HQ5.out.2.2.1.1 4 (by decide)).1; simpa using this) (by have := (HQ5.out.2.2.1.1 5 (by decide)).1; simpa using this) (by have := (HQ5.out.2.1.1 0 (by decide)).1; simpa using this) (by have := (HQ5.out.2.1.1 1 (by decide)).1; simpa using this) (by have := (HQ5.out.2.1.1 2 (by decide)).1; simpa using this) (by have := (HQ5.out.2.1.1 3 (by decide)).1; simpa using this) (by have := (HQ5.out.2.1.1 4 (by decide)).1; simpa using this) (by have := (HQ5.out.2.1.1 5 (by decide)).1; simpa using this) (by have := (HQ5.out.2.1.1 0 (by decide)).2; simpa using this) (by have := (HQ5.out.2.1.1 1 (by decide)).2; simpa using this) (by have := (HQ5.out.2.1.1 2 (by decide)).2; simpa using this) (by have := (HQ5.out.2.1.1 3 (by decide)).2; simpa using this) (by have := (HQ5.out.2.1.1 4 (by decide)).2; simpa using this) (by have := (HQ5.out.2.1.1 5 (by decide)).2; simpa using this))
            refine (D1.out _).mono ?_
            rintro e w' ⟨rfl, rfl⟩
            go_wp2_with fail
            refine C1.out.mono ?_
            rintro e w6 ⟨v0, v1, v2, v3, v4, v5, vh, rfl, hwd, ⟨k, hk⟩, hc, hg⟩
            have hk2 := hk
            rw [HNN.out.1, HNN.out.2, HE.out.2.2.1] at hk2
            have HP := shut (And.intro hwd (And.intro hk2 (And.intro hc hg)))
            have HQ6 : Shut (Own w6 w.heap.size 6 M ∧ Own w6 (w.heap.size + 1 + 1) 6 A ∧ Now w.heap.size w w6 ∧ w.heap.size + 1 < w6.heap.size) := shut ⟨HQ5.out.1.grows hg (by omega), HQ5.out.2.2.1.grows hg (by omega), HQ5.out.2.2.2.grows hg (by omega), Nat.lt_of_lt_of_le HQ5.out.2.1.2 hg.size⟩
            have HF6 : Shut (w6.frozen? ⟨w.heap.size + 1, 0, none⟩ = false ∧ w6.frozen? ⟨w.heap.size + 1, 1, none⟩ = false ∧ w6.frozen? ⟨w.heap.size + 1, 2, none⟩ = false ∧ w6.frozen? ⟨w.heap.size + 1, 3, none⟩ = false ∧ w6.frozen? ⟨w.heap.size + 1, 4, none⟩ = false ∧ w6.frozen? ⟨w.heap.size + 1, 5, none⟩ = false) := shut ⟨(hg.frozen _ _ HQ5.out.2.1.2).trans (HQ5.out.2.1.1 0 (by decide)).2, (hg.frozen _ _ HQ5.out.2.1.2).trans (HQ5.out.2.1.1 1 (by decide)).2, (hg.frozen _ _ HQ5.out.2.1.2).trans (HQ5.out.2.1.1 2 (by decide)).2, (hg.frozen _ _ HQ5.out.2.1.2).trans (HQ5.out.2.1.1 3 (by decide)).2, (hg.frozen _ _ HQ5.out.2.1.2).trans (HQ5.out.2.1.1 4 (by decide)).2, (hg.frozen _ _ HQ5.out.2.1.2).trans (HQ5.out.2.1.1 5 (by decide)).2⟩
            clear hwd hk hk2 hc hg C1 D1
            obtain ⟨M2, hM⟩ : ∃ M, B1.natAbs = M := ⟨_, rfl⟩
            obtain ⟨N2, hN⟩ : ∃ N, 1073741824 * M2 = N := ⟨_, rfl⟩
            have HMN2 := shut (And.intro hM hN)
            clear hM hN
            go_upto_if 168 with fail
            go_cut [19] from 166 to 170 (fun bh wx => bh = .int .u64 ((wd N2 6 : Nat) : Int) ∧ Shut (Own wx w.heap.size 6 M ∧ Own wx (w.heap.size + 1) 6 N2 ∧ Own wx (w.heap.size + 1 + 1) 6 A ∧ Now w.heap.size w wx))
            case first =>
              by_cases hneg : B1 < 0
              · obtain ⟨s1, s2⟩ := comb_neg (HP.out.1.1) (HP.out.1.2.1) (HP.out.1.2.2.1) (HP.out.1.2.2.2.1) (HP.out.1.2.2.2.2.1) (HP.out.1.2.2.2.2.2.1) (HP.out.1.2.2.2.2.2.2) HP.out.2.1 HE.out.2.2.2.2 hneg
                have S2 := shut @s2
                have NG := shut (negl_t (w.heap.size + 1) 0 v0 v1 v2 v3 v4 v5 vh w6 (HP.out.1.1) (HP.out.1.2.1) (HP.out.1.2.2.1) (HP.out.1.2.2.2.1) (HP.out.1.2.2.2.2.1) (HP.out.1.2.2.2.2.2.1) (HP.out.1.2.2.2.2.2.2) (by have := (HP.out.2.2.1.1); simpa using this) (by have := (HP.out.2.2.1.2.1); simpa using this) (by have := (HP.out.2.2.1.2.2.1); simpa using this) (by have := (HP.out.2.2.1.2.2.2.1); simpa using this) (by have := (HP.out.2.2.1.2.2.2.2.1); simpa using this) (by have := (HP.out.2.2.1.2.2.2.2.2); simpa using this) (by have := (HF6.out.1); simpa using this) (by have := (HF6.out.2.1); simpa using this) (by have := (HF6.out.2.2.1); simpa using this) (by have := (HF6.out.2.2.2.1); simpa using this) (by have := (HF6.out.2.2.2.2.1); simpa using this) (by have := (HF6.out.2.2.2.2.2); simpa using this))
                clear hneg s2
                go_wp2_with fail
                clear s1
                refine NG.out.mono ?_
                rintro e w7 ⟨q0, q1, q2, q3, q4, q5, qh, rfl, hwd, ⟨k2, hk2⟩, hc, ht⟩
                obtain ⟨⟨eq0, eq1, eq2, eq3, eq4, eq5⟩, eh⟩ := S2.out (hwd.1) (hwd.2.1) (hwd.2.2.1) (hwd.2.2.2.1) (hwd.2.2.2.2.1) (hwd.2.2.2.2.2.1) (hwd.2.2.2.2.2.2) hk2
                rw [HMN2.out.1, HMN2.out.2] at eh eq0 eq1 eq2 eq3 eq4 eq5
                subst eh eq0 eq1 eq2 eq3 eq4 eq5
                have HR : Shut (Own w7 w.heap.size 6 M ∧ Own w7 (w.heap.size + 1) 6 N2 ∧ Own w7 (w.heap.size + 1 + 1) 6 A ∧ Now w.heap.size w w7) := shut ⟨HQ6.out.1.grows ht.grows (by omega), own_of hc ⟨(ht.frozen _ _).trans (HF6.out.1), (ht.frozen _ _).trans (HF6.out.2.1), (ht.frozen _ _).trans (HF6.out.2.2.1), (ht.frozen _ _).trans (HF6.out.2.2.2.1), (ht.frozen _ _).trans (HF6.out.2.2.2.2.1), (ht.frozen _ _).trans (HF6.out.2.2.2.2.2)⟩ (by rw [ht.size]; exact HQ6.out.2.2.2), HQ6.out.2.1.grows ht.grows (by omega), HQ6.out.2.2.1.grows ht.grows (by omega)⟩
                clear hwd hk2 hc ht
                go_wp2_with fail
                go_meet
                exact ⟨rfl, HR⟩
              · obtain ⟨s1, ⟨eq0, eq1, eq2, eq3, eq4, eq5⟩, eh⟩ := comb_pos (HP.out.1.1) (HP.out.1.2.1) (HP.out.1.2.2.1) (HP.out.1.2.2.2.1) (HP.out.1.2.2.2.2.1) (HP.out.1.2.2.2.2.2.1) (HP.out.1.2.2.2.2.2.2) HP.out.2.1 HE.out.2.2.2.2 hneg
                rw [HMN2.out.1, HMN2.out.2] at eh eq0 eq1 eq2 eq3 eq4 eq5
                subst eh eq0 eq1 eq2 eq3 eq4 eq5
                have HR : Shut (Own w6 w.heap.size 6 M ∧ Own w6 (w.heap.size + 1) 6 N2 ∧ Own w6 (w.heap.size + 1 + 1) 6 A ∧ Now w.heap.size w w6) := shut ⟨HQ6.out.1, own_of HP.out.2.2.1 HF6.out HQ6.out.2.2.2, HQ6.out.2.1, HQ6.out.2.2.1⟩
                clear hneg
                go_wp2_with fail
                go_meet
                exact ⟨rfl, HR⟩
            case rest =>
              obtain ⟨rfl, hq⟩ := hcut
              obtain ⟨xc0, xc1, xc2, xc3, xc4, xc5⟩ := own_cells hq.out.2.1
              obtain ⟨xf0, xf1, xf2, xf3, xf4, xf5⟩ := own_frozen hq.out.2.1
              have xs0 := shift_word M2 0
              rw [HMN2.out.2] at xs0
              have xs1 := shift_word M2 1
              rw [HMN2.out.2] at xs1
              have xs2 := shift_word M2 2
              rw [HMN2.out.2] at xs2
              have xs3 := shift_word M2 3
              rw [HMN2.out.2] at xs3
              have xs4 := shift_word M2 4
              rw [HMN2.out.2] at xs4
              have xs5 := shift_word M2 5
              rw [HMN2.out.2] at xs5
              have HKB : Shut (A1.natAbs = M ∧ B1.natAbs = M2) := shut ⟨HMN.out.1, HMN2.out.1⟩
              have tur : Turns (w.heap.size + 1) wc (((((((wc.setCell ⟨w.heap.size + 1, 0, none⟩ (.int .u64 (wd (M2) 0 : Nat))).setCell ⟨w.heap.size + 1, 1, none⟩ (.int .u64 (wd (M2) 1 : Nat))).setCell ⟨w.heap.size + 1, 2, none⟩ (.int .u64 (wd (M2) 2 : Nat))).setCell ⟨w.heap.size + 1, 3, none⟩ (.int .u64 (wd (M2) 3 : Nat))).setCell ⟨w.heap.size + 1, 4, none⟩ (.int .u64 (wd (M2) 4 : Nat))).setCell ⟨w.heap.size + 1, 5, none⟩ (.int .u64 (wd (M2) 5 : Nat)))) := ((((((Turns.refl _ _).setAt 0 _).setAt 1 _).setAt 2 _).setAt 3 _).setAt 4 _).setAt 5 _
              have ho := own_stored wc (w.heap.size + 1) M2 _ _ _ _ _ _ xc0 xc1 xc2 xc3 xc4 xc5 xf0 xf1 xf2 xf3 xf4 xf5 hq.out.2.1.2
              have HKE : Shut (Keep w Z M M2 A (M + M2) l1 (((((((wc.setCell ⟨w.heap.size + 1, 0, none⟩ (.int .u64 (wd (M2) 0 : Nat))).setCell ⟨w.heap.size + 1, 1, none⟩ (.int .u64 (wd (M2) 1 : Nat))).setCell ⟨w.heap.size + 1, 2, none⟩ (.int .u64 (wd (M2) 2 : Nat))).setCell ⟨w.heap.size + 1, 3, none⟩ (.int .u64 (wd (M2) 3 : Nat))).setCell ⟨w.heap.size + 1, 4, none⟩ (.int .u64 (wd (M2) 4 : Nat))).setCell ⟨w.heap.size + 1, 5, none⟩ (.int .u64 (wd (M2) 5 : Nat))))) := shut {
                now := hq.out.2.2.2.grows tur.grows (by omega)
                oa := hq.out.1.grows tur.grows (by omega)
                ob := ho
                os := hq.out.2.2.1.grows tur.grows (by omega)
                ha := by rw [← HKB.out.1]; exact HE.out.2.2.2.1
                hb := by rw [← HKB.out.2]; exact HE.out.2.2.2.2
                odd := by rw [← HKB.out.2]; exact HF.out.2.1
                one := HF.out.2.2.1
                sy := by rw [← HKB.out.1, ← HKB.out.2]; exact HF.out.2.2.2
                sum := Nat.le_refl _ }
              clear tur ho
              go_wp2_with fail
              go_roundg (M + M2)
              case measure => have h1 := HF.out.1; have h2 := HK.out.sum; have h3 := HKB.out.1; have h4 := HKB.out.2; omega
              case rel => exact ⟨M, M2, A, l1, rfl, HKE⟩
end Go.Proofs.Ytfdmgelaiigocaa
