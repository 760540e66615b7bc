/- Contract of the field's symbol: its walk. -/
import Derived.Test.YtgcdhkbhobnojaaLeg00
namespace Go.Proofs.Ytgcdhkbhobnojaa
open Go.RowKit Num

set_option maxRecDepth 100000 in
set_option maxHeartbeats 4000000 in
theorem elegendre (b o X : Nat) (w : World) (hX : X < 115792089237316195423570985008687907853269984665640564039457584007913129639936) (_hb : b < w.heap.size) (h0 : w.cell? ⟨b, o, none⟩ = some (.int .u64 (wd X 0 : Nat))) (h1 : w.cell? ⟨b, o + 1, none⟩ = some (.int .u64 (wd X 1 : Nat))) (h2 : w.cell? ⟨b, o + 2, none⟩ = some (.int .u64 (wd X 2 : Nat))) (h3 : w.cell? ⟨b, o + 3, none⟩ = some (.int .u64 (wd X 3 : Nat))) : Calls Try.prog 14 #[.pointer (some ⟨b, o, none⟩)] w (Keeps w (.int .i64 (Sym.K (X : Int) 21888242871839275222246405745257275088548364400416034343698204186575808495617))) := by
  obtain ⟨Z, hZ⟩ : ∃ Z, Sym.K (X : Int) 21888242871839275222246405745257275088548364400416034343698204186575808495617 = Z := ⟨_, rfl⟩
  rw [hZ]
  have HK : Shut (Keep w Z X 21888242871839275222246405745257275088548364400416034343698204186575808495617 0 (X + 21888242871839275222246405745257275088548364400416034343698204186575808495617) 1 (((w.alloc (.cells #[(.int .u64 (wd (X) 0 : Nat)), (.int .u64 (wd (X) 1 : Nat)), (.int .u64 (wd (X) 2 : Nat)), (.int .u64 (wd (X) 3 : Nat))] 32)).alloc (.cells #[.int .u64 4891460686036598785, .int .u64 2896914383306846353, .int .u64 13281191951274694749, .int .u64 3486998266802970665] 32)).alloc (.cells #[.int .u64 0, .int .u64 0, .int .u64 0, .int .u64 0] 32))) := shut {
    now := (((Now.start (Nat.le_refl _)).alloc _).alloc _).alloc _
    oa := own_alloc (own_alloc (own_new w X 32) _) _
    ob := by
      have := own_alloc (own_new (w.alloc (.cells #[(.int .u64 (wd (X) 0 : Nat)), (.int .u64 (wd (X) 1 : Nat)), (.int .u64 (wd (X) 2 : Nat)), (.int .u64 (wd (X) 3 : Nat))] 32)) 21888242871839275222246405745257275088548364400416034343698204186575808495617 32) (.cells #[.int .u64 0, .int .u64 0, .int .u64 0, .int .u64 0] 32)
      rw [← wdP0, ← wdP1, ← wdP2, ← wdP3] at this; simpa using this
    os := by
      have := own_new ((w.alloc (.cells #[(.int .u64 (wd (X) 0 : Nat)), (.int .u64 (wd (X) 1 : Nat)), (.int .u64 (wd (X) 2 : Nat)), (.int .u64 (wd (X) 3 : Nat))] 32)).alloc (.cells #[.int .u64 4891460686036598785, .int .u64 2896914383306846353, .int .u64 13281191951274694749, .int .u64 3486998266802970665] 32)) 0 32
      simpa [wd_zero] using this
    ha := hX
    hb := by decide
    odd := by decide
    one := Or.inl rfl
    sy := by rw [Int.one_mul]; exact hZ
    sum := Nat.le_refl _ }
  clear hX hZ
  go_enter Try.func14, Try.ntmps14
  go_wp2_with fail
  go_loopg [8] (X + 21888242871839275222246405745257275088548364400416034343698204186575808495617) (fun k l wr => ∃ (A B S : Nat) (lv : Int), l = .int .i64 lv ∧ Shut (Keep w Z A B S k lv wr))
  case atStart => exact ⟨X, 21888242871839275222246405745257275088548364400416034343698204186575808495617, 0, 1, rfl, HK⟩
  case round =>
    clear HK
    obtain ⟨A, B, S, lv, rfl, hk⟩ := hrel
    have C0 := shut (iszero w.heap.size 0 A wr hk.out.ha (hk.out.oa.1 0 (by decide)).1 (by rw [Nat.zero_add]; exact (hk.out.oa.1 1 (by decide)).1) (by rw [Nat.zero_add]; exact (hk.out.oa.1 2 (by decide)).1) (by rw [Nat.zero_add]; exact (hk.out.oa.1 3 (by decide)).1))
    by_cases hA : A = 0
    · have hd : decide (A = 0) = true := by simpa using hA
      have HA := shut hA
      clear hA
      go_wp2_with fail
      refine C0.out.mono ?_
      rintro e w' ⟨rfl, m, rfl⟩
      have hz : lv * Sym.K 0 B = Z := by have := hk.out.sy; rwa [HA.out] at this
      rw [Sym.K_zero _ (by have := hk.out.odd; omega) (by omega)] at hz
      have hone := one_words (X := B) hk.out.hb
      have hrest := or_rest B
      have HW := shut (Now.drewN hk.out.now m)
      obtain ⟨c0, c1, c2, c3⟩ := own_cells hk.out.ob
      by_cases h1 : wd B 0 = 1
      · have t1 : (((wd B 0 : Nat) : Int) == 1) = true := by simp [h1]
        by_cases h2 : bits .or .u64 (bits .or .u64 (((wd B 1 : Nat) : Int)) ((wd B 2 : Nat) : Int)) ((wd B 3 : Nat) : Int) = 0
        · have t2 : (bits .or .u64 (bits .or .u64 (((wd B 1 : Nat) : Int)) ((wd B 2 : Nat) : Int)) ((wd B 3 : Nat) : Int) == 0) = true := by simpa using h2
          have e : Z = lv := by
            have hB := hone.1 ⟨h1, hrest.1 h2⟩
            rw [if_pos (by omega), Int.mul_one] at hz
            exact hz.symm
          have HE := shut e
          clear e hz hone hrest h1 h2
          go_wp2_with fail
          go_ret
          exact ⟨by rw [HE.out]; rfl, HW.out.below⟩
        · have t2 : (bits .or .u64 (bits .or .u64 (((wd B 1 : Nat) : Int)) ((wd B 2 : Nat) : Int)) ((wd B 3 : Nat) : Int) == 0) = false := by simpa using h2
          have e : Z = 0 := by
            rw [if_neg (fun hB => h2 (hrest.2 (hone.2 (by omega)).2)), Int.mul_zero] at hz
            exact hz.symm
          have HE := shut e
          clear e hz hone hrest h1 h2
          go_wp2_with fail
          go_ret
          exact ⟨by rw [HE.out]; rfl, HW.out.below⟩
      · have t1 : (((wd B 0 : Nat) : Int) == 1) = false := by simp; omega
        have e : Z = 0 := by
          rw [if_neg (fun hB => h1 (hone.2 (by omega)).1), Int.mul_zero] at hz
          exact hz.symm
        have HE := shut e
        clear e hz hone hrest h1
        go_wp2_with fail
        go_ret
        exact ⟨by rw [HE.out]; rfl, HW.out.below⟩
    · have hd : decide (A = 0) = false := by simpa using hA
      have HA := shut hA
      clear hA
      go_wp2_with fail
      refine C0.out.mono ?_
      rintro e w' ⟨rfl, m, rfl⟩
      have HK := shut (hk.out.drewN m)
      clear C0 hk
      obtain ⟨W1, hW⟩ : ∃ W1, wr.drewN m = W1 := ⟨_, rfl⟩
      rw [hW] at HK ⊢
      clear hW
      obtain ⟨n, hn⟩ : ∃ n, n = max (blen A) (blen B) := ⟨_, rfl⟩
      have C1 := shut (ebitlen w.heap.size 0 A W1 HK.out.ha (HK.out.oa.1 0 (by decide)).1 (by rw [Nat.zero_add]; exact (HK.out.oa.1 1 (by decide)).1) (by rw [Nat.zero_add]; exact (HK.out.oa.1 2 (by decide)).1) (by rw [Nat.zero_add]; exact (HK.out.oa.1 3 (by decide)).1))
      have C2 := shut (ebitlen (w.heap.size + 1) 0 B W1 HK.out.hb (HK.out.ob.1 0 (by decide)).1 (by rw [Nat.zero_add]; exact (HK.out.ob.1 1 (by decide)).1) (by rw [Nat.zero_add]; exact (HK.out.ob.1 2 (by decide)).1) (by rw [Nat.zero_add]; exact (HK.out.ob.1 3 (by decide)).1))
      have hmx : max ((blen A : Nat) : Int) ((blen B : Nat) : Int) = (n : Int) := by omega
      have hA2 : A < 2 ^ n := Nat.lt_of_lt_of_le (blen_lt A) (Nat.pow_le_pow_right (by decide) (by omega))
      have hB2 : B < 2 ^ n := Nat.lt_of_lt_of_le (blen_lt B) (Nat.pow_le_pow_right (by decide) (by omega))
      have hn4 : n ≤ 256 := by
        have h1 := blen_le (k := 256) HK.out.ha
        have h2 := blen_le (k := 256) HK.out.hb
        omega
      have C3 := shut (approx w.heap.size A n W1 hn4 hA2 HK.out.oa)
      have C4 := shut (approx (w.heap.size + 1) B n W1 hn4 hB2 HK.out.ob)
      have HN := shut (And.intro hn (And.intro hA2 hB2))
      clear hn hA2 hB2 hn4
      go_wp2_with fail
      refine C1.out.mono ?_
      rintro e w' ⟨rfl, rfl⟩
      go_wp2_with fail
      refine C2.out.mono ?_
      rintro e w' ⟨rfl, rfl⟩
      go_wp2_with fail
      refine C3.out.mono ?_
      rintro e w' ⟨rfl, rfl⟩
      go_wp2_with fail
      refine C4.out.mono ?_
      rintro e w' ⟨rfl, rfl⟩
      clear C1 C2 C3 C4 hmx hd
      obtain ⟨x, hx⟩ : ∃ x, apx A n = x := ⟨_, rfl⟩
      obtain ⟨y, hy⟩ : ∃ y, apx B n = y := ⟨_, rfl⟩
      have hxl : x < 18446744073709551616 := by rw [← hx]; exact apx_lt HN.out.2.1
      have hyl : y < 18446744073709551616 := by rw [← hy]; exact apx_lt HN.out.2.2
      have HI : Shut (Inn A B x y Z 0 x y 1 4294967296 lv) := shut (inn_start HK.out.odd (by rw [← hx]; exact apx_low32) (by rw [← hy]; exact apx_low32) HK.out.sy HK.out.one hxl hyl)
      rw [hx, hy]
      have HX := shut (And.intro hx hy)
      clear hx hy hxl hyl
      go_wp2_with fail
      go_loopg [5, 6, 8, 10, 11, 33] 30 (fun k c0 c1 l α β i wi => ∃ (j a1 b1 : Nat) (d0 d1 ll : Int), j ≤ 30 ∧ j + k = 30 ∧ i = .int .i64 (j : Int) ∧ c0 = .int .i64 d0 ∧ c1 = .int .i64 d1 ∧ l = .int .i64 ll ∧ α = .int .u64 (a1 : Int) ∧ β = .int .u64 (b1 : Int) ∧ wi = W1 ∧ Shut (Inn A B x y Z j a1 b1 d0 d1 ll))
      case atStart => exact ⟨0, x, y, 1, 4294967296, lv, by decide, rfl, rfl, rfl, rfl, rfl, rfl, rfl, rfl, HI⟩
      case round =>
        clear HI
        obtain ⟨j, a1, b1, d0, d1, ll, hj, hjk, rfl, rfl, rfl, rfl, rfl, rfl, rfl, hi⟩ := hrel
        by_cases hlt : j < 30
        · have i1 : (j : Int) < 30 := by omega
          have hdj : decide (j < 30) = true := by simpa using hlt
          have HJ := shut (And.intro hlt (And.intro hj hjk))
          obtain ⟨mm, hmm⟩ : ∃ mm, -ll = mm := ⟨_, rfl⟩
          have hm2 : wrap64 (-mm) = ll := by have := hi.out.one; unfold wrap64; omega
          have hm : wrap64 (-ll) = mm := by have := hi.out.one; unfold wrap64; omega
          have HM := shut hmm
          clear hlt hj hjk hmm
          by_cases hpar : a1 % 2 = 0
          · have p1 : bits .and .u64 (a1 : Int) 1 = 0 := by rw [and_one a1 hi.out.la, hpar]; rfl
            by_cases r3 : b1 % 8 = 3
            · have s8 : bits .and .u64 (b1 : Int) 7 = 3 := by rw [and_seven b1 hi.out.lb, r3]; rfl
              have hl : mm = Sym.ch8 (b1 : Int) * ll := by unfold Sym.ch8; rw [if_pos (by omega)]; have := HM.out; omega
              have HI := shut (hi.out.even HJ.out.1 hpar hl)
              clear hl hpar hi
              go_wp2_with fail
              go_roundg (29 - j)
              case measure => have := HJ.out; omega
              case rel => exact ⟨j + 1, a1 / 2, b1, d0, wrap64 (d1 * 2), mm, by have := HJ.out; omega, by have := HJ.out; omega, by go_num, rfl, rfl, by first | rfl | (simp only [hm]; done) | (simp only [hm2]; done) | simp only [hm, hm2], congrArg _ (half_val HI.out.la), rfl, rfl, HI⟩
            by_cases r5 : b1 % 8 = 5
            · have s8 : bits .and .u64 (b1 : Int) 7 = 5 := by rw [and_seven b1 hi.out.lb, r5]; rfl
              have hl : mm = Sym.ch8 (b1 : Int) * ll := by unfold Sym.ch8; rw [if_pos (by omega)]; have := HM.out; omega
              have HI := shut (hi.out.even HJ.out.1 hpar hl)
              clear hl hpar hi
              go_wp2_with fail
              go_roundg (29 - j)
              case measure => have := HJ.out; omega
              case rel => exact ⟨j + 1, a1 / 2, b1, d0, wrap64 (d1 * 2), mm, by have := HJ.out; omega, by have := HJ.out; omega, by go_num, rfl, rfl, by first | rfl | (simp only [hm]; done) | (simp only [hm2]; done) | simp only [hm, hm2], congrArg _ (half_val HI.out.la), rfl, rfl, HI⟩
            obtain ⟨r8, hr8⟩ : ∃ r8 : Int, ((b1 % 8 : Nat) : Int) = r8 := ⟨_, rfl⟩
            have s8 : bits .and .u64 (b1 : Int) 7 = r8 := by rw [and_seven b1 hi.out.lb, hr8]
            have t3 : (r8 == 3) = false := by simp; omega
            have t5 : (r8 == 5) = false := by simp; omega
            have hl : ll = Sym.ch8 (b1 : Int) * ll := by unfold Sym.ch8; rw [if_neg (by omega)]; omega
            clear hr8 r3 r5
            have HI := shut (hi.out.even HJ.out.1 hpar hl)
            clear hl hpar hi
            go_wp2_with fail
            go_roundg (29 - j)
            case measure => have := HJ.out; omega
            case rel => exact ⟨j + 1, a1 / 2, b1, d0, wrap64 (d1 * 2), ll, by have := HJ.out; omega, by have := HJ.out; omega, by go_num, rfl, rfl, by first | rfl | (simp only [hm]; done) | (simp only [hm2]; done) | simp only [hm, hm2], congrArg _ (half_val HI.out.la), rfl, rfl, HI⟩
          have p1 : bits .and .u64 (a1 : Int) 1 = 1 := by rw [and_one a1 hi.out.la, show a1 % 2 = 1 from by omega]; rfl
          by_cases hle : b1 ≤ a1
          · have R := sub_run_le a1 b1 hi.out.la hi.out.lb hle
            obtain ⟨dd, hdd⟩ : ∃ dd, a1 - b1 = dd := ⟨_, rfl⟩
            rw [hdd] at R
            by_cases r3 : b1 % 8 = 3
            · have s8 : bits .and .u64 (b1 : Int) 7 = 3 := by rw [and_seven b1 hi.out.lb, r3]; rfl
              have hl : mm = Sym.ch8 (b1 : Int) * ll := by unfold Sym.ch8; rw [if_pos (by omega)]; have := HM.out; omega
              have HI := shut (hi.out.sub HJ.out.1 (by omega) hle hl)
              rw [hdd] at HI
              clear hl hpar hle hdd hi
              go_wp2_with fail
              go_roundg (29 - j)
              case measure => have := HJ.out; omega
              case rel => exact ⟨j + 1, dd / 2, b1, wrap64 (d0 - d1), wrap64 (d1 * 2), mm, by have := HJ.out; omega, by have := HJ.out; omega, by go_num, rfl, rfl, by first | rfl | (simp only [hm]; done) | (simp only [hm2]; done) | simp only [hm, hm2], congrArg _ (half_val HI.out.la), rfl, rfl, HI⟩
            by_cases r5 : b1 % 8 = 5
            · have s8 : bits .and .u64 (b1 : Int) 7 = 5 := by rw [and_seven b1 hi.out.lb, r5]; rfl
              have hl : mm = Sym.ch8 (b1 : Int) * ll := by unfold Sym.ch8; rw [if_pos (by omega)]; have := HM.out; omega
              have HI := shut (hi.out.sub HJ.out.1 (by omega) hle hl)
              rw [hdd] at HI
              clear hl hpar hle hdd hi
              go_wp2_with fail
              go_roundg (29 - j)
              case measure => have := HJ.out; omega
              case rel => exact ⟨j + 1, dd / 2, b1, wrap64 (d0 - d1), wrap64 (d1 * 2), mm, by have := HJ.out; omega, by have := HJ.out; omega, by go_num, rfl, rfl, by first | rfl | (simp only [hm]; done) | (simp only [hm2]; done) | simp only [hm, hm2], congrArg _ (half_val HI.out.la), rfl, rfl, HI⟩
            obtain ⟨r8, hr8⟩ : ∃ r8 : Int, ((b1 % 8 : Nat) : Int) = r8 := ⟨_, rfl⟩
            have s8 : bits .and .u64 (b1 : Int) 7 = r8 := by rw [and_seven b1 hi.out.lb, hr8]
            have t3 : (r8 == 3) = false := by simp; omega
            have t5 : (r8 == 5) = false := by simp; omega
            have hl : ll = Sym.ch8 (b1 : Int) * ll := by unfold Sym.ch8; rw [if_neg (by omega)]; omega
            clear hr8 r3 r5
            have HI := shut (hi.out.sub HJ.out.1 (by omega) hle hl)
            rw [hdd] at HI
            clear hl hpar hle hdd hi
            go_wp2_with fail
            go_roundg (29 - j)
            case measure => have := HJ.out; omega
            case rel => exact ⟨j + 1, dd / 2, b1, wrap64 (d0 - d1), wrap64 (d1 * 2), ll, by have := HJ.out; omega, by have := HJ.out; omega, by go_num, rfl, rfl, by first | rfl | (simp only [hm]; done) | (simp only [hm2]; done) | simp only [hm, hm2], congrArg _ (half_val HI.out.la), rfl, rfl, HI⟩
          obtain ⟨ss, R⟩ := sub_run_lt a1 b1 hi.out.la hi.out.lb (by omega)
          have hw : IntKind.u64.wrap ((b1 : Int) - a1) = ((b1 - a1 : Nat) : Int) := by have := hi.out.lb; rw [u64wrap]; omega
          obtain ⟨dd, hdd⟩ : ∃ dd, b1 - a1 = dd := ⟨_, rfl⟩
          rw [hdd] at hw
          by_cases q1 : b1 % 4 = 3
          · have u1 : bits .and .u64 (b1 : Int) 3 = 3 := by rw [and_three b1 hi.out.lb, q1]; rfl
            by_cases q2 : a1 % 4 = 3
            · have u2 : bits .and .u64 (a1 : Int) 3 = 3 := by rw [and_three a1 hi.out.la, q2]; rfl
              have hl4 : mm = Sym.ch4 (a1 : Int) (b1 : Int) * ll := by unfold Sym.ch4; rw [if_pos (by omega)]; have := HM.out; omega
              clear q1 q2
              by_cases r3 : a1 % 8 = 3
              · have s8 : bits .and .u64 (a1 : Int) 7 = 3 := by rw [and_seven a1 hi.out.la, r3]; rfl
                have hl : ll = Sym.ch8 (a1 : Int) * mm := by unfold Sym.ch8; rw [if_pos (by omega)]; have := HM.out; omega
                have HI := shut (hi.out.swap HJ.out.1 (by omega) (by omega) (hl.trans (congrArg _ hl4)))
                rw [hdd] at HI
                clear hl hl4 hpar hle hdd hi
                go_wp2_with fail
                go_roundg (29 - j)
                case measure => have := HJ.out; omega
                case rel => exact ⟨j + 1, dd / 2, a1, wrap64 (d1 - d0), wrap64 (d0 * 2), ll, by have := HJ.out; omega, by have := HJ.out; omega, by go_num, rfl, rfl, by first | rfl | (simp only [hm]; done) | (simp only [hm2]; done) | simp only [hm, hm2], congrArg _ (half_val HI.out.la), rfl, rfl, HI⟩
              by_cases r5 : a1 % 8 = 5
              · have s8 : bits .and .u64 (a1 : Int) 7 = 5 := by rw [and_seven a1 hi.out.la, r5]; rfl
                have hl : ll = Sym.ch8 (a1 : Int) * mm := by unfold Sym.ch8; rw [if_pos (by omega)]; have := HM.out; omega
                have HI := shut (hi.out.swap HJ.out.1 (by omega) (by omega) (hl.trans (congrArg _ hl4)))
                rw [hdd] at HI
                clear hl hl4 hpar hle hdd hi
                go_wp2_with fail
                go_roundg (29 - j)
                case measure => have := HJ.out; omega
                case rel => exact ⟨j + 1, dd / 2, a1, wrap64 (d1 - d0), wrap64 (d0 * 2), ll, by have := HJ.out; omega, by have := HJ.out; omega, by go_num, rfl, rfl, by first | rfl | (simp only [hm]; done) | (simp only [hm2]; done) | simp only [hm, hm2], congrArg _ (half_val HI.out.la), rfl, rfl, HI⟩
              obtain ⟨r8, hr8⟩ : ∃ r8 : Int, ((a1 % 8 : Nat) : Int) = r8 := ⟨_, rfl⟩
              have s8 : bits .and .u64 (a1 : Int) 7 = r8 := by rw [and_seven a1 hi.out.la, hr8]
              have t3 : (r8 == 3) = false := by simp; omega
              have t5 : (r8 == 5) = false := by simp; omega
              have hl : mm = Sym.ch8 (a1 : Int) * mm := by unfold Sym.ch8; rw [if_neg (by omega)]; omega
              clear hr8 r3 r5
              have HI := shut (hi.out.swap HJ.out.1 (by omega) (by omega) (hl.trans (congrArg _ hl4)))
              rw [hdd] at HI
              clear hl hl4 hpar hle hdd hi
              go_wp2_with fail
              go_roundg (29 - j)
              case measure => have := HJ.out; omega
              case rel => exact ⟨j + 1, dd / 2, a1, wrap64 (d1 - d0), wrap64 (d0 * 2), mm, by have := HJ.out; omega, by have := HJ.out; omega, by go_num, rfl, rfl, by first | rfl | (simp only [hm]; done) | (simp only [hm2]; done) | simp only [hm, hm2], congrArg _ (half_val HI.out.la), rfl, rfl, HI⟩
            obtain ⟨r4, hr4⟩ : ∃ r4 : Int, ((a1 % 4 : Nat) : Int) = r4 := ⟨_, rfl⟩
            have u2 : bits .and .u64 (a1 : Int) 3 = r4 := by rw [and_three a1 hi.out.la, hr4]
            have u3 : (r4 == 3) = false := by simp; omega
            have hl4 : ll = Sym.ch4 (a1 : Int) (b1 : Int) * ll := by unfold Sym.ch4; rw [if_neg (by omega)]; omega
            clear q1 q2 hr4
            by_cases r3 : a1 % 8 = 3
            · have s8 : bits .and .u64 (a1 : Int) 7 = 3 := by rw [and_seven a1 hi.out.la, r3]; rfl
              have hl : mm = Sym.ch8 (a1 : Int) * ll := by unfold Sym.ch8; rw [if_pos (by omega)]; have := HM.out; omega
              have HI := shut (hi.out.swap HJ.out.1 (by omega) (by omega) (hl.trans (congrArg _ hl4)))
              rw [hdd] at HI
              clear hl hl4 hpar hle hdd hi
              go_wp2_with fail
              go_roundg (29 - j)
              case measure => have := HJ.out; omega
              case rel => exact ⟨j + 1, dd / 2, a1, wrap64 (d1 - d0), wrap64 (d0 * 2), mm, by have := HJ.out; omega, by have := HJ.out; omega, by go_num, rfl, rfl, by first | rfl | (simp only [hm]; done) | (simp only [hm2]; done) | simp only [hm, hm2], congrArg _ (half_val HI.out.la), rfl, rfl, HI⟩
            by_cases r5 : a1 % 8 = 5
            · have s8 : bits .and .u64 (a1 : Int) 7 = 5 := by rw [and_seven a1 hi.out.la, r5]; rfl
              have hl : mm = Sym.ch8 (a1 : Int) * ll := by unfold Sym.ch8; rw [if_pos (by omega)]; have := HM.out; omega
              have HI := shut (hi.out.swap HJ.out.1 (by omega) (by omega) (hl.trans (congrArg _ hl4)))
              rw [hdd] at HI
              clear hl hl4 hpar hle hdd hi
              go_wp2_with fail
              go_roundg (29 - j)
              case measure => have := HJ.out; omega
              case rel => exact ⟨j + 1, dd / 2, a1, wrap64 (d1 - d0), wrap64 (d0 * 2), mm, by have := HJ.out; omega, by have := HJ.out; omega, by go_num, rfl, rfl, by first | rfl | (simp only [hm]; done) | (simp only [hm2]; done) | simp only [hm, hm2], congrArg _ (half_val HI.out.la), rfl, rfl, HI⟩
            obtain ⟨r8, hr8⟩ : ∃ r8 : Int, ((a1 % 8 : Nat) : Int) = r8 := ⟨_, rfl⟩
            have s8 : bits .and .u64 (a1 : Int) 7 = r8 := by rw [and_seven a1 hi.out.la, hr8]
            have t3 : (r8 == 3) = false := by simp; omega
            have t5 : (r8 == 5) = false := by simp; omega
            have hl : ll = Sym.ch8 (a1 : Int) * ll := by unfold Sym.ch8; rw [if_neg (by omega)]; omega
            clear hr8 r3 r5
            have HI := shut (hi.out.swap HJ.out.1 (by omega) (by omega) (hl.trans (congrArg _ hl4)))
            rw [hdd] at HI
            clear hl hl4 hpar hle hdd hi
            go_wp2_with fail
            go_roundg (29 - j)
            case measure => have := HJ.out; omega
            case rel => exact ⟨j + 1, dd / 2, a1, wrap64 (d1 - d0), wrap64 (d0 * 2), ll, by have := HJ.out; omega, by have := HJ.out; omega, by go_num, rfl, rfl, by first | rfl | (simp only [hm]; done) | (simp only [hm2]; done) | simp only [hm, hm2], congrArg _ (half_val HI.out.la), rfl, rfl, HI⟩
          obtain ⟨r4, hr4⟩ : ∃ r4 : Int, ((b1 % 4 : Nat) : Int) = r4 := ⟨_, rfl⟩
          have u2 : bits .and .u64 (b1 : Int) 3 = r4 := by rw [and_three b1 hi.out.lb, hr4]
          have u3 : (r4 == 3) = false := by simp; omega
          have hl4 : ll = Sym.ch4 (a1 : Int) (b1 : Int) * ll := by unfold Sym.ch4; rw [if_neg (by omega)]; omega
          clear q1 hr4
          by_cases r3 : a1 % 8 = 3
          · have s8 : bits .and .u64 (a1 : Int) 7 = 3 := by rw [and_seven a1 hi.out.la, r3]; rfl
            have hl : mm = Sym.ch8 (a1 : Int) * ll := by unfold Sym.ch8; rw [if_pos (by omega)]; have := HM.out; omega
            have HI := shut (hi.out.swap HJ.out.1 (by omega) (by omega) (hl.trans (congrArg _ hl4)))
            rw [hdd] at HI
            clear hl hl4 hpar hle hdd hi
            go_wp2_with fail
            go_roundg (29 - j)
            case measure => have := HJ.out; omega
            case rel => exact ⟨j + 1, dd / 2, a1, wrap64 (d1 - d0), wrap64 (d0 * 2), mm, by have := HJ.out; omega, by have := HJ.out; omega, by go_num, rfl, rfl, by first | rfl | (simp only [hm]; done) | (simp only [hm2]; done) | simp only [hm, hm2], congrArg _ (half_val HI.out.la), rfl, rfl, HI⟩
          by_cases r5 : a1 % 8 = 5
          · have s8 : bits .and .u64 (a1 : Int) 7 = 5 := by rw [and_seven a1 hi.out.la, r5]; rfl
            have hl : mm = Sym.ch8 (a1 : Int) * ll := by unfold Sym.ch8; rw [if_pos (by omega)]; have := HM.out; omega
            have HI := shut (hi.out.swap HJ.out.1 (by omega) (by omega) (hl.trans (congrArg _ hl4)))
            rw [hdd] at HI
            clear hl hl4 hpar hle hdd hi
            go_wp2_with fail
            go_roundg (29 - j)
            case measure => have := HJ.out; omega
            case rel => exact ⟨j + 1, dd / 2, a1, wrap64 (d1 - d0), wrap64 (d0 * 2), mm, by have := HJ.out; omega, by have := HJ.out; omega, by go_num, rfl, rfl, by first | rfl | (simp only [hm]; done) | (simp only [hm2]; done) | simp only [hm, hm2], congrArg _ (half_val HI.out.la), rfl, rfl, HI⟩
          obtain ⟨r8, hr8⟩ : ∃ r8 : Int, ((a1 % 8 : Nat) : Int) = r8 := ⟨_, rfl⟩
          have s8 : bits .and .u64 (a1 : Int) 7 = r8 := by rw [and_seven a1 hi.out.la, hr8]
          have t3 : (r8 == 3) = false := by simp; omega
          have t5 : (r8 == 5) = false := by simp; omega
          have hl : ll = Sym.ch8 (a1 : Int) * ll := by unfold Sym.ch8; rw [if_neg (by omega)]; omega
          clear hr8 r3 r5
          have HI := shut (hi.out.swap HJ.out.1 (by omega) (by omega) (hl.trans (congrArg _ hl4)))
          rw [hdd] at HI
          clear hl hl4 hpar hle hdd hi
          go_wp2_with fail
          go_roundg (29 - j)
          case measure => have := HJ.out; omega
          case rel => exact ⟨j + 1, dd / 2, a1, wrap64 (d1 - d0), wrap64 (d0 * 2), ll, by have := HJ.out; omega, by have := HJ.out; omega, by go_num, rfl, rfl, by first | rfl | (simp only [hm]; done) | (simp only [hm2]; done) | simp only [hm, hm2], congrArg _ (half_val HI.out.la), rfl, rfl, HI⟩
        · obtain rfl : j = 30 := by omega
          obtain ⟨f0, g0, f1, g1, A1, B1, l1, ⟨e0, e1⟩, hbd, ⟨eA, eB⟩, htop, hless, hodd2, hl1, hone1, hsy1⟩ := inn_end hi.out HK.out.ha HK.out.hb HK.out.odd HA.out HN.out.1 HN.out.2.1 HN.out.2.2 HX.out.1 HX.out.2
          have D0 := shut (fun w => decompose d0 f0 g0 w e0 (by omega) (by omega) (by omega) (by omega))
          have D1 := shut (fun w => decompose d1 f1 g1 w e1 (by omega) (by omega) (by omega) (by omega))
          have HE := shut (And.intro hbd (And.intro eA (And.intro eB htop)))
          have HF := shut (And.intro hless (And.intro hodd2 (And.intro hone1 hsy1)))
          have HL := shut (And.intro hl1 (And.intro hi.out.one hi.out.lb))
          clear e0 e1 hbd eA eB htop hless hodd2 hl1 hone1 hsy1 hi hlt hj
          obtain ⟨oa0, oa1, oa2, oa3⟩ := own_cells HK.out.oa
          obtain ⟨os0, os1, os2, os3⟩ := own_cells HK.out.os
          obtain ⟨of0, of1, of2, of3⟩ := own_frozen HK.out.os
          go_wp2_with fail
          obtain ⟨W2, hW⟩ : ∃ W2, ((((wr.setCell ⟨w.heap.size + 1 + 1, 0, none⟩ (.int .u64 (wd (A) 0 : Nat))).setCell ⟨w.heap.size + 1 + 1, 1, none⟩ (.int .u64 (wd (A) 1 : Nat))).setCell ⟨w.heap.size + 1 + 1, 2, none⟩ (.int .u64 (wd (A) 2 : Nat))).setCell ⟨w.heap.size + 1 + 1, 3, none⟩ (.int .u64 (wd (A) 3 : Nat))) = W2 := ⟨_, rfl⟩
          have HQ : Shut (Own W2 w.heap.size 4 A ∧ Own W2 (w.heap.size + 1) 4 B ∧ Own W2 (w.heap.size + 1 + 1) 4 A ∧ Now w.heap.size w W2) := shut (by
            have hbel : Below (w.heap.size + 1 + 1) wr W2 := by rw [← hW]; exact below_at (below_at (below_at (below_at (Below.refl _ _) 0 _) 1 _) 2 _) 3 _
            refine ⟨HK.out.oa.below hbel (by omega), HK.out.ob.below hbel (by omega), ?_, HK.out.now.below.trans (hbel.mono (by omega)), Nat.le_trans HK.out.now.size hbel.size⟩
            rw [← hW]
            exact own_stored wr (w.heap.size + 1 + 1) A _ _ _ _ os0 os1 os2 os3 of0 of1 of2 of3 HK.out.os.2)
          rw [hW]
          clear hW oa0 os0 of0 oa1 os1 of1 oa2 os2 of2 oa3 os3 of3
          have C0 := shut (comb_t (w.heap.size) 0 (w.heap.size + 1 + 1) 0 (w.heap.size + 1) 0 ((wd A 0 : Nat) : Int) ((wd A 1 : Nat) : Int) ((wd A 2 : Nat) : Int) ((wd A 3 : Nat) : Int) ((wd A 0 : Nat) : Int) ((wd A 1 : Nat) : Int) ((wd A 2 : Nat) : Int) ((wd A 3 : Nat) : Int) ((wd B 0 : Nat) : Int) ((wd B 1 : Nat) : Int) ((wd B 2 : Nat) : Int) ((wd B 3 : Nat) : Int) f0 g0 W2 (by omega) HQ.out.1.2 HQ.out.2.2.1.2 HQ.out.2.1.2 (by have := HE.out; omega) (by have := HE.out; omega) (wd_nat _ _) (wd_nat _ _) (wd_nat _ _) (wd_nat _ _) (wd_nat _ _) (wd_nat _ _) (wd_nat _ _) (wd_nat _ _) (by have := (HQ.out.1.1 0 (by decide)).1; simpa using this) (by have := (HQ.out.1.1 1 (by decide)).1; simpa using this) (by have := (HQ.out.1.1 2 (by decide)).1; simpa using this) (by have := (HQ.out.1.1 3 (by decide)).1; simpa using this) (by have := (HQ.out.2.2.1.1 0 (by decide)).1; simpa using this) (by have := (HQ.out.2.2.1.1 1 (by decide)).1; simpa using this) (by have := (HQ.out.2.2.1.1 2 (by decide)).1; simpa using this) (by have := (HQ.out.2.2.1.1 3 (by decide)).1; simpa using this) (by have := (HQ.out.2.1.1 0 (by decide)).1; simpa using this) (by have := (HQ.out.2.1.1 1 (by decide)).1; simpa using this) (by have := (HQ.out.2.1.1 2 (by decide)).1; simpa using this) (by have := (HQ.out.2.1.1 3 (by decide)).1; simpa using this) (by have := (HQ.out.1.1 0 (by decide)).2; simpa using this) (by have := (HQ.out.1.1 1 (by decide)).2; simpa using this) (by have := (HQ.out.1.1 2 (by decide)).2; simpa using this) (by have := (HQ.out.1.1 3 (by decide)).2; simpa using this))
          refine (D0.out _).mono ?_
          rintro e w' ⟨rfl, rfl⟩
          go_wp2_with fail
          refine C0.out.mono ?_
          rintro e w3 ⟨p0, p1, p2, p3, ph, rfl, hwd, ⟨k, hk⟩, hc, hg⟩
          have nA : num ((wd A 0 : Nat) : Int) ((wd A 1 : Nat) : Int) ((wd A 2 : Nat) : Int) ((wd A 3 : Nat) : Int) = (A : Int) := num_wd HK.out.ha
          have nB : num ((wd B 0 : Nat) : Int) ((wd B 1 : Nat) : Int) ((wd B 2 : Nat) : Int) ((wd B 3 : Nat) : Int) = (B : Int) := num_wd HK.out.hb
          have hk2 := hk
          rw [nA, nB, HE.out.2.1] at hk2
          have HP := shut (And.intro hwd (And.intro hk2 (And.intro hc hg)))
          have HNN := shut (And.intro nA nB)
          have HQ3 : Shut (Own w3 (w.heap.size + 1) 4 B ∧ Own w3 (w.heap.size + 1 + 1) 4 A ∧ Now w.heap.size w w3 ∧ w.heap.size < w3.heap.size) := shut ⟨HQ.out.2.1.grows hg (by omega), HQ.out.2.2.1.grows hg (by omega), HQ.out.2.2.2.grows hg (Nat.le_refl _), Nat.lt_of_lt_of_le HQ.out.1.2 hg.size⟩
          have HF3 : Shut (w3.frozen? ⟨w.heap.size, 0, none⟩ = false ∧ w3.frozen? ⟨w.heap.size, 1, none⟩ = false ∧ w3.frozen? ⟨w.heap.size, 2, none⟩ = false ∧ w3.frozen? ⟨w.heap.size, 3, none⟩ = false) := shut ⟨(hg.frozen _ _ HQ.out.1.2).trans (HQ.out.1.1 0 (by decide)).2, (hg.frozen _ _ HQ.out.1.2).trans (HQ.out.1.1 1 (by decide)).2, (hg.frozen _ _ HQ.out.1.2).trans (HQ.out.1.1 2 (by decide)).2, (hg.frozen _ _ HQ.out.1.2).trans (HQ.out.1.1 3 (by decide)).2⟩
          clear hwd hk hk2 hc hg nA nB C0 D0
          obtain ⟨M, hM⟩ : ∃ M, A1.natAbs = M := ⟨_, rfl⟩
          obtain ⟨N, hN⟩ : ∃ N, 1073741824 * M = N := ⟨_, rfl⟩
          have HMN := shut (And.intro hM hN)
          clear hM hN
          go_upto_if 103 with fail
          go_cut [8, 17] (fun l ah wx => l = .int .i64 l1 ∧ ah = .int .u64 ((wd N 4 : Nat) : Int) ∧ Shut (Own wx w.heap.size 4 N ∧ Own wx (w.heap.size + 1) 4 B ∧ Own wx (w.heap.size + 1 + 1) 4 A ∧ Now w.heap.size w wx))
          case first =>
            by_cases hneg : A1 < 0
            · obtain ⟨s1, s2⟩ := comb_neg (HP.out.1.1) (HP.out.1.2.1) (HP.out.1.2.2.1) (HP.out.1.2.2.2.1) (HP.out.1.2.2.2.2) HP.out.2.1 HE.out.2.2.2.1 hneg
              have S2 := shut @s2
              have NG := shut (negl_t w.heap.size 0 p0 p1 p2 p3 ph w3 (HP.out.1.1) (HP.out.1.2.1) (HP.out.1.2.2.1) (HP.out.1.2.2.2.1) (HP.out.1.2.2.2.2) (by have := (HP.out.2.2.1.1); simpa using this) (by have := (HP.out.2.2.1.2.1); simpa using this) (by have := (HP.out.2.2.1.2.2.1); simpa using this) (by have := (HP.out.2.2.1.2.2.2); simpa using this) (by have := (HF3.out.1); simpa using this) (by have := (HF3.out.2.1); simpa using this) (by have := (HF3.out.2.2.1); simpa using this) (by have := (HF3.out.2.2.2); simpa using this))
              by_cases h4 : b1 % 4 = 3
              · have u1 : bits .and .u64 (b1 : Int) 3 = 3 := by rw [and_three b1 HL.out.2.2, h4]; rfl
                have hl : wrap64 (-ll) = l1 := by rw [HL.out.1, if_pos ⟨hneg, h4⟩]; have := HL.out.2.1; unfold wrap64; omega
                clear hneg h4 s2
                go_wp2_with fail
                clear s1
                refine NG.out.mono ?_
                rintro e w4 ⟨q0, q1, q2, q3, qh, rfl, hwd, ⟨k2, hk2⟩, hc, ht⟩
                obtain ⟨⟨eq0, eq1, eq2, eq3⟩, eh⟩ := S2.out (hwd.1) (hwd.2.1) (hwd.2.2.1) (hwd.2.2.2.1) (hwd.2.2.2.2) hk2
                rw [HMN.out.1, HMN.out.2] at eh eq0 eq1 eq2 eq3
                subst eh eq0 eq1 eq2 eq3
                have HR : Shut (Own w4 w.heap.size 4 N ∧ Own w4 (w.heap.size + 1) 4 B ∧ Own w4 (w.heap.size + 1 + 1) 4 A ∧ Now w.heap.size w w4) := shut ⟨own_of hc ⟨(ht.frozen _ _).trans (HF3.out.1), (ht.frozen _ _).trans (HF3.out.2.1), (ht.frozen _ _).trans (HF3.out.2.2.1), (ht.frozen _ _).trans (HF3.out.2.2.2)⟩ (by rw [ht.size]; exact HQ3.out.2.2.2), HQ3.out.1.grows ht.grows (by omega), HQ3.out.2.1.grows ht.grows (by omega), HQ3.out.2.2.1.grows ht.grows (Nat.le_refl _)⟩
                clear hwd hk2 hc ht
                go_wp2_with fail
                go_meet
                exact ⟨by simp only [hl], rfl, HR⟩
              · obtain ⟨r4, hr4⟩ : ∃ r4 : Int, ((b1 % 4 : Nat) : Int) = r4 := ⟨_, rfl⟩
                have u1 : bits .and .u64 (b1 : Int) 3 = r4 := by rw [and_three b1 HL.out.2.2, hr4]
                have u2 : (r4 == 3) = false := by simp; omega
                have hl : ll = l1 := by rw [HL.out.1, if_neg (fun h => h4 h.2)]
                have Hl := shut hl
                clear hneg h4 s2 hr4 hl
                go_wp2_with fail
                clear s1
                refine NG.out.mono ?_
                rintro e w4 ⟨q0, q1, q2, q3, qh, rfl, hwd, ⟨k2, hk2⟩, hc, ht⟩
                obtain ⟨⟨eq0, eq1, eq2, eq3⟩, eh⟩ := S2.out (hwd.1) (hwd.2.1) (hwd.2.2.1) (hwd.2.2.2.1) (hwd.2.2.2.2) hk2
                rw [HMN.out.1, HMN.out.2] at eh eq0 eq1 eq2 eq3
                subst eh eq0 eq1 eq2 eq3
                have HR : Shut (Own w4 w.heap.size 4 N ∧ Own w4 (w.heap.size + 1) 4 B ∧ Own w4 (w.heap.size + 1 + 1) 4 A ∧ Now w.heap.size w w4) := shut ⟨own_of hc ⟨(ht.frozen _ _).trans (HF3.out.1), (ht.frozen _ _).trans (HF3.out.2.1), (ht.frozen _ _).trans (HF3.out.2.2.1), (ht.frozen _ _).trans (HF3.out.2.2.2)⟩ (by rw [ht.size]; exact HQ3.out.2.2.2), HQ3.out.1.grows ht.grows (by omega), HQ3.out.2.1.grows ht.grows (by omega), HQ3.out.2.2.1.grows ht.grows (Nat.le_refl _)⟩
                clear hwd hk2 hc ht
                go_wp2_with fail
                go_meet
                exact ⟨by rw [← Hl.out], rfl, HR⟩
            · obtain ⟨s1, ⟨eq0, eq1, eq2, eq3⟩, eh⟩ := comb_pos (HP.out.1.1) (HP.out.1.2.1) (HP.out.1.2.2.1) (HP.out.1.2.2.2.1) (HP.out.1.2.2.2.2) HP.out.2.1 HE.out.2.2.2.1 hneg
              have Hl : Shut (ll = l1) := shut (by rw [HL.out.1, if_neg (fun h => hneg h.1)])
              rw [HMN.out.1, HMN.out.2] at eh eq0 eq1 eq2 eq3
              subst eh eq0 eq1 eq2 eq3
              have HR : Shut (Own w3 w.heap.size 4 N ∧ Own w3 (w.heap.size + 1) 4 B ∧ Own w3 (w.heap.size + 1 + 1) 4 A ∧ Now w.heap.size w w3) := shut ⟨own_of HP.out.2.2.1 HF3.out HQ3.out.2.2.2, HQ3.out.1, HQ3.out.2.1, HQ3.out.2.2.1⟩
              clear hneg
              go_wp2_with fail
              go_meet
              exact ⟨by rw [← Hl.out], rfl, HR⟩
          case rest =>
            obtain ⟨rfl, rfl, hq⟩ := hcut
            obtain ⟨xc0, xc1, xc2, xc3⟩ := own_cells hq.out.1
            obtain ⟨xf0, xf1, xf2, xf3⟩ := own_frozen hq.out.1
            have xs0 := shift_word M 0
            rw [HMN.out.2] at xs0
            have xs1 := shift_word M 1
            rw [HMN.out.2] at xs1
            have xs2 := shift_word M 2
            rw [HMN.out.2] at xs2
            have xs3 := shift_word M 3
            rw [HMN.out.2] at xs3
            go_wp2_with fail
            obtain ⟨W5, hW⟩ : ∃ W, ((((wc.setCell ⟨w.heap.size, 0, none⟩ (.int .u64 (wd (M) 0 : Nat))).setCell ⟨w.heap.size, 1, none⟩ (.int .u64 (wd (M) 1 : Nat))).setCell ⟨w.heap.size, 2, none⟩ (.int .u64 (wd (M) 2 : Nat))).setCell ⟨w.heap.size, 3, none⟩ (.int .u64 (wd (M) 3 : Nat))) = W := ⟨_, rfl⟩
            have tur : Turns (w.heap.size) wc W5 := by rw [← hW]; exact ((((Turns.refl _ _).setAt 0 _).setAt 1 _).setAt 2 _).setAt 3 _
            have HO : Shut (Own W5 (w.heap.size) 4 M) := shut (by rw [← hW]; exact own_stored wc (w.heap.size) M _ _ _ _ xc0 xc1 xc2 xc3 xf0 xf1 xf2 xf3 hq.out.1.2)
            have HT := shut tur
            rw [hW]
            clear hW tur xc0 xf0 xs0 xc1 xf1 xs1 xc2 xf2 xs2 xc3 xf3 xs3
            have HQ5 : Shut (Own W5 w.heap.size 4 M ∧ Own W5 (w.heap.size + 1) 4 B ∧ Own W5 (w.heap.size + 1 + 1) 4 A ∧ Now w.heap.size w W5) := shut ⟨HO.out, hq.out.2.1.grows HT.out.grows (by omega), hq.out.2.2.1.grows HT.out.grows (by omega), hq.out.2.2.2.grows HT.out.grows (Nat.le_refl _)⟩
            clear HO HT hq HP HQ3 HF3 HQ
            have C1 := shut (comb_t (w.heap.size + 1) 0 (w.heap.size + 1 + 1) 0 (w.heap.size + 1) 0 ((wd B 0 : Nat) : Int) ((wd B 1 : Nat) : Int) ((wd B 2 : Nat) : Int) ((wd B 3 : Nat) : Int) ((wd A 0 : Nat) : Int) ((wd A 1 : Nat) : Int) ((wd A 2 : Nat) : Int) ((wd A 3 : Nat) : Int) ((wd B 0 : Nat) : Int) ((wd B 1 : Nat) : Int) ((wd B 2 : Nat) : Int) ((wd B 3 : Nat) : Int) f1 g1 W5 (by omega) HQ5.out.2.1.2 HQ5.out.2.2.1.2 HQ5.out.2.1.2 (by have := HE.out; omega) (by have := HE.out; omega) (wd_nat _ _) (wd_nat _ _) (wd_nat _ _) (wd_nat _ _) (wd_nat _ _) (wd_nat _ _) (wd_nat _ _) (wd_nat _ _) (by have := (HQ5.out.2.1.1 0 (by decide)).1; simpa using this) (by have := (HQ5.out.2.1.1 1 (by decide)).1; simpa using this) (by have := (HQ5.out.2.1.1 2 (by decide)).1; simpa using this) (by have := (HQ5.out.2.1.1 3 (by decide)).1; simpa using this) (by have := (HQ5.out.2.2.1.1 0 (by decide)).1; simpa using this) (by have := (HQ5.out.2.2.1.1 1 (by decide)).1; simpa using this) (by have := (HQ5.out.2.2.1.1 2 (by decide)).1; simpa using this) (by have := (HQ5.out.2.2.1.1 3 (by decide)).1; simpa using this) (by have := (HQ5.out.2.1.1 0 (by decide)).1; simpa using this) (by have := (HQ5.out.2.1.1 1 (by decide)).1; simpa using this) (by have := (HQ5.out.2.1.1 2 (by decide)).1; simpa using this) (by have := (HQ5.out.2.1.1 3 (by decide)).1; simpa using this) (by have := (HQ5.out.2.1.1 0 (by decide)).2; simpa using this) (by have := (HQ5.out.2.1.1 1 (by decide)).2; simpa using this) (by have := (HQ5.out.2.1.1 2 (by decide)).2; simpa using this) (by have := (HQ5.out.2.1.1 3 (by decide)).2; simpa using this))
            refine (D1.out _).mono ?_
            rintro e w' ⟨rfl, rfl⟩
            go_wp2_with fail
            refine C1.out.mono ?_
            rintro e w6 ⟨v0, v1, v2, v3, vh, rfl, hwd, ⟨k, hk⟩, hc, hg⟩
            have hk2 := hk
            rw [HNN.out.1, HNN.out.2, HE.out.2.2.1] at hk2
            have HP := shut (And.intro hwd (And.intro hk2 (And.intro hc hg)))
            have HQ6 : Shut (Own w6 w.heap.size 4 M ∧ Own w6 (w.heap.size + 1 + 1) 4 A ∧ Now w.heap.size w w6 ∧ w.heap.size + 1 < w6.heap.size) := shut ⟨HQ5.out.1.grows hg (by omega), HQ5.out.2.2.1.grows hg (by omega), HQ5.out.2.2.2.grows hg (by omega), Nat.lt_of_lt_of_le HQ5.out.2.1.2 hg.size⟩
            have HF6 : Shut (w6.frozen? ⟨w.heap.size + 1, 0, none⟩ = false ∧ w6.frozen? ⟨w.heap.size + 1, 1, none⟩ = false ∧ w6.frozen? ⟨w.heap.size + 1, 2, none⟩ = false ∧ w6.frozen? ⟨w.heap.size + 1, 3, none⟩ = false) := shut ⟨(hg.frozen _ _ HQ5.out.2.1.2).trans (HQ5.out.2.1.1 0 (by decide)).2, (hg.frozen _ _ HQ5.out.2.1.2).trans (HQ5.out.2.1.1 1 (by decide)).2, (hg.frozen _ _ HQ5.out.2.1.2).trans (HQ5.out.2.1.1 2 (by decide)).2, (hg.frozen _ _ HQ5.out.2.1.2).trans (HQ5.out.2.1.1 3 (by decide)).2⟩
            clear hwd hk hk2 hc hg C1 D1
            obtain ⟨M2, hM⟩ : ∃ M, B1.natAbs = M := ⟨_, rfl⟩
            obtain ⟨N2, hN⟩ : ∃ N, 1073741824 * M2 = N := ⟨_, rfl⟩
            have HMN2 := shut (And.intro hM hN)
            clear hM hN
            go_upto_if 152 with fail
            go_cut [19] (fun bh wx => bh = .int .u64 ((wd N2 4 : Nat) : Int) ∧ Shut (Own wx w.heap.size 4 M ∧ Own wx (w.heap.size + 1) 4 N2 ∧ Own wx (w.heap.size + 1 + 1) 4 A ∧ Now w.heap.size w wx))
            case first =>
              by_cases hneg : B1 < 0
              · obtain ⟨s1, s2⟩ := comb_neg (HP.out.1.1) (HP.out.1.2.1) (HP.out.1.2.2.1) (HP.out.1.2.2.2.1) (HP.out.1.2.2.2.2) HP.out.2.1 HE.out.2.2.2.2 hneg
                have S2 := shut @s2
                have NG := shut (negl_t (w.heap.size + 1) 0 v0 v1 v2 v3 vh w6 (HP.out.1.1) (HP.out.1.2.1) (HP.out.1.2.2.1) (HP.out.1.2.2.2.1) (HP.out.1.2.2.2.2) (by have := (HP.out.2.2.1.1); simpa using this) (by have := (HP.out.2.2.1.2.1); simpa using this) (by have := (HP.out.2.2.1.2.2.1); simpa using this) (by have := (HP.out.2.2.1.2.2.2); simpa using this) (by have := (HF6.out.1); simpa using this) (by have := (HF6.out.2.1); simpa using this) (by have := (HF6.out.2.2.1); simpa using this) (by have := (HF6.out.2.2.2); simpa using this))
                clear hneg s2
                go_wp2_with fail
                clear s1
                refine NG.out.mono ?_
                rintro e w7 ⟨q0, q1, q2, q3, qh, rfl, hwd, ⟨k2, hk2⟩, hc, ht⟩
                obtain ⟨⟨eq0, eq1, eq2, eq3⟩, eh⟩ := S2.out (hwd.1) (hwd.2.1) (hwd.2.2.1) (hwd.2.2.2.1) (hwd.2.2.2.2) hk2
                rw [HMN2.out.1, HMN2.out.2] at eh eq0 eq1 eq2 eq3
                subst eh eq0 eq1 eq2 eq3
                have HR : Shut (Own w7 w.heap.size 4 M ∧ Own w7 (w.heap.size + 1) 4 N2 ∧ Own w7 (w.heap.size + 1 + 1) 4 A ∧ Now w.heap.size w w7) := shut ⟨HQ6.out.1.grows ht.grows (by omega), own_of hc ⟨(ht.frozen _ _).trans (HF6.out.1), (ht.frozen _ _).trans (HF6.out.2.1), (ht.frozen _ _).trans (HF6.out.2.2.1), (ht.frozen _ _).trans (HF6.out.2.2.2)⟩ (by rw [ht.size]; exact HQ6.out.2.2.2), HQ6.out.2.1.grows ht.grows (by omega), HQ6.out.2.2.1.grows ht.grows (by omega)⟩
                clear hwd hk2 hc ht
                go_wp2_with fail
                go_meet
                exact ⟨rfl, HR⟩
              · obtain ⟨s1, ⟨eq0, eq1, eq2, eq3⟩, eh⟩ := comb_pos (HP.out.1.1) (HP.out.1.2.1) (HP.out.1.2.2.1) (HP.out.1.2.2.2.1) (HP.out.1.2.2.2.2) HP.out.2.1 HE.out.2.2.2.2 hneg
                rw [HMN2.out.1, HMN2.out.2] at eh eq0 eq1 eq2 eq3
                subst eh eq0 eq1 eq2 eq3
                have HR : Shut (Own w6 w.heap.size 4 M ∧ Own w6 (w.heap.size + 1) 4 N2 ∧ Own w6 (w.heap.size + 1 + 1) 4 A ∧ Now w.heap.size w w6) := shut ⟨HQ6.out.1, own_of HP.out.2.2.1 HF6.out HQ6.out.2.2.2, HQ6.out.2.1, HQ6.out.2.2.1⟩
                clear hneg
                go_wp2_with fail
                go_meet
                exact ⟨rfl, HR⟩
            case rest =>
              obtain ⟨rfl, hq⟩ := hcut
              obtain ⟨xc0, xc1, xc2, xc3⟩ := own_cells hq.out.2.1
              obtain ⟨xf0, xf1, xf2, xf3⟩ := own_frozen hq.out.2.1
              have xs0 := shift_word M2 0
              rw [HMN2.out.2] at xs0
              have xs1 := shift_word M2 1
              rw [HMN2.out.2] at xs1
              have xs2 := shift_word M2 2
              rw [HMN2.out.2] at xs2
              have xs3 := shift_word M2 3
              rw [HMN2.out.2] at xs3
              have HKB : Shut (A1.natAbs = M ∧ B1.natAbs = M2) := shut ⟨HMN.out.1, HMN2.out.1⟩
              have tur : Turns (w.heap.size + 1) wc (((((wc.setCell ⟨w.heap.size + 1, 0, none⟩ (.int .u64 (wd (M2) 0 : Nat))).setCell ⟨w.heap.size + 1, 1, none⟩ (.int .u64 (wd (M2) 1 : Nat))).setCell ⟨w.heap.size + 1, 2, none⟩ (.int .u64 (wd (M2) 2 : Nat))).setCell ⟨w.heap.size + 1, 3, none⟩ (.int .u64 (wd (M2) 3 : Nat)))) := ((((Turns.refl _ _).setAt 0 _).setAt 1 _).setAt 2 _).setAt 3 _
              have ho := own_stored wc (w.heap.size + 1) M2 _ _ _ _ xc0 xc1 xc2 xc3 xf0 xf1 xf2 xf3 hq.out.2.1.2
              have HKE : Shut (Keep w Z M M2 A (M + M2) l1 (((((wc.setCell ⟨w.heap.size + 1, 0, none⟩ (.int .u64 (wd (M2) 0 : Nat))).setCell ⟨w.heap.size + 1, 1, none⟩ (.int .u64 (wd (M2) 1 : Nat))).setCell ⟨w.heap.size + 1, 2, none⟩ (.int .u64 (wd (M2) 2 : Nat))).setCell ⟨w.heap.size + 1, 3, none⟩ (.int .u64 (wd (M2) 3 : Nat))))) := shut {
                now := hq.out.2.2.2.grows tur.grows (by omega)
                oa := hq.out.1.grows tur.grows (by omega)
                ob := ho
                os := hq.out.2.2.1.grows tur.grows (by omega)
                ha := by rw [← HKB.out.1]; exact HE.out.2.2.2.1
                hb := by rw [← HKB.out.2]; exact HE.out.2.2.2.2
                odd := by rw [← HKB.out.2]; exact HF.out.2.1
                one := HF.out.2.2.1
                sy := by rw [← HKB.out.1, ← HKB.out.2]; exact HF.out.2.2.2
                sum := Nat.le_refl _ }
              clear tur ho
              go_wp2_with fail
              go_roundg (M + M2)
              case measure => have h1 := HF.out.1; have h2 := HK.out.sum; have h3 := HKB.out.1; have h4 := HKB.out.2; omega
              case rel => exact ⟨M, M2, A, l1, rfl, HKE⟩
end Go.Proofs.Ytgcdhkbhobnojaa
