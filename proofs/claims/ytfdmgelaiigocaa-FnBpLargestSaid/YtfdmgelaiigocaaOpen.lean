/- How an element reads as data: its words; and the frame of a law's row. -/
import Derived.Test.YtfdmgelaiigocaaImpl
import Derived.ProofKit
import Derived.OpenShut
namespace Go.Proofs.Ytfdmgelaiigocaa
open Go.ChangeShapes Go.WideShapes Go.ChangeAt Go.RowKit Num

theorem Try.own : ownKnob Try.prog.godebug = none := by kernel_rfl
theorem Try.laidOut : laidOutB Try.prog = true := by kernel_rfl
theorem Try.arr : Try.prog.underlying 23 = some (.array 6 22) := by kernel_rfl
theorem Try.arrCells : Try.prog.cellsOf 23 = 6 := by kernel_rfl
theorem Try.u64 : Try.prog.underlying 22 = some (.int .u64) := by kernel_rfl
theorem Try.u64Cells : Try.prog.cellsOf 22 = 1 := by kernel_rfl

theorem wd_of_wf {x : Int} (h : (Lit.int .u64 x).wf = true) : Wd x := by
  simp [Lit.wf, IntKind.min, IntKind.max, IntKind.signed, IntKind.bits] at h
  exact ⟨by omega, by omega⟩

/-- A value that reads as an array of words is the words of a number. -/
theorem open_arr {H : Type} {enc : TypeId × Value → H} {W : World} {b0 base : Nat} {spare : Nat → Bool} {held : Bool} {v : Value} {d : DataW H} {p : List MemPlace}
    (hv : Value.okWide Try.prog W .any b0 23 v) (h : DataW.Trod enc Try.prog W base spare held 23 v d p) : ∃ A : Nat, A < 39402006196394479212279040100143613805079739270465446667948293404245721771497210611414266254884915640806627990306816 ∧ v = el A := by
  simp only [Value.okWide, Try.arr] at hv
  obtain ⟨cs, rfl, hsz, -⟩ := hv
  rw [Try.arrCells] at hsz
  obtain ⟨l⟩ := cs
  simp only [List.size_toArray] at hsz
  match l, hsz with
  | [c0, c1, c2, c3, c4, c5], _ =>
    obtain ⟨fuel, hf⟩ := h
    obtain ⟨xs, m, -, -, -, hl, he⟩ := DataW.trod_array Try.arr hf
    rw [Try.u64Cells] at he
    have e0 := he 0 (by decide)
    rw [List.getElem?_eq_getElem (by omega)] at e0
    obtain ⟨n0, q0, -, w0⟩ := DataW.trod_int Try.u64 e0
    simp [Value.cells] at q0
    have e1 := he 1 (by decide)
    rw [List.getElem?_eq_getElem (by omega)] at e1
    obtain ⟨n1, q1, -, w1⟩ := DataW.trod_int Try.u64 e1
    simp [Value.cells] at q1
    have e2 := he 2 (by decide)
    rw [List.getElem?_eq_getElem (by omega)] at e2
    obtain ⟨n2, q2, -, w2⟩ := DataW.trod_int Try.u64 e2
    simp [Value.cells] at q2
    have e3 := he 3 (by decide)
    rw [List.getElem?_eq_getElem (by omega)] at e3
    obtain ⟨n3, q3, -, w3⟩ := DataW.trod_int Try.u64 e3
    simp [Value.cells] at q3
    have e4 := he 4 (by decide)
    rw [List.getElem?_eq_getElem (by omega)] at e4
    obtain ⟨n4, q4, -, w4⟩ := DataW.trod_int Try.u64 e4
    simp [Value.cells] at q4
    have e5 := he 5 (by decide)
    rw [List.getElem?_eq_getElem (by omega)] at e5
    obtain ⟨n5, q5, -, w5⟩ := DataW.trod_int Try.u64 e5
    simp [Value.cells] at q5
    subst c0 c1 c2 c3 c4 c5
    have hn : ∃ A : Nat, num n0 n1 n2 n3 n4 n5 = (A : Int) := ⟨(num n0 n1 n2 n3 n4 n5).toNat, (Int.toNat_of_nonneg (num_pos (wd_of_wf w0) (wd_of_wf w1) (wd_of_wf w2) (wd_of_wf w3) (wd_of_wf w4) (wd_of_wf w5))).symm⟩
    obtain ⟨A, hA⟩ := hn
    have ht := num_top (wd_of_wf w0) (wd_of_wf w1) (wd_of_wf w2) (wd_of_wf w3) (wd_of_wf w4) (wd_of_wf w5)
    obtain ⟨r0, r1, r2, r3, r4, r5⟩ := wd_num (wd_of_wf w0) (wd_of_wf w1) (wd_of_wf w2) (wd_of_wf w3) (wd_of_wf w4) (wd_of_wf w5) hA
    refine ⟨A, by rw [hA] at ht; omega, ?_⟩
    unfold el
    rw [r0, r1, r2, r3, r4, r5]

end Go.Proofs.Ytfdmgelaiigocaa
