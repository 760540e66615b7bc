/- For every two lists of words of elements the statement on their differences returns true and leaves its arguments as they were. -/
import Derived.Test.YtdocgdodahjooaaLawVecSub
import Derived.Test.YtdocgdodahjooaaOpenVec
namespace Go.Proofs.Ytdocgdodahjooaa
open Go.ChangeShapes Go.WideShapes Go.ChangeAt Go.RowKit Num

set_option maxRecDepth 100000 in
theorem fnNrVecSub_lifted (os : Os) (started : os.Started) (H : Type) (enc : TypeId × Value → H) :
    ReturnsInHanded {} Try.checked os 10 .any (Rows.fnNrVecSubSpec.pre6 enc Try.prog Try.f10 Rows.fnNrVecSubRow.domain false) (Rows.fnNrVecSubSpec.post enc Try.prog Try.f10 false true false false) := by
  refine returnsInHanded_of_change (C := Try.checked) Try.own started (by kernel_rfl) Try.func10
    (ChangeSpec.witness6 (enc := enc) (C := Try.checked) false ⟨#[], #[.slice none 0 0, .slice none 0 0], []⟩ 8 (by kernel_rfl) (by kernel_rfl) (by kernel_rfl) (by kernel_rfl)) ?_
  intro W base args ds gs before hval0 hW hcnd _
  have hval : ∀ (j : Nat) t v, Try.f10.params[j]? = some t → args[j]? = some v → Value.okWide Try.prog W .any base t v := hval0
  have hW' := hW
  obtain ⟨p, q, hA0, hV, rfl, hfz, hnd⟩ := hW
  have hA : DataW.TrodAll enc Try.prog W 0 (fun _ => true) true Try.f10.params.toList args.toList ds p := hA0
  rw [Try.params10] at hA hval
  obtain ⟨v0, v1, d0, d1, p0, p1, rfl, rfl, rfl, h0, h1⟩ := trodAll_two hA
  obtain ⟨rfl, rfl⟩ := trodVars_none hV
  have k0 := h0
  obtain ⟨ao0, n0, c0, b0, o0, A0, rfl, g0, u0, l0⟩ := open_vec (hval 0 37 v0 rfl rfl) h0
  have k1 := h1
  obtain ⟨ao1, n1, c1, b1, o1, A1, rfl, g1, u1, l1⟩ := open_vec (hval 1 37 v1 rfl rfl) h1
  have hlt := hW'.lt
  refine (law_vecSub ao0 ao1 n0 n1 c0 c1 b0 o0 b1 o1 A0 A1 W g0 g1 u0 u1 l0 l1).mono fun e W' ⟨he, hb⟩ => ?_
  subst he
  exact ⟨_, rfl, _, _, _, [], _, [], hW', trodAll_mk1 (shut_bool Try.underlying4 _), trodAll_mk2 (Below.trod Try.laidOut (by kernel_rfl) (of_decide_eq_true (by kernel_rfl)) k0 hb (fun x hx => hlt x (by simp [hx]))) (Below.trod Try.laidOut (by kernel_rfl) (of_decide_eq_true (by kernel_rfl)) k1 hb (fun x hx => hlt x (by simp [hx]))), rfl, hb.frame _, fun h => by cases h⟩

/-- VecSub: for every input the call returns true, and each argument reads as before. -/
theorem fnNrVecSub_holds : Rows.FnNrVecSubSaid :=
  OpenClaim.holds_of_wide 10 Try.f10 rfl rfl rfl rfl rfl rfl rfl ⟨rfl, rfl, rfl, rfl, rfl⟩ rfl rfl rfl rfl rfl (by kernel_rfl) Try.func10 (by kernel_rfl)
    (of_decide_eq_true (by kernel_rfl)) (by unfold Func.isWrapper; rw [if_neg (of_decide_eq_false (by kernel_rfl))]; exact ⟨rfl, rfl⟩)
    (fun os started H enc _ => fnNrVecSub_lifted os started H enc)
end Go.Proofs.Ytdocgdodahjooaa
