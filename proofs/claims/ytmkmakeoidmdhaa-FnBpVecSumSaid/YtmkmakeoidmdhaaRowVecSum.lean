/- For every list of words of elements the statement on its sum returns true and leaves its argument as it was. -/
import Derived.Test.YtmkmakeoidmdhaaLawVecSum
import Derived.Test.YtmkmakeoidmdhaaOpenVec
namespace Go.Proofs.Ytmkmakeoidmdhaa
open Go.ChangeShapes Go.WideShapes Go.ChangeAt Go.RowKit Num

set_option maxRecDepth 100000 in
theorem fnBpVecSum_lifted (os : Os) (started : os.Started) (H : Type) (enc : TypeId × Value → H) :
    ReturnsInHanded {} Try.checked os 9 .any (Rows.fnBpVecSumSpec.pre6 enc Try.prog Try.f9 Rows.fnBpVecSumRow.domain false) (Rows.fnBpVecSumSpec.post enc Try.prog Try.f9 false true false false) := by
  refine returnsInHanded_of_change (C := Try.checked) Try.own started (by kernel_rfl) Try.func9
    (ChangeSpec.witness6 (enc := enc) (C := Try.checked) false ⟨#[], #[.slice none 0 0], []⟩ 8 (by kernel_rfl) (by kernel_rfl) (by kernel_rfl) (by kernel_rfl)) ?_
  intro W base args ds gs before hval0 hW hcnd _
  have hval : ∀ (j : Nat) t v, Try.f9.params[j]? = some t → args[j]? = some v → Value.okWide Try.prog W .any base t v := hval0
  have hW' := hW
  obtain ⟨p, q, hA0, hV, rfl, hfz, hnd⟩ := hW
  have hA : DataW.TrodAll enc Try.prog W 0 (fun _ => true) true Try.f9.params.toList args.toList ds p := hA0
  rw [Try.params9] at hA hval
  obtain ⟨v0, d0, rfl, rfl, h0⟩ := trodAll_one hA
  obtain ⟨rfl, rfl⟩ := trodVars_none hV
  have k0 := h0
  obtain ⟨ao0, n0, c0, b0, o0, A0, rfl, g0, u0, l0⟩ := open_vec (hval 0 37 v0 rfl rfl) h0
  have hlt := hW'.lt
  refine (law_vecSum ao0 n0 c0 b0 o0 A0 W g0 u0 l0).mono fun e W' ⟨he, hb⟩ => ?_
  subst he
  exact ⟨_, rfl, _, _, _, [], _, [], hW', trodAll_mk1 (shut_bool Try.underlying4 _), trodAll_mk1 (Below.trod Try.laidOut (by kernel_rfl) (of_decide_eq_true (by kernel_rfl)) k0 hb (fun x hx => hlt x (by simp [hx]))), rfl, hb.frame _, fun h => by cases h⟩

/-- VecSum: for every input the call returns true, and each argument reads as before. -/
theorem fnBpVecSum_holds : Rows.FnBpVecSumSaid :=
  OpenClaim.holds_of_wide 9 Try.f9 rfl rfl rfl rfl rfl rfl rfl ⟨rfl, rfl, rfl, rfl, rfl⟩ rfl rfl rfl rfl rfl (by kernel_rfl) Try.func9 (by kernel_rfl)
    (of_decide_eq_true (by kernel_rfl)) (by unfold Func.isWrapper; rw [if_neg (of_decide_eq_false (by kernel_rfl))]; exact ⟨rfl, rfl⟩)
    (fun os started H enc _ => fnBpVecSum_lifted os started H enc)
end Go.Proofs.Ytmkmakeoidmdhaa
