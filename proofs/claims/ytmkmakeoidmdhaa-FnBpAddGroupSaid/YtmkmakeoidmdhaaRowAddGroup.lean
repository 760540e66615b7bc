/- For every three words of elements the statement on the sums of three returns true and leaves its arguments as they were. -/
import Derived.Test.YtmkmakeoidmdhaaLawAddGroup
import Derived.Test.YtmkmakeoidmdhaaOpen
namespace Go.Proofs.Ytmkmakeoidmdhaa
open Go.ChangeShapes Go.WideShapes Go.ChangeAt Go.RowKit Num

set_option maxRecDepth 100000 in
theorem fnBpAddGroup_lifted (os : Os) (started : os.Started) (H : Type) (enc : TypeId × Value → H) :
    ReturnsInHanded {} Try.checked os 7 .any (Rows.fnBpAddGroupSpec.pre6 enc Try.prog Try.f7 Rows.fnBpAddGroupRow.domain false) (Rows.fnBpAddGroupSpec.post enc Try.prog Try.f7 false true false false) := by
  refine returnsInHanded_of_change (C := Try.checked) Try.own started (by kernel_rfl) Try.func7
    (ChangeSpec.witness6 (enc := enc) (C := Try.checked) false ⟨#[], #[.agg #[.int .u64 0, .int .u64 0, .int .u64 0, .int .u64 0, .int .u64 0, .int .u64 0], .agg #[.int .u64 0, .int .u64 0, .int .u64 0, .int .u64 0, .int .u64 0, .int .u64 0], .agg #[.int .u64 0, .int .u64 0, .int .u64 0, .int .u64 0, .int .u64 0, .int .u64 0]], []⟩ 8 (by kernel_rfl) (by kernel_rfl) (by kernel_rfl) (by kernel_rfl)) ?_
  intro W base args ds gs before hval0 hW hcnd _
  have hval : ∀ (j : Nat) t v, Try.f7.params[j]? = some t → args[j]? = some v → Value.okWide Try.prog W .any base t v := hval0
  have hW' := hW
  obtain ⟨p, q, hA0, hV, rfl, hfz, hnd⟩ := hW
  have hA : DataW.TrodAll enc Try.prog W 0 (fun _ => true) true Try.f7.params.toList args.toList ds p := hA0
  rw [Try.params7] at hA hval
  obtain ⟨v0, v1, v2, d0, d1, d2, p0, p1, p2, rfl, rfl, rfl, h0, h1, h2⟩ := trodAll_three hA
  obtain ⟨rfl, rfl⟩ := trodVars_none hV
  have k0 := h0
  obtain ⟨X0, g0, rfl⟩ := open_arr (hval 0 23 v0 rfl rfl) h0
  have k1 := h1
  obtain ⟨X1, g1, rfl⟩ := open_arr (hval 1 23 v1 rfl rfl) h1
  have k2 := h2
  obtain ⟨X2, g2, rfl⟩ := open_arr (hval 2 23 v2 rfl rfl) h2
  have hlt := hW'.lt
  refine (law_addGroup X0 X1 X2 g0 g1 g2 W).mono fun e W' ⟨he, hb⟩ => ?_
  subst he
  exact ⟨_, rfl, _, _, _, [], _, [], hW', trodAll_mk1 (shut_bool Try.underlying4 _), trodAll_mk3 (Below.trod Try.laidOut (by kernel_rfl) (of_decide_eq_true (by kernel_rfl)) k0 hb (fun x hx => hlt x (by simp [hx]))) (Below.trod Try.laidOut (by kernel_rfl) (of_decide_eq_true (by kernel_rfl)) k1 hb (fun x hx => hlt x (by simp [hx]))) (Below.trod Try.laidOut (by kernel_rfl) (of_decide_eq_true (by kernel_rfl)) k2 hb (fun x hx => hlt x (by simp [hx]))), rfl, hb.frame _, fun h => by cases h⟩

/-- AddGroup: for every input the call returns true, and each argument reads as before. -/
theorem fnBpAddGroup_holds : Rows.FnBpAddGroupSaid :=
  OpenClaim.holds_of_wide 7 Try.f7 rfl rfl rfl rfl rfl rfl rfl ⟨rfl, rfl, rfl, rfl, rfl⟩ rfl rfl rfl rfl rfl (by kernel_rfl) Try.func7 (by kernel_rfl)
    (of_decide_eq_true (by kernel_rfl)) (by unfold Func.isWrapper; rw [if_neg (of_decide_eq_false (by kernel_rfl))]; exact ⟨rfl, rfl⟩)
    (fun os started H enc _ => fnBpAddGroup_lifted os started H enc)
end Go.Proofs.Ytmkmakeoidmdhaa
