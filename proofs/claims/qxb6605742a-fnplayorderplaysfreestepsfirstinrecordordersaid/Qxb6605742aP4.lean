/- The statement: the free steps are played first. -/
import Derived.Test.Qxb6605742aOpn
import Derived.Test.Qxb6605742aF4
set_option linter.unusedVariables false
set_option maxRecDepth 100000
namespace Go.Proofs.Qxb6605742a.P4
open Go.Sx Go.ChangeShapes Go.WideShapes Go.ChangeAt Go.RowKit

theorem lifted (os : Os) (started : os.Started) (H : Type) (enc : TypeId × Value → H) :
    ReturnsInHanded {} Try.checked os 4 .any (Rows.fnPlayOrderPlaysFreeStepsFirstInRecordOrderSpec.pre6 enc Try.prog Try.f4 Rows.fnPlayOrderPlaysFreeStepsFirstInRecordOrderRow.domain false) (Rows.fnPlayOrderPlaysFreeStepsFirstInRecordOrderSpec.post enc Try.prog Try.f4 false true false false) := by
  refine returnsInHanded_of_change (C := Try.checked) Go.Proofs.Try.own started (by kernel_rfl) Try.func4
    (ChangeSpec.witness6 (enc := enc) (C := Try.checked) false ⟨#[], #[.slice none 0 0], []⟩ 8 (by kernel_rfl) (by kernel_rfl) (by kernel_rfl) (by kernel_rfl)) ?_
  intro W base args ds gs before hval0 hW hcnd _
  have hval : ∀ (j : Nat) t v, Try.f4.params[j]? = some t → args[j]? = some v → Value.okWide Try.prog W .any base t v := hval0
  have hW' := hW
  obtain ⟨p, q, hA0, hV, rfl, hfz, hnd⟩ := hW
  have hA : DataW.TrodAll enc Try.prog W 0 (fun _ => true) true Try.f4.params.toList args.toList ds p := hA0
  rw [Try.params4] at hA hval
  obtain ⟨v0, d0, rfl, rfl, h0⟩ := trodAll_one hA
  obtain ⟨rfl, rfl⟩ := trodVars_none hV
  obtain ⟨a, l, cap, rfl, hI⟩ := Go.Proofs.Try.steps_of (hval 0 22 v0 rfl rfl) h0
  clear hA0 hval0
  simp only [List.append_nil] at hW'
  have hlt : ∀ x ∈ p, x.block < W.heap.size := fun x hx => by simpa using hW'.lt x hx
  refine Calls.mono (Go.Proofs.Try.lawFree l a cap W hI) (fun e W' he => ?_)
  obtain ⟨v, rfl, rfl, hE⟩ := he
  have hb := Kp.below hE
  exact ⟨_, rfl, _, _, _, [], _, [], hW', trodAll_mk1 (shut_bool Try.underlying4 _),
    trodAll_mk1 (Below.trod Go.Proofs.Try.laidOut (by kernel_rfl) (of_decide_eq_true (by kernel_rfl)) h0 hb (fun x hx => hlt x (by simp [hx]))),
    rfl, hb.frame _, fun h => by cases h⟩

theorem proved : Rows.FnPlayOrderPlaysFreeStepsFirstInRecordOrderSaid :=
  OpenClaim.holds_of_wide 4 Try.f4 rfl rfl rfl rfl rfl rfl rfl ⟨rfl, rfl, rfl, rfl, rfl⟩ rfl rfl rfl rfl rfl (by kernel_rfl) Try.func4 (by kernel_rfl)
    (of_decide_eq_true (by kernel_rfl)) (by unfold Func.isWrapper; first | (rw [if_pos (by decide +kernel)]; kernel_rfl) | (rw [if_neg (by decide +kernel)]; exact ⟨rfl, rfl⟩))
    (fun os started H enc _ => lifted os started H enc)
end Go.Proofs.Qxb6605742a.P4
