/- FnMove: for every input the law answers true, and what was there reads as it did. Conditions: none beyond the row's own. -/
import Derived.Test.YtcddfhafnaobjaaRow
import Derived.Test.YtcddfhafnaobjaaMoveL
import Derived.Test.YtcddfhafnaobjaaRows
namespace Go.Proofs.Ytcddfhafnaobjaa
open Go Go.ChangeShapes Go.WideShapes Go.ChangeAt Go.WideMaps Go.WideElems Go.RowKit
set_option maxRecDepth 100000
theorem own : ownKnob Try.prog.godebug = none := by kernel_rfl
theorem laidOut : laidOutB Try.prog = true := by kernel_rfl
theorem cells22 : Try.prog.cellsOf 22 = 56 := by kernel_rfl
theorem cells5 : Try.prog.cellsOf 5 = 1 := by kernel_rfl
set_option maxRecDepth 100000 in
theorem lifted (os : Os) (started : os.Started) (H : Type) (enc : TypeId × Value → H) :
    ReturnsInHanded {} Try.checked os 3 .any (Rows.fnMoveSpec.pre6 enc Try.prog Try.f3 Rows.fnMoveRow.domain false) (Rows.fnMoveSpec.post enc Try.prog Try.f3 false true false false) := by
  refine returnsInHanded_of_change (C := Try.checked) own started (by kernel_rfl) Try.func3
    (ChangeSpec.witness6 (enc := enc) (C := Try.checked) false ⟨#[], #[.agg (E 0).toArray, .agg (E 0).toArray, .bool false], []⟩ 8 (by kernel_rfl) (by kernel_rfl) (by kernel_rfl) (by kernel_rfl)) ?_
  intro W base args ds gs before hval0 hW _ _
  have hval : ∀ (j : Nat) t v, Try.f3.params[j]? = some t → args[j]? = some v → Value.okWide Try.prog W .any base t v := hval0
  have hW' := hW
  obtain ⟨p, q, hA0, hV, rfl, hfz, hnd⟩ := hW
  have hA : DataW.TrodAll enc Try.prog W 0 (fun _ => true) true Try.f3.params.toList args.toList ds p := hA0
  rw [Try.params3] at hA hval
  obtain ⟨v0, v1, v2, d0, d1, d2, p0, p1, p2, rfl, rfl, rfl, h0, h1, h2⟩ := trodAll_three hA
  obtain ⟨rfl, rfl⟩ := trodVars_none hV
  obtain ⟨a0, ha0, rfl⟩ := open_elt Try.underlying22 Try.underlying5 cells5 cells22 (hval 0 22 v0 rfl rfl) h0
  obtain ⟨a1, ha1, rfl⟩ := open_elt Try.underlying22 Try.underlying5 cells5 cells22 (hval 1 22 v1 rfl rfl) h1
  obtain ⟨b2, rfl, _, _⟩ := open_bool Try.underlying4 (hval 2 4 v2 rfl rfl) h2
  refine (calls_true (fnMove_ct (M := []) ha0 ha1) ⟨fun b hb => (by cases hb), List.nodup_nil⟩).mono fun e W' ⟨he, hb⟩ => ?_
  subst he
  exact ⟨_, rfl, post_true laidOut (by kernel_rfl) (by kernel_rfl) hW' hb rfl (by kernel_rfl) Try.underlying4⟩

theorem fnMove_holds : Rows.FnMoveSaid :=
  OpenClaim.holds_of_wide 3 Try.f3 rfl rfl rfl rfl rfl rfl rfl ⟨rfl, rfl, rfl, rfl, rfl⟩ rfl rfl rfl rfl rfl (by kernel_rfl) Try.func3 (by kernel_rfl)
    (of_decide_eq_true (by kernel_rfl)) (by unfold Func.isWrapper; first | (rw [if_pos (by decide +kernel)]; kernel_rfl) | (rw [if_neg (by decide +kernel)]; exact ⟨rfl, rfl⟩))
    (fun os started H enc _ => lifted os started H enc)
#print axioms fnMove_holds
end Go.Proofs.Ytcddfhafnaobjaa
