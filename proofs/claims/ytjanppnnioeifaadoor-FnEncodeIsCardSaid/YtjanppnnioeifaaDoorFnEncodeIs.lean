/- FnEncodeIs: for every input the law answers true, and what was there reads as it did. Conditions: none beyond the row's own. -/
import Derived.Test.YtjanppnnioeifaaDoorRow
import Derived.Test.YtjanppnnioeifaaDoorLaid
import Derived.Test.YtjanppnnioeifaaDoorOpenPt
import Derived.Test.YtjanppnnioeifaaDoorEncW
import Derived.Test.YtjanppnnioeifaaDoorCards
import Derived.Test.YtjanppnnioeifaaDoorTie
namespace Go.Proofs.YtjanppnnioeifaaDoor
open Go Go.ChangeShapes Go.WideShapes Go.ChangeAt Go.WideMaps Go.WideElems Go.RowKit
set_option maxRecDepth 100000
theorem own : ownKnob Tryd.prog.godebug = none := by kernel_rfl
theorem laidOut : laidOutB Tryd.prog = true := by kernel_rfl
theorem cells22 : Tryd.prog.cellsOf 22 = 56 := by kernel_rfl
theorem cells5 : Tryd.prog.cellsOf 5 = 1 := by kernel_rfl
/-- What the listed variables read as. -/
noncomputable def laidL : List (String × DataW Unit) := [("loop.example/pub-g03032/pub/circl/math/fp448.p", Rows.laid_loop_example_pub_g03032_pub_circl_math_fp448_p), ("loop.example/pub-g03032/pub/circl/ecc/goldilocks.paramD", Rows.laid_loop_example_pub_g03032_pub_circl_ecc_goldilocks_paramD)]
theorem door_met (os : Os) (args : Array Value) : laidMetH Tryd.prog laidL ((World.doorLaid Tryd.prog 400 os).forCall (fun _ _ => 0) ⟨#[], args, []⟩).memory :=
  laidMetH_of_parts3 (fuel := 8) (laidMet_of_run' 8 (by kernel_rfl) (by kernel_rfl)) (by kernel_rfl) (by kernel_rfl)
theorem cells82 : Tryd.prog.cellsOf 82 = 56 := by kernel_rfl
theorem laid_all {W : World} (h : laidMetH Tryd.prog laidL W) : (∃ t, W.heap[3]? = some (.cells (EE [pp]).toArray t (0, 0))) ∧ (∃ t, W.heap[0]? = some (.cells (EE [dP]).toArray t (0, 0))) := by
  rw [MakeChecks.laidMetH_plain _ _ _ (by kernel_rfl)] at h
  have h0 : laidMet Tryd.prog [("loop.example/pub-g03032/pub/circl/math/fp448.p", (eltData pp)), ("loop.example/pub-g03032/pub/circl/ecc/goldilocks.paramD", (eltData dP))] W := (show laidL = [("loop.example/pub-g03032/pub/circl/math/fp448.p", (eltData pp)), ("loop.example/pub-g03032/pub/circl/ecc/goldilocks.paramD", (eltData dP))] by kernel_rfl) ▸ h
  have h1 : laidMet Tryd.prog [("loop.example/pub-g03032/pub/circl/ecc/goldilocks.paramD", (eltData dP))] W := laid_tail h0
  exact ⟨laid_elt (T := 82) (by kernel_rfl) (by kernel_rfl) Tryd.underlying82 Tryd.underlying5 cells5 cells82 h0, laid_elt (T := 82) (by kernel_rfl) (by kernel_rfl) Tryd.underlying82 Tryd.underlying5 cells5 cells82 h1⟩
set_option maxRecDepth 100000 in
theorem lifted (os : Os) (started : os.Started) (H : Type) (enc : TypeId × Value → H) :
    ReturnsInHanded {} Tryd.checked os 7 .any (fun w args => (Rows.fnEncodeIsSpec.pre enc Tryd.prog Tryd.f7 [] false w args ∧ laidMetH Tryd.prog laidL w) ∧ sizedMet enc Tryd.prog Tryd.f7 (OpenSpec.ofChange Rows.fnEncodeIsSpec) false w args)
      (Rows.fnEncodeIsSpec.post enc Tryd.prog Tryd.f7 false true false false) := by
  refine returnsInHanded_of_change_and (C := Tryd.checked) (X := fun w _ => laidMetH Tryd.prog laidL w) (fun _ _ _ hh h => h.of_heap hh) own started (by kernel_rfl) Tryd.func7
    (ChangeSpec.witness_shaped (enc := enc) (C := Tryd.checked) (os := os) (X := fun w _ => laidMetH Tryd.prog laidL w) false (World.doorLaid Tryd.prog 400 os) #[.agg (EE [0, 0]).toArray] 8 rfl (World.shaped_of_RefB (by kernel_rfl) (by kernel_rfl)) (by kernel_rfl) (by kernel_rfl) (by kernel_rfl) (door_met os _)) ?_
  intro W base args ds gs before hval0 hW _ _ hL _
  have hval : ∀ (j : Nat) t v, Tryd.f7.params[j]? = some t → args[j]? = some v → Value.okWide Tryd.prog W .any base t v := hval0
  have hW' := hW
  obtain ⟨p, q, hA0, hV, rfl, hfz, hnd⟩ := hW
  have hA : DataW.TrodAll enc Tryd.prog W 0 (fun _ => true) true Tryd.f7.params.toList args.toList ds p := hA0
  rw [Tryd.params7] at hA hval
  obtain ⟨v0, d0, rfl, rfl, h0⟩ := trodAll_one hA
  obtain ⟨_, _, _, _, g0, _, _, _, _, _, g1, _, rfl, _, _, _, _, _, _, _, _, _⟩ := trodVars_two hV
  obtain ⟨x0, y0, hx0, hy0, rfl⟩ := open_pt (T := 22) Tryd.underlying24 (by kernel_rfl) (by kernel_rfl) Tryd.underlying22 Tryd.underlying5 (by kernel_rfl) cells5 cells22 (hval 0 24 v0 rfl rfl) h0
  obtain ⟨⟨t0, hg0⟩, ⟨t1, hg1⟩⟩ := laid_all hL
  refine (calls_true (fnEncodeIs_ct (ig := 0) (jd := 1) (M := [⟨3, t0, EE [pp]⟩, ⟨0, t1, EE [dP]⟩]) rfl rfl hx0 hy0) (has_cons hg0 (by simp [ids]) (has_cons hg1 (by simp [ids]) (has_nil _)))).mono fun e W' ⟨he, hb⟩ => ?_
  subst he
  exact ⟨_, rfl, post_true laidOut (by kernel_rfl) (by kernel_rfl) hW' hb rfl (by kernel_rfl) Tryd.underlying4⟩

theorem fnEncodeIs_holds : Rows.FnEncodeIsSaid :=
  OpenClaim.holds_of_wide 7 Tryd.f7 rfl rfl rfl rfl rfl rfl rfl ⟨rfl, rfl, rfl, rfl, rfl⟩ rfl rfl rfl rfl rfl (by kernel_rfl) Tryd.func7 (by kernel_rfl)
    (of_decide_eq_true (by kernel_rfl)) (by unfold Func.isWrapper; first | (rw [if_pos (by decide +kernel)]; kernel_rfl) | (rw [if_neg (by decide +kernel)]; exact ⟨rfl, rfl⟩))
    (fun os started H enc _ => lifted os started H enc)

/-- The law answers true for every input. The listed variable is tied to the program's text. -/
theorem fnEncodeIs_card : Rows.FnEncodeIsCardSaid :=
  Claim7.holds_tied_plain_at .later [] [.data, .data] true (true, "f2bb5c1f2e593315e2318d579bbeb0b22a4e389c178871533326b9d34c87644d") false
    fnEncodeIs_holds (fun _ h => by cases h) (by kernel_rfl) (fun _ h => by cases h) fnEncodeIs_row_tie rfl ⟨rfl, rfl⟩ (by kernel_rfl) rfl
    (fun f fn hf hfn => by
      obtain rfl : f = 7 := Option.some.inj ((show Tryd.prog.funcNamed "loop.example/pub-g03032/laws.FnEncodeIs" = some 7 by kernel_rfl).symm.trans hf) |>.symm
      obtain rfl : fn = Tryd.f7 := (Option.some.inj (Tryd.func7.symm.trans hfn)).symm
      exact ⟨by kernel_rfl, fun j t ht => by
        rw [Tryd.params7] at ht
        have hm : t ∈ [24] := by simpa using Array.mem_of_getElem? ht
        have hall : ([24].all fun u => !Tryd.prog.wantsStandIn u) = true := by kernel_rfl
        exact (show Tryd.prog.wantsStandIn t = false by simpa using List.all_eq_true.1 hall t hm)⟩)
    (by kernel_rfl)
#print axioms fnEncodeIs_card
end Go.Proofs.YtjanppnnioeifaaDoor
