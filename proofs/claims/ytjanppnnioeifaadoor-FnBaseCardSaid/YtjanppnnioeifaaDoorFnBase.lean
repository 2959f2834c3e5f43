/- FnBase: for every input the law answers true, and what was there reads as it did. Conditions: none beyond the row's own. -/
import Derived.Test.YtjanppnnioeifaaDoorRow
import Derived.Test.YtjanppnnioeifaaDoorLaid
import Derived.Test.YtjanppnnioeifaaDoorOpenPt
import Derived.Test.YtjanppnnioeifaaDoorPtFnBase
import Derived.Test.YtjanppnnioeifaaDoorCards
import Derived.Test.YtjanppnnioeifaaDoorTie
namespace Go.Proofs.YtjanppnnioeifaaDoor
open Go Go.ChangeShapes Go.WideShapes Go.ChangeAt Go.WideMaps Go.WideElems Go.RowKit
set_option maxRecDepth 100000
theorem own : ownKnob Tryd.prog.godebug = none := by kernel_rfl
theorem laidOut : laidOutB Tryd.prog = true := by kernel_rfl
theorem cells22 : Tryd.prog.cellsOf 22 = 56 := by kernel_rfl
theorem cells5 : Tryd.prog.cellsOf 5 = 1 := by kernel_rfl
/-- What the listed variables read as. -/
noncomputable def laidL : List (String × DataW Unit) := [("loop.example/pub-g03032/pub/circl/math/fp448.p", Rows.laid_loop_example_pub_g03032_pub_circl_math_fp448_p), ("loop.example/pub-g03032/pub/circl/ecc/goldilocks.genX", Rows.laid_loop_example_pub_g03032_pub_circl_ecc_goldilocks_genX), ("loop.example/pub-g03032/pub/circl/ecc/goldilocks.genY", Rows.laid_loop_example_pub_g03032_pub_circl_ecc_goldilocks_genY), ("loop.example/pub-g03032/pub/circl/ecc/goldilocks.paramD", Rows.laid_loop_example_pub_g03032_pub_circl_ecc_goldilocks_paramD)]
theorem door_met (os : Os) (args : Array Value) : laidMetH Tryd.prog laidL ((World.doorLaid Tryd.prog 400 os).forCall (fun _ _ => 0) ⟨#[], args, []⟩).memory :=
  laidMetH_of_parts3 (fuel := 8) (laidMet_of_run' 8 (by kernel_rfl) (by kernel_rfl)) (by kernel_rfl) (by kernel_rfl)
theorem cells82 : Tryd.prog.cellsOf 82 = 56 := by kernel_rfl
theorem laid_all {W : World} (h : laidMetH Tryd.prog laidL W) : (∃ t, W.heap[3]? = some (.cells (EE [pp]).toArray t (0, 0))) ∧ (∃ t, W.heap[1]? = some (.cells (EE [gXn]).toArray t (0, 0))) ∧ (∃ t, W.heap[2]? = some (.cells (EE [gYn]).toArray t (0, 0))) ∧ (∃ t, W.heap[0]? = some (.cells (EE [dP]).toArray t (0, 0))) := by
  rw [MakeChecks.laidMetH_plain _ _ _ (by kernel_rfl)] at h
  have h0 : laidMet Tryd.prog [("loop.example/pub-g03032/pub/circl/math/fp448.p", (eltData pp)), ("loop.example/pub-g03032/pub/circl/ecc/goldilocks.genX", (eltData gXn)), ("loop.example/pub-g03032/pub/circl/ecc/goldilocks.genY", (eltData gYn)), ("loop.example/pub-g03032/pub/circl/ecc/goldilocks.paramD", (eltData dP))] W := (show laidL = [("loop.example/pub-g03032/pub/circl/math/fp448.p", (eltData pp)), ("loop.example/pub-g03032/pub/circl/ecc/goldilocks.genX", (eltData gXn)), ("loop.example/pub-g03032/pub/circl/ecc/goldilocks.genY", (eltData gYn)), ("loop.example/pub-g03032/pub/circl/ecc/goldilocks.paramD", (eltData dP))] by kernel_rfl) ▸ h
  have h1 : laidMet Tryd.prog [("loop.example/pub-g03032/pub/circl/ecc/goldilocks.genX", (eltData gXn)), ("loop.example/pub-g03032/pub/circl/ecc/goldilocks.genY", (eltData gYn)), ("loop.example/pub-g03032/pub/circl/ecc/goldilocks.paramD", (eltData dP))] W := laid_tail h0
  have h2 : laidMet Tryd.prog [("loop.example/pub-g03032/pub/circl/ecc/goldilocks.genY", (eltData gYn)), ("loop.example/pub-g03032/pub/circl/ecc/goldilocks.paramD", (eltData dP))] W := laid_tail h1
  have h3 : laidMet Tryd.prog [("loop.example/pub-g03032/pub/circl/ecc/goldilocks.paramD", (eltData dP))] W := laid_tail h2
  exact ⟨laid_elt (T := 82) (by kernel_rfl) (by kernel_rfl) Tryd.underlying82 Tryd.underlying5 cells5 cells82 h0, laid_elt (T := 82) (by kernel_rfl) (by kernel_rfl) Tryd.underlying82 Tryd.underlying5 cells5 cells82 h1, laid_elt (T := 82) (by kernel_rfl) (by kernel_rfl) Tryd.underlying82 Tryd.underlying5 cells5 cells82 h2, laid_elt (T := 82) (by kernel_rfl) (by kernel_rfl) Tryd.underlying82 Tryd.underlying5 cells5 cells82 h3⟩
set_option maxRecDepth 100000 in
theorem lifted (os : Os) (started : os.Started) (H : Type) (enc : TypeId × Value → H) :
    ReturnsInHanded {} Tryd.checked os 6 .any (fun w args => (Rows.fnBaseSpec.pre enc Tryd.prog Tryd.f6 [] false w args ∧ laidMetH Tryd.prog laidL w) ∧ sizedMet enc Tryd.prog Tryd.f6 (OpenSpec.ofChange Rows.fnBaseSpec) false w args)
      (Rows.fnBaseSpec.post enc Tryd.prog Tryd.f6 false true false false) := by
  refine returnsInHanded_of_change_and (C := Tryd.checked) (X := fun w _ => laidMetH Tryd.prog laidL w) (fun _ _ _ hh h => h.of_heap hh) own started (by kernel_rfl) Tryd.func6
    (ChangeSpec.witness_shaped (enc := enc) (C := Tryd.checked) (os := os) (X := fun w _ => laidMetH Tryd.prog laidL w) false (World.doorLaid Tryd.prog 400 os) #[.agg (E 0).toArray] 8 rfl (World.shaped_of_RefB (by kernel_rfl) (by kernel_rfl)) (by kernel_rfl) (by kernel_rfl) (by kernel_rfl) (door_met os _)) ?_
  intro W base args ds gs before hval0 hW _ _ hL _
  have hval : ∀ (j : Nat) t v, Tryd.f6.params[j]? = some t → args[j]? = some v → Value.okWide Tryd.prog W .any base t v := hval0
  have hW' := hW
  obtain ⟨p, q, hA0, hV, rfl, hfz, hnd⟩ := hW
  have hA : DataW.TrodAll enc Tryd.prog W 0 (fun _ => true) true Tryd.f6.params.toList args.toList ds p := hA0
  rw [Tryd.params6] at hA hval
  obtain ⟨v0, d0, rfl, rfl, h0⟩ := trodAll_one hA
  obtain ⟨g0, g1, g2, g3, rfl⟩ := four_list (trodVars_len hV)
  obtain ⟨a0, ha0, rfl⟩ := open_elt Tryd.underlying22 Tryd.underlying5 cells5 cells22 (hval 0 22 v0 rfl rfl) h0
  obtain ⟨⟨t0, hg0⟩, ⟨t1, hg1⟩, ⟨t2, hg2⟩, ⟨t3, hg3⟩⟩ := laid_all hL
  refine (calls_true (fnBase_ct (ig := 0) (jx := 1) (jy := 2) (jd := 3) (M := [⟨3, t0, EE [pp]⟩, ⟨1, t1, EE [gXn]⟩, ⟨2, t2, EE [gYn]⟩, ⟨0, t3, EE [dP]⟩]) rfl rfl rfl rfl ha0) (has_cons hg0 (by simp [ids]) (has_cons hg1 (by simp [ids]) (has_cons hg2 (by simp [ids]) (has_cons hg3 (by simp [ids]) (has_nil _)))))).mono fun e W' ⟨he, hb⟩ => ?_
  subst he
  exact ⟨_, rfl, post_true laidOut (by kernel_rfl) (by kernel_rfl) hW' hb rfl (by kernel_rfl) Tryd.underlying4⟩

theorem fnBase_holds : Rows.FnBaseSaid :=
  OpenClaim.holds_of_wide 6 Tryd.f6 rfl rfl rfl rfl rfl rfl rfl ⟨rfl, rfl, rfl, rfl, rfl⟩ rfl rfl rfl rfl rfl (by kernel_rfl) Tryd.func6 (by kernel_rfl)
    (of_decide_eq_true (by kernel_rfl)) (by unfold Func.isWrapper; first | (rw [if_pos (by decide +kernel)]; kernel_rfl) | (rw [if_neg (by decide +kernel)]; exact ⟨rfl, rfl⟩))
    (fun os started H enc _ => lifted os started H enc)

/-- The law answers true for every input. The listed variable is tied to the program's text. -/
theorem fnBase_card : Rows.FnBaseCardSaid :=
  Claim7.holds_tied_plain_at .later [] [.data, .data, .data, .data] true (true, "f2bb5c1f2e593315e2318d579bbeb0b22a4e389c178871533326b9d34c87644d") false
    fnBase_holds (fun _ h => by cases h) (by kernel_rfl) (fun _ h => by cases h) fnBase_row_tie rfl ⟨rfl, rfl⟩ (by kernel_rfl) rfl
    (fun f fn hf hfn => by
      obtain rfl : f = 6 := Option.some.inj ((show Tryd.prog.funcNamed "loop.example/pub-g03032/laws.FnBase" = some 6 by kernel_rfl).symm.trans hf) |>.symm
      obtain rfl : fn = Tryd.f6 := (Option.some.inj (Tryd.func6.symm.trans hfn)).symm
      exact ⟨by kernel_rfl, fun j t ht => by
        rw [Tryd.params6] at ht
        have hm : t ∈ [22] := by simpa using Array.mem_of_getElem? ht
        have hall : ([22].all fun u => !Tryd.prog.wantsStandIn u) = true := by kernel_rfl
        exact (show Tryd.prog.wantsStandIn t = false by simpa using List.all_eq_true.1 hall t hm)⟩)
    (by kernel_rfl)
#print axioms fnBase_card
end Go.Proofs.YtjanppnnioeifaaDoor
