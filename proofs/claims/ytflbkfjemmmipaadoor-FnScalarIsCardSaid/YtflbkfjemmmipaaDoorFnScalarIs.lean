/- FnScalarIs: for every input the law answers true, and what was there reads as it did. Conditions: none beyond the row's own. -/
import Derived.Test.YtflbkfjemmmipaaDoorRow
import Derived.Test.YtflbkfjemmmipaaDoorLaid
import Derived.Test.YtflbkfjemmmipaaDoorSLFnScalarIs
import Derived.Test.YtflbkfjemmmipaaDoorCards
import Derived.Test.YtflbkfjemmmipaaDoorTie
namespace Go.Proofs.YtflbkfjemmmipaaDoor
open Go Go.ChangeShapes Go.WideShapes Go.ChangeAt Go.WideMaps Go.WideElems Go.RowKit
set_option maxRecDepth 100000
theorem own : ownKnob Tryd.prog.godebug = none := by kernel_rfl
theorem laidOut : laidOutB Tryd.prog = true := by kernel_rfl
theorem cells22 : Tryd.prog.cellsOf 22 = 56 := by kernel_rfl
theorem cells5 : Tryd.prog.cellsOf 5 = 1 := by kernel_rfl
/-- What the listed variables read as. -/
noncomputable def laidL : List (String × DataW Unit) := [("loop.example/pub-g03032/pub/circl/ecc/goldilocks.order", Rows.laid_loop_example_pub_g03032_pub_circl_ecc_goldilocks_order), ("loop.example/pub-g03032/pub/circl/ecc/goldilocks.residue448", Rows.laid_loop_example_pub_g03032_pub_circl_ecc_goldilocks_residue448)]
theorem door_met (os : Os) (args : Array Value) : laidMetH Tryd.prog laidL ((World.doorLaid Tryd.prog 400 os).forCall (fun _ _ => 0) ⟨#[], args, []⟩).memory :=
  laidMetH_of_parts3 (fuel := 8) (laidMet_of_run' 8 (by kernel_rfl) (by kernel_rfl)) (by kernel_rfl) (by kernel_rfl)
theorem cells42 : Tryd.prog.cellsOf 42 = 56 := by kernel_rfl
theorem laid_all {W : World} (h : laidMetH Tryd.prog laidL W) : (∃ t, W.heap[0]? = some (.cells (EE [qq]).toArray t (0, 0))) ∧ (∃ t, W.heap[1]? = some (.cells (Go.Proofs.YtflbkfjemmmipaaDoor.W (digs 18446744073709551616 4 r448)).toArray t (0, 0))) := by
  rw [MakeChecks.laidMetH_plain _ _ _ (by kernel_rfl)] at h
  have h0 : laidMet Tryd.prog [("loop.example/pub-g03032/pub/circl/ecc/goldilocks.order", (eltData qq)), ("loop.example/pub-g03032/pub/circl/ecc/goldilocks.residue448", (wordsData (digs 18446744073709551616 4 r448)))] W := (show laidL = [("loop.example/pub-g03032/pub/circl/ecc/goldilocks.order", (eltData qq)), ("loop.example/pub-g03032/pub/circl/ecc/goldilocks.residue448", (wordsData (digs 18446744073709551616 4 r448)))] by kernel_rfl) ▸ h
  have h1 : laidMet Tryd.prog [("loop.example/pub-g03032/pub/circl/ecc/goldilocks.residue448", (wordsData (digs 18446744073709551616 4 r448)))] W := laid_tail h0
  exact ⟨laid_elt (T := 42) (by kernel_rfl) (by kernel_rfl) Tryd.underlying42 Tryd.underlying5 cells5 cells42 h0, laid_words (A := 64) (by kernel_rfl) (by kernel_rfl) Tryd.underlying64 Tryd.underlying23 (by kernel_rfl) (by kernel_rfl) (by decide) h1⟩
set_option maxRecDepth 100000 in
theorem lifted (os : Os) (started : os.Started) (H : Type) (enc : TypeId × Value → H) :
    ReturnsInHanded {} Tryd.checked os 5 .any (fun w args => (Rows.fnScalarIsSpec.pre enc Tryd.prog Tryd.f5 [] false w args ∧ laidMetH Tryd.prog laidL w) ∧ sizedMet enc Tryd.prog Tryd.f5 (OpenSpec.ofChange Rows.fnScalarIsSpec) false w args)
      (Rows.fnScalarIsSpec.post enc Tryd.prog Tryd.f5 false true false false) := by
  refine returnsInHanded_of_change_and (C := Tryd.checked) (X := fun w _ => laidMetH Tryd.prog laidL w) (fun _ _ _ hh h => h.of_heap hh) own started (by kernel_rfl) Tryd.func5
    (ChangeSpec.witness_shaped (enc := enc) (C := Tryd.checked) (os := os) (X := fun w _ => laidMetH Tryd.prog laidL w) false (World.doorLaid Tryd.prog 400 os) #[.agg (E 0).toArray, .agg (E 0).toArray] 8 rfl (World.shaped_of_RefB (by kernel_rfl) (by kernel_rfl)) (by kernel_rfl) (by kernel_rfl) (by kernel_rfl) (door_met os _)) ?_
  intro W base args ds gs before hval0 hW _ _ hL _
  have hval : ∀ (j : Nat) t v, Tryd.f5.params[j]? = some t → args[j]? = some v → Value.okWide Tryd.prog W .any base t v := hval0
  have hW' := hW
  obtain ⟨p, q, hA0, hV, rfl, hfz, hnd⟩ := hW
  have hA : DataW.TrodAll enc Tryd.prog W 0 (fun _ => true) true Tryd.f5.params.toList args.toList ds p := hA0
  rw [Tryd.params5] at hA hval
  obtain ⟨v0, v1, d0, d1, p0, p1, rfl, rfl, rfl, h0, h1⟩ := trodAll_two hA
  obtain ⟨_, _, _, _, g0, _, _, _, _, _, g1, _, rfl, _, _, _, _, _, _, _, _, _⟩ := trodVars_two hV
  obtain ⟨a0, ha0, rfl⟩ := open_elt Tryd.underlying22 Tryd.underlying5 cells5 cells22 (hval 0 22 v0 rfl rfl) h0
  obtain ⟨a1, ha1, rfl⟩ := open_elt Tryd.underlying22 Tryd.underlying5 cells5 cells22 (hval 1 22 v1 rfl rfl) h1
  obtain ⟨⟨t0, hg0⟩, ⟨t1, hg1⟩⟩ := laid_all hL
  refine (calls_true (fnScalarIs_ct (jo := 0) (jr := 1) (M := [⟨0, t0, EE [qq]⟩, ⟨1, t1, Go.Proofs.YtflbkfjemmmipaaDoor.W (digs 18446744073709551616 4 r448)⟩]) rfl rfl (by decide) ha0 ha1) (has_cons hg0 (by simp [ids]) (has_cons hg1 (by simp [ids]) (has_nil _)))).mono fun e W' ⟨he, hb⟩ => ?_
  subst he
  exact ⟨_, rfl, post_true laidOut (by kernel_rfl) (by kernel_rfl) hW' hb rfl (by kernel_rfl) Tryd.underlying4⟩

theorem fnScalarIs_holds : Rows.FnScalarIsSaid :=
  OpenClaim.holds_of_wide 5 Tryd.f5 rfl rfl rfl rfl rfl rfl rfl ⟨rfl, rfl, rfl, rfl, rfl⟩ rfl rfl rfl rfl rfl (by kernel_rfl) Tryd.func5 (by kernel_rfl)
    (of_decide_eq_true (by kernel_rfl)) (by unfold Func.isWrapper; first | (rw [if_pos (by decide +kernel)]; kernel_rfl) | (rw [if_neg (by decide +kernel)]; exact ⟨rfl, rfl⟩))
    (fun os started H enc _ => lifted os started H enc)

/-- The law answers true for every input. The listed variable is tied to the program's text. -/
theorem fnScalarIs_card : Rows.FnScalarIsCardSaid :=
  Claim7.holds_tied_plain_at .later [] [.widerDeep, .widerDeep] true (true, "d1f9b533cfeb7918d2ae4ebf43d1bafc014d73cc35803fa0fe6837005b1a6f0c") false
    fnScalarIs_holds (fun _ h => by cases h) (by kernel_rfl) (fun _ h => by cases h) fnScalarIs_row_tie rfl ⟨rfl, rfl⟩ (by kernel_rfl) rfl
    (fun f fn hf hfn => by
      obtain rfl : f = 5 := Option.some.inj ((show Tryd.prog.funcNamed "loop.example/pub-g03032/laws.FnScalarIs" = some 5 by kernel_rfl).symm.trans hf) |>.symm
      obtain rfl : fn = Tryd.f5 := (Option.some.inj (Tryd.func5.symm.trans hfn)).symm
      exact ⟨by kernel_rfl, fun j t ht => by
        rw [Tryd.params5] at ht
        have hm : t ∈ [22, 22] := by simpa using Array.mem_of_getElem? ht
        have hall : ([22, 22].all fun u => !Tryd.prog.wantsStandIn u) = true := by kernel_rfl
        exact (show Tryd.prog.wantsStandIn t = false by simpa using List.all_eq_true.1 hall t hm)⟩)
    (by kernel_rfl)
#print axioms fnScalarIs_card
end Go.Proofs.YtflbkfjemmmipaaDoor
