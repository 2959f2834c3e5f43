/- FnScalarFromIs: for every input the law answers true, and what was there reads as it did. Conditions: none beyond the row's own. -/
import Derived.Test.YtflbkfjemmmipaaDoorRow
import Derived.Test.YtflbkfjemmmipaaDoorLaid
import Derived.Test.YtflbkfjemmmipaaDoorOpenSl
import Derived.Test.YtflbkfjemmmipaaDoorSFromL
import Derived.Test.YtflbkfjemmmipaaDoorCards
import Derived.Test.YtflbkfjemmmipaaDoorTie
namespace Go.Proofs.YtflbkfjemmmipaaDoor
open Go Go.ChangeShapes Go.WideShapes Go.ChangeAt Go.WideMaps Go.WideElems Go.RowKit
set_option maxRecDepth 100000
theorem own : ownKnob Tryd.prog.godebug = none := by kernel_rfl
theorem laidOut : laidOutB Tryd.prog = true := by kernel_rfl
theorem cells22 : Tryd.prog.cellsOf 22 = 56 := by kernel_rfl
theorem cells5 : Tryd.prog.cellsOf 5 = 1 := by kernel_rfl
/-- What the listed variables read as. -/
noncomputable def laidL : List (String × DataW Unit) := [("loop.example/pub-g03032/pub/circl/ecc/goldilocks.order", Rows.laid_loop_example_pub_g03032_pub_circl_ecc_goldilocks_order), ("loop.example/pub-g03032/pub/circl/ecc/goldilocks.residue448", Rows.laid_loop_example_pub_g03032_pub_circl_ecc_goldilocks_residue448)]
theorem door_met (os : Os) (args : Array Value) : laidMetH Tryd.prog laidL ((World.doorLaid Tryd.prog 400 os).forCall (fun _ _ => 0) ⟨#[], args, []⟩).memory :=
  laidMetH_of_parts3 (fuel := 8) (laidMet_of_run' 8 (by kernel_rfl) (by kernel_rfl)) (by kernel_rfl) (by kernel_rfl)
theorem cells42 : Tryd.prog.cellsOf 42 = 56 := by kernel_rfl
theorem laid_all {W : World} (h : laidMetH Tryd.prog laidL W) : (∃ t, W.heap[0]? = some (.cells (EE [qq]).toArray t (0, 0))) ∧ (∃ t, W.heap[1]? = some (.cells (Go.Proofs.YtflbkfjemmmipaaDoor.W (digs 18446744073709551616 4 r448)).toArray t (0, 0))) := by
  rw [MakeChecks.laidMetH_plain _ _ _ (by kernel_rfl)] at h
  have h0 : laidMet Tryd.prog [("loop.example/pub-g03032/pub/circl/ecc/goldilocks.order", (eltData qq)), ("loop.example/pub-g03032/pub/circl/ecc/goldilocks.residue448", (wordsData (digs 18446744073709551616 4 r448)))] W := (show laidL = [("loop.example/pub-g03032/pub/circl/ecc/goldilocks.order", (eltData qq)), ("loop.example/pub-g03032/pub/circl/ecc/goldilocks.residue448", (wordsData (digs 18446744073709551616 4 r448)))] by kernel_rfl) ▸ h
  have h1 : laidMet Tryd.prog [("loop.example/pub-g03032/pub/circl/ecc/goldilocks.residue448", (wordsData (digs 18446744073709551616 4 r448)))] W := laid_tail h0
  exact ⟨laid_elt (T := 42) (by kernel_rfl) (by kernel_rfl) Tryd.underlying42 Tryd.underlying5 cells5 cells42 h0, laid_words (A := 64) (by kernel_rfl) (by kernel_rfl) Tryd.underlying64 Tryd.underlying23 (by kernel_rfl) (by kernel_rfl) (by decide) h1⟩
set_option maxRecDepth 100000 in
theorem lifted (os : Os) (started : os.Started) (H : Type) (enc : TypeId × Value → H) :
    ReturnsInHanded {} Tryd.checked os 7 .any (fun w args => (Rows.fnScalarFromIsSpec.pre enc Tryd.prog Tryd.f7 [] false w args ∧ laidMetH Tryd.prog laidL w) ∧ sizedMet enc Tryd.prog Tryd.f7 (OpenSpec.ofChange Rows.fnScalarFromIsSpec) false w args)
      (Rows.fnScalarFromIsSpec.post enc Tryd.prog Tryd.f7 false true false false) := by
  refine returnsInHanded_of_change_and (C := Tryd.checked) (X := fun w _ => laidMetH Tryd.prog laidL w) (fun _ _ _ hh h => h.of_heap hh) own started (by kernel_rfl) Tryd.func7
    (ChangeSpec.witness_shaped (enc := enc) (C := Tryd.checked) (os := os) (X := fun w _ => laidMetH Tryd.prog laidL w) false (World.doorLaid Tryd.prog 400 os) #[.slice none 0 0] 8 rfl (World.shaped_of_RefB (by kernel_rfl) (by kernel_rfl)) (by kernel_rfl) (by kernel_rfl) (by kernel_rfl) (door_met os _)) ?_
  intro W base args ds gs before hval0 hW _ _ hL _
  have hval : ∀ (j : Nat) t v, Tryd.f7.params[j]? = some t → args[j]? = some v → Value.okWide Tryd.prog W .any base t v := hval0
  have hW' := hW
  obtain ⟨p, q, hA0, hV, rfl, hfz, hnd⟩ := hW
  have hA : DataW.TrodAll enc Tryd.prog W 0 (fun _ => true) true Tryd.f7.params.toList args.toList ds p := hA0
  rw [Tryd.params7] at hA hval
  obtain ⟨v0, d0, rfl, rfl, h0⟩ := trodAll_one hA
  obtain ⟨_, _, _, _, g0, _, _, _, _, _, g1, _, rfl, _, _, _, _, _, _, _, _, _⟩ := trodVars_two hV
  have hS := open_bytes Tryd.underlying27 Tryd.underlying5 cells5 (hval 0 27 v0 rfl rfl) h0
  obtain ⟨⟨t0, hg0⟩, ⟨t1, hg1⟩⟩ := laid_all hL
  have hM : Has [⟨0, t0, EE [qq]⟩, ⟨1, t1, Go.Proofs.YtflbkfjemmmipaaDoor.W (digs 18446744073709551616 4 r448)⟩] W := (has_cons hg0 (by simp [ids]) (has_cons hg1 (by simp [ids]) (has_nil _)))
  rcases hS with rfl | ⟨ad, n, c, rfl, hnc, rfl | ⟨gl, off, bs, rfl, hlt, hcell, hbn, hbb⟩⟩
  · refine (calls_true (lawN_ct (jo := 0) (M := [⟨0, t0, EE [qq]⟩, ⟨1, t1, Go.Proofs.YtflbkfjemmmipaaDoor.W (digs 18446744073709551616 4 r448)⟩]) rfl) hM).mono fun e W' ⟨he, hb⟩ => ?_
    subst he
    exact ⟨_, rfl, post_true laidOut (by kernel_rfl) (by kernel_rfl) hW' hb rfl (by kernel_rfl) Tryd.underlying4⟩
  · refine (calls_true (lawE_ct (jo := 0) (M := [⟨0, t0, EE [qq]⟩, ⟨1, t1, Go.Proofs.YtflbkfjemmmipaaDoor.W (digs 18446744073709551616 4 r448)⟩]) rfl) hM).mono fun e W' ⟨he, hb⟩ => ?_
    subst he
    exact ⟨_, rfl, post_true laidOut (by kernel_rfl) (by kernel_rfl) hW' hb rfl (by kernel_rfl) Tryd.underlying4⟩
  · have hvl : (bs.map u8V).length = n := by rw [List.length_map]; exact hbn
    by_cases hq0 : gl = 0
    · subst hq0
      refine (calls_true (fnScalarFromIs_ct (jo := 0) (jr := 1) (il := 0) (M := [⟨0, t0, EE [qq]⟩, ⟨1, t1, Go.Proofs.YtflbkfjemmmipaaDoor.W (digs 18446744073709551616 4 r448)⟩]) rfl rfl (by decide) rfl (cells_take hg0 hcell hvl) hbn hbb) hM).mono fun e W' ⟨he, hb⟩ => ?_
      subst he
      exact ⟨_, rfl, post_true laidOut (by kernel_rfl) (by kernel_rfl) hW' hb rfl (by kernel_rfl) Tryd.underlying4⟩
    by_cases hq1 : gl = 1
    · subst hq1
      refine (calls_true (fnScalarFromIs_ct (jo := 0) (jr := 1) (il := 1) (M := [⟨0, t0, EE [qq]⟩, ⟨1, t1, Go.Proofs.YtflbkfjemmmipaaDoor.W (digs 18446744073709551616 4 r448)⟩]) rfl rfl (by decide) rfl (cells_take hg1 hcell hvl) hbn hbb) hM).mono fun e W' ⟨he, hb⟩ => ?_
      subst he
      exact ⟨_, rfl, post_true laidOut (by kernel_rfl) (by kernel_rfl) hW' hb rfl (by kernel_rfl) Tryd.underlying4⟩
    refine (calls_trueW (fnScalarFromIsW_ct (jo := 0) (jr := 1) (M := [⟨0, t0, EE [qq]⟩, ⟨1, t1, Go.Proofs.YtflbkfjemmmipaaDoor.W (digs 18446744073709551616 4 r448)⟩]) rfl rfl (by decide) hbn hbb) hM ⟨by simp [ids]; omega, hlt, hcell⟩).mono fun e W' ⟨he, hb⟩ => ?_
    subst he
    exact ⟨_, rfl, post_true laidOut (by kernel_rfl) (by kernel_rfl) hW' hb rfl (by kernel_rfl) Tryd.underlying4⟩

theorem fnScalarFromIs_holds : Rows.FnScalarFromIsSaid :=
  OpenClaim.holds_of_wide 7 Tryd.f7 rfl rfl rfl rfl rfl rfl rfl ⟨rfl, rfl, rfl, rfl, rfl⟩ rfl rfl rfl rfl rfl (by kernel_rfl) Tryd.func7 (by kernel_rfl)
    (of_decide_eq_true (by kernel_rfl)) (by unfold Func.isWrapper; first | (rw [if_pos (by decide +kernel)]; kernel_rfl) | (rw [if_neg (by decide +kernel)]; exact ⟨rfl, rfl⟩))
    (fun os started H enc _ => lifted os started H enc)

/-- The law answers true for every input. The listed variable is tied to the program's text. -/
theorem fnScalarFromIs_card : Rows.FnScalarFromIsCardSaid :=
  Claim7.holds_tied_plain_at .later [] [.widerDeep, .widerDeep] true (true, "d1f9b533cfeb7918d2ae4ebf43d1bafc014d73cc35803fa0fe6837005b1a6f0c") false
    fnScalarFromIs_holds (fun _ h => by cases h) (by kernel_rfl) (fun _ h => by cases h) fnScalarFromIs_row_tie rfl ⟨rfl, rfl⟩ (by kernel_rfl) rfl
    (fun f fn hf hfn => by
      obtain rfl : f = 7 := Option.some.inj ((show Tryd.prog.funcNamed "loop.example/pub-g03032/laws.FnScalarFromIs" = some 7 by kernel_rfl).symm.trans hf) |>.symm
      obtain rfl : fn = Tryd.f7 := (Option.some.inj (Tryd.func7.symm.trans hfn)).symm
      exact ⟨by kernel_rfl, fun j t ht => by
        rw [Tryd.params7] at ht
        have hm : t ∈ [27] := by simpa using Array.mem_of_getElem? ht
        have hall : ([27].all fun u => !Tryd.prog.wantsStandIn u) = true := by kernel_rfl
        exact (show Tryd.prog.wantsStandIn t = false by simpa using List.all_eq_true.1 hall t hm)⟩)
    (by kernel_rfl)
#print axioms fnScalarFromIs_card
end Go.Proofs.YtflbkfjemmmipaaDoor
