/- FnDecodeIs: for every input the law answers true, and what was there reads as it did. Conditions: none beyond the row's own. -/
import Derived.Test.YtjanppnnioeifaaDoorRow
import Derived.Test.YtjanppnnioeifaaDoorLaid
import Derived.Test.YtjanppnnioeifaaDoorOpenSl
import Derived.Test.YtjanppnnioeifaaDoorDecA
import Derived.Test.YtjanppnnioeifaaDoorCards
import Derived.Test.YtjanppnnioeifaaDoorTie
namespace Go.Proofs.YtjanppnnioeifaaDoor
open Go Go.ChangeShapes Go.WideShapes Go.ChangeAt Go.WideMaps Go.WideElems Go.RowKit
set_option maxRecDepth 100000
theorem own : ownKnob Tryd.prog.godebug = none := by kernel_rfl
theorem laidOut : laidOutB Tryd.prog = true := by kernel_rfl
theorem cells22 : Tryd.prog.cellsOf 22 = 56 := by kernel_rfl
theorem cells5 : Tryd.prog.cellsOf 5 = 1 := by kernel_rfl
/-- What the listed variables read as. -/
noncomputable def laidL : List (String × DataW Unit) := [("loop.example/pub-g03032/pub/circl/math/fp448.p", Rows.laid_loop_example_pub_g03032_pub_circl_math_fp448_p), ("loop.example/pub-g03032/pub/circl/ecc/goldilocks.paramD", Rows.laid_loop_example_pub_g03032_pub_circl_ecc_goldilocks_paramD)]
theorem door_met (os : Os) (args : Array Value) : laidMetH Tryd.prog laidL ((World.doorLaid Tryd.prog 400 os).forCall (fun _ _ => 0) ⟨#[], args, []⟩).memory :=
  laidMetH_of_parts3 (fuel := 8) (laidMet_of_run' 8 (by kernel_rfl) (by kernel_rfl)) (by kernel_rfl) (by kernel_rfl)
theorem cells82 : Tryd.prog.cellsOf 82 = 56 := by kernel_rfl
theorem laid_all {W : World} (h : laidMetH Tryd.prog laidL W) : (∃ t, W.heap[3]? = some (.cells (EE [pp]).toArray t (0, 0))) ∧ (∃ t, W.heap[0]? = some (.cells (EE [dP]).toArray t (0, 0))) := by
  rw [MakeChecks.laidMetH_plain _ _ _ (by kernel_rfl)] at h
  have h0 : laidMet Tryd.prog [("loop.example/pub-g03032/pub/circl/math/fp448.p", (eltData pp)), ("loop.example/pub-g03032/pub/circl/ecc/goldilocks.paramD", (eltData dP))] W := (show laidL = [("loop.example/pub-g03032/pub/circl/math/fp448.p", (eltData pp)), ("loop.example/pub-g03032/pub/circl/ecc/goldilocks.paramD", (eltData dP))] by kernel_rfl) ▸ h
  have h1 : laidMet Tryd.prog [("loop.example/pub-g03032/pub/circl/ecc/goldilocks.paramD", (eltData dP))] W := laid_tail h0
  exact ⟨laid_elt (T := 82) (by kernel_rfl) (by kernel_rfl) Tryd.underlying82 Tryd.underlying5 cells5 cells82 h0, laid_elt (T := 82) (by kernel_rfl) (by kernel_rfl) Tryd.underlying82 Tryd.underlying5 cells5 cells82 h1⟩
set_option maxRecDepth 100000 in
theorem lifted (os : Os) (started : os.Started) (H : Type) (enc : TypeId × Value → H) :
    ReturnsInHanded {} Tryd.checked os 4 .any (fun w args => (Rows.fnDecodeIsSpec.pre enc Tryd.prog Tryd.f4 [] false w args ∧ laidMetH Tryd.prog laidL w) ∧ sizedMet enc Tryd.prog Tryd.f4 (OpenSpec.ofChange Rows.fnDecodeIsSpec) false w args)
      (Rows.fnDecodeIsSpec.post enc Tryd.prog Tryd.f4 false true false false) := by
  refine returnsInHanded_of_change_and (C := Tryd.checked) (X := fun w _ => laidMetH Tryd.prog laidL w) (fun _ _ _ hh h => h.of_heap hh) own started (by kernel_rfl) Tryd.func4
    (ChangeSpec.witness_shaped (enc := enc) (C := Tryd.checked) (os := os) (X := fun w _ => laidMetH Tryd.prog laidL w) false (World.doorLaid Tryd.prog 400 os) #[.slice none 0 0] 8 rfl (World.shaped_of_RefB (by kernel_rfl) (by kernel_rfl)) (by kernel_rfl) (by kernel_rfl) (by kernel_rfl) (door_met os _)) ?_
  intro W base args ds gs before hval0 hW _ _ hL _
  have hval : ∀ (j : Nat) t v, Tryd.f4.params[j]? = some t → args[j]? = some v → Value.okWide Tryd.prog W .any base t v := hval0
  have hW' := hW
  obtain ⟨p, q, hA0, hV, rfl, hfz, hnd⟩ := hW
  have hA : DataW.TrodAll enc Tryd.prog W 0 (fun _ => true) true Tryd.f4.params.toList args.toList ds p := hA0
  rw [Tryd.params4] at hA hval
  obtain ⟨v0, d0, rfl, rfl, h0⟩ := trodAll_one hA
  obtain ⟨_, _, _, _, g0, _, _, _, _, _, g1, _, rfl, _, _, _, _, _, _, _, _, _⟩ := trodVars_two hV
  have hS := open_bytes Tryd.underlying38 Tryd.underlying5 cells5 (hval 0 38 v0 rfl rfl) h0
  obtain ⟨⟨t0, hg0⟩, ⟨t1, hg1⟩⟩ := laid_all hL
  have hM : Has [⟨3, t0, EE [pp]⟩, ⟨0, t1, EE [dP]⟩] W := (has_cons hg0 (by simp [ids]) (has_cons hg1 (by simp [ids]) (has_nil _)))
  rcases hS with rfl | ⟨ad, n, c, rfl, hnc, rfl | ⟨gl, off, bs, rfl, hlt, hcell, hbn, hbb⟩⟩
  · refine (calls_true (lawA_ct (by decide)) hM).mono fun e W' ⟨he, hb⟩ => ?_
    subst he
    exact ⟨_, rfl, post_true laidOut (by kernel_rfl) (by kernel_rfl) hW' hb rfl (by kernel_rfl) Tryd.underlying4⟩
  · refine (calls_true (lawA_ct (by decide)) hM).mono fun e W' ⟨he, hb⟩ => ?_
    subst he
    exact ⟨_, rfl, post_true laidOut (by kernel_rfl) (by kernel_rfl) hW' hb rfl (by kernel_rfl) Tryd.underlying4⟩
  · by_cases h57 : n = 57
    · subst h57
      obtain ⟨y, t, hyR, ht, he⟩ := xs_EB hbn hbb
      have h56 : ∃ v, (bs.map u8V)[56]? = some v := ⟨_, List.getElem?_eq_getElem (by rw [List.length_map, hbn]; decide)⟩
      obtain ⟨v56, hv56⟩ := h56
      have hc56 := hcell 56 v56 hv56
      have hq0 : gl ≠ 3 := by
        intro hq
        subst hq
        rw [cell_of_row W 3 (off + 56) _ _ _ hg0] at hc56
        have := (List.getElem?_eq_some_iff.1 (show (EE [pp])[off + 56]? = some v56 by simpa using hc56)).1
        rw [EE_length] at this
        have h2 : off + 56 < 56 * 1 := this
        omega
      have hq1 : gl ≠ 0 := by
        intro hq
        subst hq
        rw [cell_of_row W 0 (off + 56) _ _ _ hg1] at hc56
        have := (List.getElem?_eq_some_iff.1 (show (EE [dP])[off + 56]? = some v56 by simpa using hc56)).1
        rw [EE_length] at this
        have h2 : off + 56 < 56 * 1 := this
        omega
      refine (calls_trueW (law57_ct (ig := 0) (jd := 1) (M := [⟨3, t0, EE [pp]⟩, ⟨0, t1, EE [dP]⟩]) rfl rfl hnc hyR ht he) hM ⟨by simp [ids]; omega, hlt, hcell⟩).mono fun e W' ⟨he, hb⟩ => ?_
      subst he
      exact ⟨_, rfl, post_true laidOut (by kernel_rfl) (by kernel_rfl) hW' hb rfl (by kernel_rfl) Tryd.underlying4⟩
    · refine (calls_true (lawA_ct h57) hM).mono fun e W' ⟨he, hb⟩ => ?_
      subst he
      exact ⟨_, rfl, post_true laidOut (by kernel_rfl) (by kernel_rfl) hW' hb rfl (by kernel_rfl) Tryd.underlying4⟩

theorem fnDecodeIs_holds : Rows.FnDecodeIsSaid :=
  OpenClaim.holds_of_wide 4 Tryd.f4 rfl rfl rfl rfl rfl rfl rfl ⟨rfl, rfl, rfl, rfl, rfl⟩ rfl rfl rfl rfl rfl (by kernel_rfl) Tryd.func4 (by kernel_rfl)
    (of_decide_eq_true (by kernel_rfl)) (by unfold Func.isWrapper; first | (rw [if_pos (by decide +kernel)]; kernel_rfl) | (rw [if_neg (by decide +kernel)]; exact ⟨rfl, rfl⟩))
    (fun os started H enc _ => lifted os started H enc)

/-- The law answers true for every input. The listed variable is tied to the program's text. -/
theorem fnDecodeIs_card : Rows.FnDecodeIsCardSaid :=
  Claim7.holds_tied_plain_at .later [] [.data, .data] true (true, "f2bb5c1f2e593315e2318d579bbeb0b22a4e389c178871533326b9d34c87644d") false
    fnDecodeIs_holds (fun _ h => by cases h) (by kernel_rfl) (fun _ h => by cases h) fnDecodeIs_row_tie rfl ⟨rfl, rfl⟩ (by kernel_rfl) rfl
    (fun f fn hf hfn => by
      obtain rfl : f = 4 := Option.some.inj ((show Tryd.prog.funcNamed "loop.example/pub-g03032/laws.FnDecodeIs" = some 4 by kernel_rfl).symm.trans hf) |>.symm
      obtain rfl : fn = Tryd.f4 := (Option.some.inj (Tryd.func4.symm.trans hfn)).symm
      exact ⟨by kernel_rfl, fun j t ht => by
        rw [Tryd.params4] at ht
        have hm : t ∈ [38] := by simpa using Array.mem_of_getElem? ht
        have hall : ([38].all fun u => !Tryd.prog.wantsStandIn u) = true := by kernel_rfl
        exact (show Tryd.prog.wantsStandIn t = false by simpa using List.all_eq_true.1 hall t hm)⟩)
    (by kernel_rfl)
#print axioms fnDecodeIs_card
end Go.Proofs.YtjanppnnioeifaaDoor
