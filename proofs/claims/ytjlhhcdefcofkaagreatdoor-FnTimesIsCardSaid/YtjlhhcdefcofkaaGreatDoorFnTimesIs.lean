/- FnTimesIs: for every input the law answers true, and what was there reads as it did. Conditions: none beyond the row's own. -/
import Derived.Test.YtjlhhcdefcofkaaGreatDoorRow
import Derived.Test.YtjlhhcdefcofkaaGreatDoorLaid
import Derived.Test.YtjlhhcdefcofkaaGreatDoorOpenPt
import Derived.Test.YtjlhhcdefcofkaaGreatDoorTwY
import Derived.Test.YtjlhhcdefcofkaaGreatDoorCards
import Derived.Test.YtjlhhcdefcofkaaGreatDoorTie
namespace Go.Proofs.YtjlhhcdefcofkaaGreatDoor
open Go Go.ChangeShapes Go.WideShapes Go.ChangeAt Go.WideMaps Go.WideElems Go.RowKit
set_option maxRecDepth 100000
theorem own : ownKnob Tryz.prog.godebug = none := by kernel_rfl
theorem laidOut : laidOutB Tryz.prog = true := by kernel_rfl
theorem cells22 : Tryz.prog.cellsOf 22 = 56 := by kernel_rfl
theorem cells5 : Tryz.prog.cellsOf 5 = 1 := by kernel_rfl
/-- What the listed variables read as. -/
noncomputable def laidL : List (String × DataW Unit) := [("loop.example/pub-g03032/pub/circl/math/fp448.p", Rows.laid_loop_example_pub_g03032_pub_circl_math_fp448_p), ("loop.example/pub-g03032/pub/circl/ecc/goldilocks.paramD", Rows.laid_loop_example_pub_g03032_pub_circl_ecc_goldilocks_paramD), ("loop.example/pub-g03032/pub/circl/ecc/goldilocks.order", Rows.laid_loop_example_pub_g03032_pub_circl_ecc_goldilocks_order), ("loop.example/pub-g03032/pub/circl/ecc/goldilocks.residue448", Rows.laid_loop_example_pub_g03032_pub_circl_ecc_goldilocks_residue448), ("loop.example/pub-g03032/pub/circl/ecc/goldilocks.invFour", Rows.laid_loop_example_pub_g03032_pub_circl_ecc_goldilocks_invFour), ("loop.example/pub-g03032/pub/circl/ecc/goldilocks.paramDTwist", Rows.laid_loop_example_pub_g03032_pub_circl_ecc_goldilocks_paramDTwist)]
theorem door_met (os : Os) (args : Array Value) : laidMetH Tryz.prog laidL ((World.doorLaid Tryz.prog 400 os).forCall (fun _ _ => 0) ⟨#[], args, []⟩).memory :=
  laidMetH_of_parts3 (fuel := 8) (laidMet_of_run' 8 (by kernel_rfl) (by kernel_rfl)) (by kernel_rfl) (by kernel_rfl)
theorem cells44 : Tryz.prog.cellsOf 44 = 56 := by kernel_rfl
theorem cells60 : Tryz.prog.cellsOf 60 = 56 := by kernel_rfl
theorem laid_all {W : World} (h : laidMetH Tryz.prog laidL W) : (∃ t, W.heap[3]? = some (.cells (EE [pp]).toArray t (0, 0))) ∧ (∃ t, W.heap[2]? = some (.cells (EE [dP]).toArray t (0, 0))) ∧ (∃ t, W.heap[1]? = some (.cells (EE [qq]).toArray t (0, 0))) ∧ (∃ t, W.heap[5]? = some (.cells (Go.Proofs.YtjlhhcdefcofkaaGreatDoor.W (digs 18446744073709551616 4 r448)).toArray t (0, 0))) ∧ (∃ t, W.heap[0]? = some (.cells (EE [i4n]).toArray t (0, 0))) ∧ (∃ t, W.heap[6]? = some (.cells (EE [dT]).toArray t (0, 0))) := by
  rw [MakeChecks.laidMetH_plain _ _ _ (by kernel_rfl)] at h
  have h0 : laidMet Tryz.prog [("loop.example/pub-g03032/pub/circl/math/fp448.p", (eltData pp)), ("loop.example/pub-g03032/pub/circl/ecc/goldilocks.paramD", (eltData dP)), ("loop.example/pub-g03032/pub/circl/ecc/goldilocks.order", (eltData qq)), ("loop.example/pub-g03032/pub/circl/ecc/goldilocks.residue448", (wordsData (digs 18446744073709551616 4 r448))), ("loop.example/pub-g03032/pub/circl/ecc/goldilocks.invFour", (eltData i4n)), ("loop.example/pub-g03032/pub/circl/ecc/goldilocks.paramDTwist", (eltData dT))] W := (show laidL = [("loop.example/pub-g03032/pub/circl/math/fp448.p", (eltData pp)), ("loop.example/pub-g03032/pub/circl/ecc/goldilocks.paramD", (eltData dP)), ("loop.example/pub-g03032/pub/circl/ecc/goldilocks.order", (eltData qq)), ("loop.example/pub-g03032/pub/circl/ecc/goldilocks.residue448", (wordsData (digs 18446744073709551616 4 r448))), ("loop.example/pub-g03032/pub/circl/ecc/goldilocks.invFour", (eltData i4n)), ("loop.example/pub-g03032/pub/circl/ecc/goldilocks.paramDTwist", (eltData dT))] by kernel_rfl) ▸ h
  have h1 : laidMet Tryz.prog [("loop.example/pub-g03032/pub/circl/ecc/goldilocks.paramD", (eltData dP)), ("loop.example/pub-g03032/pub/circl/ecc/goldilocks.order", (eltData qq)), ("loop.example/pub-g03032/pub/circl/ecc/goldilocks.residue448", (wordsData (digs 18446744073709551616 4 r448))), ("loop.example/pub-g03032/pub/circl/ecc/goldilocks.invFour", (eltData i4n)), ("loop.example/pub-g03032/pub/circl/ecc/goldilocks.paramDTwist", (eltData dT))] W := laid_tail h0
  have h2 : laidMet Tryz.prog [("loop.example/pub-g03032/pub/circl/ecc/goldilocks.order", (eltData qq)), ("loop.example/pub-g03032/pub/circl/ecc/goldilocks.residue448", (wordsData (digs 18446744073709551616 4 r448))), ("loop.example/pub-g03032/pub/circl/ecc/goldilocks.invFour", (eltData i4n)), ("loop.example/pub-g03032/pub/circl/ecc/goldilocks.paramDTwist", (eltData dT))] W := laid_tail h1
  have h3 : laidMet Tryz.prog [("loop.example/pub-g03032/pub/circl/ecc/goldilocks.residue448", (wordsData (digs 18446744073709551616 4 r448))), ("loop.example/pub-g03032/pub/circl/ecc/goldilocks.invFour", (eltData i4n)), ("loop.example/pub-g03032/pub/circl/ecc/goldilocks.paramDTwist", (eltData dT))] W := laid_tail h2
  have h4 : laidMet Tryz.prog [("loop.example/pub-g03032/pub/circl/ecc/goldilocks.invFour", (eltData i4n)), ("loop.example/pub-g03032/pub/circl/ecc/goldilocks.paramDTwist", (eltData dT))] W := laid_tail h3
  have h5 : laidMet Tryz.prog [("loop.example/pub-g03032/pub/circl/ecc/goldilocks.paramDTwist", (eltData dT))] W := laid_tail h4
  exact ⟨laid_elt (T := 60) (by kernel_rfl) (by kernel_rfl) Tryz.underlying60 Tryz.underlying5 cells5 cells60 h0, laid_elt (T := 60) (by kernel_rfl) (by kernel_rfl) Tryz.underlying60 Tryz.underlying5 cells5 cells60 h1, laid_elt (T := 44) (by kernel_rfl) (by kernel_rfl) Tryz.underlying44 Tryz.underlying5 cells5 cells44 h2, laid_words (A := 136) (by kernel_rfl) (by kernel_rfl) Tryz.underlying136 Tryz.underlying29 (by kernel_rfl) (by kernel_rfl) (by decide) h3, laid_elt (T := 44) (by kernel_rfl) (by kernel_rfl) Tryz.underlying44 Tryz.underlying5 cells5 cells44 h4, laid_elt (T := 60) (by kernel_rfl) (by kernel_rfl) Tryz.underlying60 Tryz.underlying5 cells5 cells60 h5⟩
set_option maxRecDepth 100000 in
theorem lifted (os : Os) (started : os.Started) (H : Type) (enc : TypeId × Value → H) :
    ReturnsInHanded {} Tryz.checked os 3 .any (fun w args => (Rows.fnTimesIsSpec.pre enc Tryz.prog Tryz.f3 [] false w args ∧ laidMetH Tryz.prog laidL w) ∧ sizedMet enc Tryz.prog Tryz.f3 (OpenSpec.ofChange Rows.fnTimesIsSpec) false w args)
      (Rows.fnTimesIsSpec.post enc Tryz.prog Tryz.f3 false true false false) := by
  refine returnsInHanded_of_change_and (C := Tryz.checked) (X := fun w _ => laidMetH Tryz.prog laidL w) (fun _ _ _ hh h => h.of_heap hh) own started (by kernel_rfl) Tryz.func3
    (ChangeSpec.witness_shaped (enc := enc) (C := Tryz.checked) (os := os) (X := fun w _ => laidMetH Tryz.prog laidL w) false (World.doorLaid Tryz.prog 400 os) #[.agg (E 0).toArray, .agg (EE [0, 0]).toArray] 8 rfl (World.shaped_of_RefB (by kernel_rfl) (by kernel_rfl)) (by kernel_rfl) (by kernel_rfl) (by kernel_rfl) (door_met os _)) ?_
  intro W base args ds gs before hval0 hW _ _ hL _
  have hval : ∀ (j : Nat) t v, Tryz.f3.params[j]? = some t → args[j]? = some v → Value.okWide Tryz.prog W .any base t v := hval0
  have hW' := hW
  obtain ⟨p, q, hA0, hV, rfl, hfz, hnd⟩ := hW
  have hA : DataW.TrodAll enc Tryz.prog W 0 (fun _ => true) true Tryz.f3.params.toList args.toList ds p := hA0
  rw [Tryz.params3] at hA hval
  obtain ⟨v0, v1, d0, d1, p0, p1, rfl, rfl, rfl, h0, h1⟩ := trodAll_two hA
  obtain ⟨g0, g1, g2, g3, g4, g5, rfl⟩ := six_list (trodVars_len hV)
  obtain ⟨a0, ha0, rfl⟩ := open_elt Tryz.underlying22 Tryz.underlying5 cells5 cells22 (hval 0 22 v0 rfl rfl) h0
  obtain ⟨x1, y1, hx1, hy1, rfl⟩ := open_pt (T := 22) Tryz.underlying24 (by kernel_rfl) (by kernel_rfl) Tryz.underlying22 Tryz.underlying5 (by kernel_rfl) cells5 cells22 (hval 1 24 v1 rfl rfl) h1
  obtain ⟨⟨t0, hg0⟩, ⟨t1, hg1⟩, ⟨t2, hg2⟩, ⟨t3, hg3⟩, ⟨t4, hg4⟩, ⟨t5, hg5⟩⟩ := laid_all hL
  refine (calls_true (fnTimesIs_ct (ig := 0) (jd := 1) (jo := 2) (jr := 3) (ji := 4) (jt := 5) (M := [⟨3, t0, EE [pp]⟩, ⟨2, t1, EE [dP]⟩, ⟨1, t2, EE [qq]⟩, ⟨5, t3, Go.Proofs.YtjlhhcdefcofkaaGreatDoor.W (digs 18446744073709551616 4 r448)⟩, ⟨0, t4, EE [i4n]⟩, ⟨6, t5, EE [dT]⟩]) rfl rfl rfl rfl rfl rfl (by decide) ha0 hx1 hy1) (has_cons hg0 (by simp [ids]) (has_cons hg1 (by simp [ids]) (has_cons hg2 (by simp [ids]) (has_cons hg3 (by simp [ids]) (has_cons hg4 (by simp [ids]) (has_cons hg5 (by simp [ids]) (has_nil _)))))))).mono fun e W' ⟨he, hb⟩ => ?_
  subst he
  exact ⟨_, rfl, post_true laidOut (by kernel_rfl) (by kernel_rfl) hW' hb rfl (by kernel_rfl) Tryz.underlying4⟩

theorem fnTimesIs_holds : Rows.FnTimesIsSaid :=
  OpenClaim.holds_of_wide 3 Tryz.f3 rfl rfl rfl rfl rfl rfl rfl ⟨rfl, rfl, rfl, rfl, rfl⟩ rfl rfl rfl rfl rfl (by kernel_rfl) Tryz.func3 (by kernel_rfl)
    (of_decide_eq_true (by kernel_rfl)) (by unfold Func.isWrapper; first | (rw [if_pos (by decide +kernel)]; kernel_rfl) | (rw [if_neg (by decide +kernel)]; exact ⟨rfl, rfl⟩))
    (fun os started H enc _ => lifted os started H enc)

/-- The law answers true for every input. The listed variable is tied to the program's text. -/
theorem fnTimesIs_card : Rows.FnTimesIsCardSaid :=
  Claim7.holds_tied_plain_at .later [] [.data, .data, .widerDeep, .widerDeep, .data, .data] true (true, "6132daa2523c6936b70a19780a4fc38aa7e09b4a9eb285cfe9134efe7dfd48cc") false
    fnTimesIs_holds (fun _ h => by cases h) (by kernel_rfl) (fun _ h => by cases h) fnTimesIs_row_tie rfl ⟨rfl, rfl⟩ (by kernel_rfl) rfl
    (fun f fn hf hfn => by
      obtain rfl : f = 3 := Option.some.inj ((show Tryz.prog.funcNamed "loop.example/pub-g03032/laws.FnTimesIs" = some 3 by kernel_rfl).symm.trans hf) |>.symm
      obtain rfl : fn = Tryz.f3 := (Option.some.inj (Tryz.func3.symm.trans hfn)).symm
      exact ⟨by kernel_rfl, fun j t ht => by
        rw [Tryz.params3] at ht
        have hm : t ∈ [22, 24] := by simpa using Array.mem_of_getElem? ht
        have hall : ([22, 24].all fun u => !Tryz.prog.wantsStandIn u) = true := by kernel_rfl
        exact (show Tryz.prog.wantsStandIn t = false by simpa using List.all_eq_true.1 hall t hm)⟩)
    (by kernel_rfl)
#print axioms fnTimesIs_card
end Go.Proofs.YtjlhhcdefcofkaaGreatDoor
