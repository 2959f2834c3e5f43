/- The law FnOnCurveIs. -/
import Derived.Test.YtjanppnnioeifaaDoorPtL0
import Derived.Test.YtjanppnnioeifaaDoorDrawGA
namespace Go.Proofs.YtjanppnnioeifaaDoor
open Go
set_option maxRecDepth 100000

theorem iOnCurve_ct {M : Mem} {ig Tp jd Td : Nat} (hG : M[ig]? = some ⟨3, Tp, EE [pp]⟩) (hD : M[jd]? = some ⟨0, Td, EE [dP]⟩) {x y : Nat} (hx : x < RR) (hy : y < RR) : Ct Tryd.prog 29 #[.agg (EE [x, y]).toArray] M (Det (.bool (onB x y)) M) := by
  by_cases h : On (el dP) (el x) (el y)
  · rw [onB_iff.2 h]; exact iOnCurveT_ct hG hD hx hy h
  · rw [onB_false h]; exact iOnCurveF_ct hG hD hx hy h
theorem fnOnCurveIs_ct {M : Mem} {ig Tp jd Td : Nat} (hG : M[ig]? = some ⟨3, Tp, EE [pp]⟩) (hD : M[jd]? = some ⟨0, Td, EE [dP]⟩) {x1 y1 : Nat} (hx1 : x1 < RR) (hy1 : y1 < RR) : Ct Tryd.prog 5 #[.agg (EE [x1, y1]).toArray] M (Det (.bool true) M) := by
  refine ct_of (vs := [.agg (EE [x1, y1]).toArray]) Tryd.func5 rfl Tryd.ntmps5 rfl fun w0 => ?_
  refine at_seq ?_
  refine at_region ?_
  refine at_n rfl rfl (opr_box rfl rfl rfl) ?_
  intro g0
  refine at_d rfl rfl (opr_assign rfl rfl) ?_
  refine at_nil ?_
  refine at_then ?_
  refine at_seq ?_
  refine GA.at_drawG (B := [⟨g0, 24, EE [x1, y1]⟩]) (E := [⟨.pure [0], 0, [], .v (.agg (EE [x1, y1]).toArray)⟩, ⟨.pure [], 0, [], .v (.bool (onB x1 y1))⟩, ⟨.pure [0], 0, [], .v (.agg (EE [x1, y1]).toArray)⟩, ⟨.alloc, 24, EE [x1, y1], .s 3 1⟩, ⟨.pureA 3, 0, [], .v (.bool (onAll [x1, y1] 1))⟩, ⟨.pure [], 0, [], .v (.bool true)⟩, ⟨.pure [], 0, [], .v (.bool true)⟩, ⟨.pure [], 0, [], .v (.agg (EE [0, 1]).toArray)⟩, ⟨.pure [], 0, [], .v (.bool true)⟩, ⟨.pure [], 0, [], .v (.bool true)⟩, ⟨.pure [], 0, [], .v (.bool true)⟩]) (by kernel_rfl) (by kernel_rfl) (by kernel_rfl) (fun γ0 => ?_)
  refine GA.gs_pure rfl rfl (fun M' sB sT => ?_) ?_
  · obtain ⟨iB0, hB0⟩ := sB 0 _ rfl rfl; exact opr_load (i := iB0) rfl rfl hB0 Tryd.underlying24 rfl size24 (EE_length _) (EE_all rfl)
  refine GA.gs_pure rfl rfl (fun M' sB sT => ?_) ?_
  · obtain ⟨iT0, hT0⟩ := sT _ _ hG; obtain ⟨iT1, hT1⟩ := sT _ _ hD; exact opr_call rfl rfl rfl Tryd.func29 (by kernel_rfl) rfl (iOnCurve_ct (ig := iT0) (jd := iT1) hT0 hT1 hx1 hy1)
  refine GA.gs_pure rfl rfl (fun M' sB sT => ?_) ?_
  · obtain ⟨iB0, hB0⟩ := sB 0 _ rfl rfl; exact opr_load (i := iB0) rfl rfl hB0 Tryd.underlying24 rfl size24 (EE_length _) (EE_all rfl)
  refine GA.gs_allocS rfl rfl (fun M' => opr_buildSlice (s := 112) (zs := List.replicate 112 (.int .u8 0)) (cs := EE [0, 0]) (ds := EE [x1, y1]) rfl rfl Tryd.underlying61 (by kernel_rfl) (by decide) (by decide) (by kernel_rfl) (fill_pairs [(0, x1, y1)] _ rfl)) ?_
  refine GA.gs_pureA rfl rfl rfl rfl rfl (fun M' j hj sT => ?_) ?_
  · exact opr_call rfl rfl rfl Tryd.func13 (by kernel_rfl) rfl (on_ct (il := j) (l := [x1, y1]) hj rfl (by intro x hx; simp only [List.mem_cons, List.not_mem_nil, or_false] at hx; rcases hx with rfl | rfl <;> assumption) (by decide))
  refine GA.gs_pure rfl rfl (fun M' sB sT => ?_) ?_
  · exact opr_eqlBb (t := true) rfl rfl rfl Tryd.underlying4 (by rw [onAll_is]; exact beq_self_eq_true _)
  refine GA.gs_pure rfl rfl (fun M' sB sT => ?_) ?_
  · exact opr_move rfl rfl
  refine GA.gs_pure rfl rfl (fun M' sB sT => ?_) ?_
  · obtain ⟨iT0, hT0⟩ := sT _ _ hG; exact opr_call rfl rfl rfl Tryd.func30 (by kernel_rfl) rfl (iId_ct (ig := iT0) hT0)
  refine GA.gs_pure rfl rfl (fun M' sB sT => ?_) ?_
  · obtain ⟨iT0, hT0⟩ := sT _ _ hG; obtain ⟨iT1, hT1⟩ := sT _ _ hD; exact opr_call rfl rfl rfl Tryd.func29 (by kernel_rfl) rfl (iOnCurveT_ct (ig := iT0) (jd := iT1) hT0 hT1 RR_zero RR_one on_id)
  refine GA.gs_pure rfl rfl (fun M' sB sT => ?_) ?_
  · exact opr_pickT rfl rfl rfl
  refine GA.gs_pure rfl rfl (fun M' sB sT => ?_) ?_
  · exact opr_assign rfl rfl
  refine GA.gs_nil ?_
  refine (show At _ _ (⟨(γ0 3), 24, EE [x1, y1]⟩ :: ⟨g0, 24, EE [x1, y1]⟩ :: _) _ from ?_)
  refine at_then ?_
  refine at_ret ?_
  refine done_of (res1 Tryd.results5 (res_tmp rfl)) ⟨rfl, rfl⟩ (by repeat (first | exact List.Sublist.refl _ | apply List.Sublist.cons))
end Go.Proofs.YtjanppnnioeifaaDoor
