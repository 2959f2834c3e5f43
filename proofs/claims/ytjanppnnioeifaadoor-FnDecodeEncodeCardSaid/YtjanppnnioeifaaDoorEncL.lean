/- What was encoded is decoded. -/
import Derived.Test.YtjanppnnioeifaaDoorEncD
import Derived.Test.YtjanppnnioeifaaDoorPtL0
import Derived.Test.YtjanppnnioeifaaDoorPtS
namespace Go.Proofs.YtjanppnnioeifaaDoor
open Go
set_option maxRecDepth 100000

theorem lawN_ct {M : Mem} {ig Tp jd Td : Nat} (hG : M[ig]? = some ⟨3, Tp, EE [pp]⟩) (hD : M[jd]? = some ⟨0, Td, EE [dP]⟩) {x1 y1 : Nat} (hx1 : x1 < RR) (hy1 : y1 < RR) (hN : onAll [x1, y1] 1 = false) : Ct Tryd.prog 12 #[.agg (EE [x1, y1]).toArray] M (Det (.bool true) M) := by
  refine ct_of (vs := [.agg (EE [x1, y1]).toArray]) Tryd.func12 rfl Tryd.ntmps12 rfl fun w0 => ?_
  refine at_seq ?_
  refine at_region ?_
  refine at_n rfl rfl (opr_box rfl rfl rfl) ?_
  intro g0
  refine at_d rfl rfl (opr_assign rfl rfl) ?_
  refine at_nil ?_
  refine at_then ?_
  refine at_seq ?_
  refine at_seq ?_
  refine at_region ?_
  refine at_d rfl rfl (opr_load (i := 0) rfl rfl rfl Tryd.underlying24 rfl size24 (EE_length _) (EE_all rfl)) ?_
  refine at_c rfl rfl (opr_buildSlice (s := 112) (zs := List.replicate 112 (.int .u8 0)) (cs := EE [0, 0]) (ds := EE [x1, y1]) rfl rfl Tryd.underlying61 (by kernel_rfl) (by decide) (by decide) (by kernel_rfl) (fill_pairs [(0, x1, y1)] _ rfl)) ?_
  rintro _ _ ⟨gS1, rfl, rfl⟩
  refine at_d rfl rfl (opr_eq' (opr_call rfl rfl rfl Tryd.func13 (by kernel_rfl) rfl (on_ct (il := 0) (l := [x1, y1]) rfl rfl (by intro x hx; simp only [List.mem_cons, List.not_mem_nil, or_false] at hx; rcases hx with rfl | rfl <;> assumption) (by decide))) (congrArg Value.bool hN)) ?_
  refine at_d rfl rfl (opr_unOp (u := .bool true) rfl rfl (fun _ => rfl)) ?_
  refine at_d rfl rfl (opr_move rfl rfl) ?_
  refine at_op_skip rfl rfl ?_
  refine at_op_skip rfl rfl ?_
  refine at_op_skip rfl rfl ?_
  refine at_op_skip rfl rfl ?_
  refine at_op_skip rfl rfl ?_
  refine at_op_skip rfl rfl ?_
  refine at_d rfl rfl (opr_pickT rfl rfl rfl) ?_
  refine at_nil ?_
  refine at_then ?_
  refine at_cond_true rfl ?_
  refine at_seq ?_
  refine at_region ?_
  refine at_d rfl rfl (opr_assign rfl rfl) ?_
  refine at_nil ?_
  refine at_then ?_
  refine at_ret ?_
  refine at_then_ret ?_
  refine done_of (res1 Tryd.results12 (res_tmp rfl)) ⟨rfl, rfl⟩ (by repeat (first | exact List.Sublist.refl _ | apply List.Sublist.cons))
theorem lawZ_ct {M : Mem} {ig Tp jd Td : Nat} (hG : M[ig]? = some ⟨3, Tp, EE [pp]⟩) (hD : M[jd]? = some ⟨0, Td, EE [dP]⟩) {x1 y1 : Nat} (hx1 : x1 < RR) (hy1 : y1 < RR) (hN : onAll [x1, y1] 1 = true) (h0 : x1 % pp = 0) : Ct Tryd.prog 12 #[.agg (EE [x1, y1]).toArray] M (Det (.bool true) M) := by
  refine ct_of (vs := [.agg (EE [x1, y1]).toArray]) Tryd.func12 rfl Tryd.ntmps12 rfl fun w0 => ?_
  refine at_seq ?_
  refine at_region ?_
  refine at_n rfl rfl (opr_box rfl rfl rfl) ?_
  intro g0
  refine at_d rfl rfl (opr_assign rfl rfl) ?_
  refine at_nil ?_
  refine at_then ?_
  refine at_seq ?_
  refine at_seq ?_
  refine at_region ?_
  refine at_d rfl rfl (opr_load (i := 0) rfl rfl rfl Tryd.underlying24 rfl size24 (EE_length _) (EE_all rfl)) ?_
  refine at_c rfl rfl (opr_buildSlice (s := 112) (zs := List.replicate 112 (.int .u8 0)) (cs := EE [0, 0]) (ds := EE [x1, y1]) rfl rfl Tryd.underlying61 (by kernel_rfl) (by decide) (by decide) (by kernel_rfl) (fill_pairs [(0, x1, y1)] _ rfl)) ?_
  rintro _ _ ⟨gS1, rfl, rfl⟩
  refine at_d rfl rfl (opr_eq' (opr_call rfl rfl rfl Tryd.func13 (by kernel_rfl) rfl (on_ct (il := 0) (l := [x1, y1]) rfl rfl (by intro x hx; simp only [List.mem_cons, List.not_mem_nil, or_false] at hx; rcases hx with rfl | rfl <;> assumption) (by decide))) (congrArg Value.bool hN)) ?_
  refine at_d rfl rfl (opr_unOp (u := .bool false) rfl rfl (fun _ => rfl)) ?_
  refine at_d rfl rfl (opr_move rfl rfl) ?_
  refine at_d rfl rfl (opr_fieldAddr rfl rfl Tryd.underlying24 rfl size22 rfl rfl) ?_
  refine at_d rfl rfl (opr_load (i := 1) rfl rfl rfl Tryd.underlying22 rfl size22 (E_length _) (EE_at (k := 0) rfl rfl rfl)) ?_
  refine at_d rfl rfl (opr_call rfl rfl rfl Tryd.func20 (by kernel_rfl) rfl (of_ct _)) ?_
  refine at_d rfl rfl (opr_call rfl rfl rfl Tryd.func42 (by kernel_rfl) rfl (mod_ct hx1)) ?_
  refine at_d rfl rfl (opr_buildE (ds := N 0) rfl rfl builtn31 rfl) ?_
  refine at_d rfl rfl (opr_eqlNb (t := true) rfl rfl rfl Tryd.underlying31 Tryd.underlying29 size29 (by kernel_rfl) (modp_lt _) (by decide) (decide_eq_true h0)) ?_
  refine at_d rfl rfl (opr_pickN rfl rfl rfl) ?_
  refine at_nil ?_
  refine at_then ?_
  refine at_cond_true rfl ?_
  refine at_seq ?_
  refine at_region ?_
  refine at_d rfl rfl (opr_assign rfl rfl) ?_
  refine at_nil ?_
  refine at_then ?_
  refine at_ret ?_
  refine at_then_ret ?_
  refine done_of (res1 Tryd.results12 (res_tmp rfl)) ⟨rfl, rfl⟩ (by repeat (first | exact List.Sublist.refl _ | apply List.Sublist.cons))
theorem lawM_ct {M : Mem} {ig Tp jd Td : Nat} (hG : M[ig]? = some ⟨3, Tp, EE [pp]⟩) (hD : M[jd]? = some ⟨0, Td, EE [dP]⟩) {x1 y1 : Nat} (hx1 : x1 < RR) (hy1 : y1 < RR) (hN : onAll [x1, y1] 1 = true) (h0 : ¬ x1 % pp = 0) (hOn : On (el dP) (el x1) (el y1)) : Ct Tryd.prog 12 #[.agg (EE [x1, y1]).toArray] M (Det (.bool true) M) := by
  refine ct_of (vs := [.agg (EE [x1, y1]).toArray]) Tryd.func12 rfl Tryd.ntmps12 rfl fun w0 => ?_
  refine at_seq ?_
  refine at_region ?_
  refine at_n rfl rfl (opr_box rfl rfl rfl) ?_
  intro g0
  refine at_d rfl rfl (opr_assign rfl rfl) ?_
  refine at_nil ?_
  refine at_then ?_
  refine at_seq ?_
  refine at_seq ?_
  refine at_region ?_
  refine at_d rfl rfl (opr_load (i := 0) rfl rfl rfl Tryd.underlying24 rfl size24 (EE_length _) (EE_all rfl)) ?_
  refine at_c rfl rfl (opr_buildSlice (s := 112) (zs := List.replicate 112 (.int .u8 0)) (cs := EE [0, 0]) (ds := EE [x1, y1]) rfl rfl Tryd.underlying61 (by kernel_rfl) (by decide) (by decide) (by kernel_rfl) (fill_pairs [(0, x1, y1)] _ rfl)) ?_
  rintro _ _ ⟨gS1, rfl, rfl⟩
  refine at_d rfl rfl (opr_eq' (opr_call rfl rfl rfl Tryd.func13 (by kernel_rfl) rfl (on_ct (il := 0) (l := [x1, y1]) rfl rfl (by intro x hx; simp only [List.mem_cons, List.not_mem_nil, or_false] at hx; rcases hx with rfl | rfl <;> assumption) (by decide))) (congrArg Value.bool hN)) ?_
  refine at_d rfl rfl (opr_unOp (u := .bool false) rfl rfl (fun _ => rfl)) ?_
  refine at_d rfl rfl (opr_move rfl rfl) ?_
  refine at_d rfl rfl (opr_fieldAddr rfl rfl Tryd.underlying24 rfl size22 rfl rfl) ?_
  refine at_d rfl rfl (opr_load (i := 1) rfl rfl rfl Tryd.underlying22 rfl size22 (E_length _) (EE_at (k := 0) rfl rfl rfl)) ?_
  refine at_d rfl rfl (opr_call rfl rfl rfl Tryd.func20 (by kernel_rfl) rfl (of_ct _)) ?_
  refine at_d rfl rfl (opr_call rfl rfl rfl Tryd.func42 (by kernel_rfl) rfl (mod_ct hx1)) ?_
  refine at_d rfl rfl (opr_buildE (ds := N 0) rfl rfl builtn31 rfl) ?_
  refine at_d rfl rfl (opr_eqlNb (t := false) rfl rfl rfl Tryd.underlying31 Tryd.underlying29 size29 (by kernel_rfl) (modp_lt _) (by decide) (decide_eq_false h0)) ?_
  refine at_d rfl rfl (opr_pickN rfl rfl rfl) ?_
  refine at_nil ?_
  refine at_then ?_
  refine at_cond_false rfl ?_
  refine at_skip ?_
  refine at_then ?_
  refine at_seq ?_
  refine at_region ?_
  refine at_d rfl rfl (opr_load (i := 1) rfl rfl rfl Tryd.underlying24 rfl size24 (EE_length _) (EE_all rfl)) ?_
  refine at_c rfl rfl (opr_call rfl rfl rfl Tryd.func34 (by kernel_rfl) rfl (iEncode_ct (ig := ig + 2) (jd := jd + 2) hG hD hx1 hy1 hOn)) ?_
  rintro _ _ ⟨gs, rfl, rfl⟩
  refine at_d rfl rfl (opr_move rfl rfl) ?_
  refine at_d rfl rfl (opr_extract rfl rfl rfl) ?_
  refine at_d rfl rfl (opr_extract rfl rfl rfl) ?_
  refine at_d rfl rfl (opr_assign rfl rfl) ?_
  refine at_d rfl rfl (opr_assign rfl rfl) ?_
  refine at_nil ?_
  refine at_then ?_
  refine at_seq ?_
  refine at_region ?_
  refine at_d rfl rfl (opr_move rfl rfl) ?_
  refine at_d rfl rfl (opr_call rfl rfl rfl Tryd.func25 (by kernel_rfl) rfl (iDecode_ct (ig := ig + 3) (jd := jd + 3) (ix := 0) (x := x1) (y := y1 % pp) hG hD rfl (Nat.mod_lt _ (by decide)) h0 (by rw [el_mod]; exact hOn))) ?_
  refine at_d rfl rfl (opr_move rfl rfl) ?_
  refine at_d rfl rfl (opr_extract rfl rfl rfl) ?_
  refine at_d rfl rfl (opr_extract rfl rfl rfl) ?_
  refine at_n rfl rfl (opr_alloc rfl zero24 rfl) ?_
  intro g1
  refine at_d rfl rfl (opr_store (i := 0) rfl rfl rfl rfl rfl size24 (EE_length _) (by rw [EE_length]; exact Nat.le_of_ble_eq_true rfl) (EE_flat _) (EE_over rfl)) ?_
  refine at_d rfl rfl (opr_assign rfl rfl) ?_
  refine at_nil ?_
  refine at_then ?_
  refine at_seq ?_
  refine at_drawQ (by kernel_rfl) (by kernel_rfl) (List.cons_ne_nil _ _) ?_
  refine dr_op rfl rfl (opr_move rfl rfl) ?_
  refine dr_op rfl rfl (opr_move rfl rfl) ?_
  refine dr_op rfl rfl (opr_move rfl rfl) ?_
  refine dr_op rfl rfl (opr_pickT rfl rfl rfl) ?_
  refine dr_op rfl rfl (opr_move rfl rfl) ?_
  refine dr_op rfl rfl (opr_load (i := 0) rfl rfl rfl Tryd.underlying24 rfl size24 (EE_length _) (EE_all rfl)) ?_
  refine dr_op rfl rfl (opr_load (i := 3) rfl rfl rfl Tryd.underlying24 rfl size24 (EE_length _) (EE_all rfl)) ?_
  refine dr_op rfl rfl (opr_call rfl rfl rfl Tryd.func16 (by kernel_rfl) rfl (at_ct)) ?_
  refine dr_op rfl rfl (opr_call rfl rfl rfl Tryd.func31 (by kernel_rfl) rfl (told_ct hx1 hy1 RR_one (Nat.mod_lt _ (by decide)) (Nat.mod_lt _ (by decide)) (by rw [el_mod, el_mod]; exact rep_one _ _))) ?_
  refine dr_op rfl rfl (opr_pickT rfl rfl rfl) ?_
  refine dr_last rfl rfl (opr_assign rfl rfl) ?_
  refine ⟨rfl, ?_⟩
  refine at_then ?_
  refine at_ret ?_
  refine done_of (res1 Tryd.results12 (res_tmp rfl)) ⟨rfl, rfl⟩ (by repeat (first | exact List.Sublist.refl _ | apply List.Sublist.cons))
theorem fnDecodeEncode_ct {M : Mem} {ig Tp jd Td : Nat} (hG : M[ig]? = some ⟨3, Tp, EE [pp]⟩) (hD : M[jd]? = some ⟨0, Td, EE [dP]⟩) {x1 y1 : Nat} (hx1 : x1 < RR) (hy1 : y1 < RR) : Ct Tryd.prog 12 #[.agg (EE [x1, y1]).toArray] M (Det (.bool true) M) := by
  by_cases hOn : On (el dP) (el x1) (el y1)
  · have hT : onAll [x1, y1] 1 = true := by rw [onAll_is]; exact onB_iff.2 hOn
    by_cases h0 : x1 % pp = 0
    · exact lawZ_ct hG hD hx1 hy1 hT h0
    · exact lawM_ct hG hD hx1 hy1 hT h0 hOn
  · exact lawN_ct hG hD hx1 hy1 (by rw [onAll_is]; exact onB_false hOn)
end Go.Proofs.YtjanppnnioeifaaDoor
