/- The law FnTwiceIs. -/
import Derived.Test.YtjanppnnioeifaaDoorPtL0
namespace Go.Proofs.YtjanppnnioeifaaDoor
open Go
set_option maxRecDepth 100000

theorem fnTwiceIs_ct {M : Mem} {ig Tp jd Td : Nat} (hG : M[ig]? = some ⟨3, Tp, EE [pp]⟩) (hD : M[jd]? = some ⟨0, Td, EE [dP]⟩) {x1 y1 : Nat} (hx1 : x1 < RR) (hy1 : y1 < RR) : Ct Tryd.prog 8 #[.agg (EE [x1, y1]).toArray] M (Det (.bool true) M) := by
  refine ct_of (vs := [.agg (EE [x1, y1]).toArray]) Tryd.func8 rfl Tryd.ntmps8 rfl fun w0 => ?_
  refine at_seq ?_
  refine at_region ?_
  refine at_n rfl rfl (opr_box rfl rfl rfl) ?_
  intro g0
  refine at_d rfl rfl (opr_assign rfl rfl) ?_
  refine at_nil ?_
  refine at_then ?_
  refine at_seq ?_
  refine at_seq ?_
  refine at_region ?_
  refine at_d rfl rfl (opr_load (i := 0) rfl rfl rfl Tryd.underlying24 rfl size24 (EE_length _) (EE_all rfl)) ?_
  refine at_c rfl rfl (opr_buildSlice (s := 112) (zs := List.replicate 112 (.int .u8 0)) (cs := EE [0, 0]) (ds := EE [x1, y1]) rfl rfl Tryd.underlying61 (by kernel_rfl) (by decide) (by decide) (by kernel_rfl) (fill_pairs [(0, x1, y1)] _ rfl)) ?_
  rintro _ _ ⟨gS1, rfl, rfl⟩
  refine at_d rfl rfl (opr_call rfl rfl rfl Tryd.func13 (by kernel_rfl) rfl (on_ct (il := 0) (l := [x1, y1]) rfl rfl (by intro x hx; simp only [List.mem_cons, List.not_mem_nil, or_false] at hx; rcases hx with rfl | rfl <;> assumption) (by decide))) ?_
  refine at_d rfl rfl (opr_unOp (u := .bool (!(onAll [x1, y1] 1))) rfl rfl (fun _ => rfl)) ?_
  refine at_nil ?_
  refine at_then ?_
  refine at_cond rfl (fun ht => ?_) (fun ht => ?_)
  ·
    refine at_seq ?_
    refine at_region ?_
    refine at_d rfl rfl (opr_assign rfl rfl) ?_
    refine at_nil ?_
    refine at_then ?_
    refine at_ret ?_
    refine at_then_ret ?_
    refine done_of (res1 Tryd.results8 (res_tmp rfl)) ⟨rfl, rfl⟩ (by repeat (first | exact List.Sublist.refl _ | apply List.Sublist.cons))
  ·
    have o1 := onAll_one ht
    refine at_skip ?_
    refine at_then ?_
    refine at_seq ?_
    refine at_region ?_
    refine at_d rfl rfl (opr_load (i := 1) rfl rfl rfl Tryd.underlying24 rfl size24 (EE_length _) (EE_all rfl)) ?_
    refine at_c rfl rfl (opr_call rfl rfl rfl Tryd.func36 (by kernel_rfl) rfl (iTwice_ct (ig := ig + 2) (jd := jd + 2) hG hD hx1 hy1 o1)) ?_
    rintro _ _ ⟨xa, xa', hxa, hxa', sxa, rfl, rfl⟩
    refine at_d rfl rfl (opr_move rfl rfl) ?_
    refine at_d rfl rfl (opr_extract rfl rfl rfl) ?_
    refine at_d rfl rfl (opr_extract rfl rfl rfl) ?_
    refine at_n rfl rfl (opr_alloc rfl zero24 rfl) ?_
    intro g1
    refine at_d rfl rfl (opr_store (i := 0) rfl rfl rfl rfl rfl size24 (EE_length _) (by rw [EE_length]; exact Nat.le_of_ble_eq_true rfl) (EE_flat _) (EE_over rfl)) ?_
    refine at_d rfl rfl (opr_assign rfl rfl) ?_
    refine at_nil ?_
    refine at_then ?_
    refine at_seq ?_
    refine at_region ?_
    refine at_d rfl rfl (opr_load (i := 2) rfl rfl rfl Tryd.underlying24 rfl size24 (EE_length _) (EE_all rfl)) ?_
    refine at_c rfl rfl (opr_call rfl rfl rfl Tryd.func37 (by kernel_rfl) rfl (iTwiceIn_ct (ig := ig + 3) (jd := jd + 3) hG hD hx1 hy1 o1)) ?_
    rintro _ _ ⟨xb, xb', hxb, hxb', sxb, rfl, rfl⟩
    refine at_d rfl rfl (opr_move rfl rfl) ?_
    refine at_d rfl rfl (opr_extract rfl rfl rfl) ?_
    refine at_d rfl rfl (opr_extract rfl rfl rfl) ?_
    refine at_n rfl rfl (opr_alloc rfl zero24 rfl) ?_
    intro g2
    refine at_d rfl rfl (opr_store (i := 0) rfl rfl rfl rfl rfl size24 (EE_length _) (by rw [EE_length]; exact Nat.le_of_ble_eq_true rfl) (EE_flat _) (EE_over rfl)) ?_
    refine at_d rfl rfl (opr_assign rfl rfl) ?_
    refine at_nil ?_
    refine at_then ?_
    refine at_seq ?_
    refine at_drawQ (by kernel_rfl) (by kernel_rfl) (List.cons_ne_nil _ _) ?_
    refine dr_op rfl rfl (opr_load (i := 1) rfl rfl rfl Tryd.underlying24 rfl size24 (EE_length _) (EE_all rfl)) ?_
    refine dr_op rfl rfl (opr_move rfl rfl) ?_
    refine dr_op rfl rfl (opr_load (i := 3) rfl rfl rfl Tryd.underlying24 rfl size24 (EE_length _) (EE_all rfl)) ?_
    refine dr_op rfl rfl (opr_call rfl rfl rfl Tryd.func16 (by kernel_rfl) rfl (at_ct)) ?_
    refine dr_op rfl rfl (opr_load (i := 3) rfl rfl rfl Tryd.underlying24 rfl size24 (EE_length _) (EE_all rfl)) ?_
    refine dr_op rfl rfl (opr_call rfl rfl rfl Tryd.func16 (by kernel_rfl) rfl (at_ct)) ?_
    refine dr_op rfl rfl (opr_call rfl rfl rfl Tryd.func38 (by kernel_rfl) rfl (sPlus_ct hx1 hy1 RR_one hx1 hy1 RR_one)) ?_
    refine dr_op rfl rfl (opr_call rfl rfl rfl Tryd.func31 (by kernel_rfl) rfl (told_ct (plX_lt _ _ _ _ _ _) (plY_lt _ _ _ _ _ _) (plZ_lt _ _ _ _ _ _) hxa hxa' (rep_plus o1 o1 sxa))) ?_
    refine dr_op rfl rfl (opr_move rfl rfl) ?_
    refine dr_op rfl rfl (opr_move rfl rfl) ?_
    refine dr_op rfl rfl (opr_pickT rfl rfl rfl) ?_
    refine dr_op rfl rfl (opr_move rfl rfl) ?_
    refine dr_op rfl rfl (opr_load (i := 0) rfl rfl rfl Tryd.underlying24 rfl size24 (EE_length _) (EE_all rfl)) ?_
    refine dr_op rfl rfl (opr_load (i := 1) rfl rfl rfl Tryd.underlying24 rfl size24 (EE_length _) (EE_all rfl)) ?_
    refine dr_op rfl rfl (opr_eqlPt (e := 22) rfl rfl rfl Tryd.underlying24 (by kernel_rfl) (by kernel_rfl) Tryd.underlying22 size22 Tryd.underlying5 size5 (by kernel_rfl) (by kernel_rfl) (sum_eq o1 o1 hxb hxb' hxa hxa' sxb sxa).1 (sum_eq o1 o1 hxb hxb' hxa hxa' sxb sxa).2) ?_
    refine dr_op rfl rfl (opr_pickT rfl rfl rfl) ?_
    refine dr_last rfl rfl (opr_assign rfl rfl) ?_
    refine ⟨rfl, ?_⟩
    refine at_then ?_
    refine at_ret ?_
    refine done_of (res1 Tryd.results8 (res_tmp rfl)) ⟨rfl, rfl⟩ (by repeat (first | exact List.Sublist.refl _ | apply List.Sublist.cons))
end Go.Proofs.YtjanppnnioeifaaDoor
