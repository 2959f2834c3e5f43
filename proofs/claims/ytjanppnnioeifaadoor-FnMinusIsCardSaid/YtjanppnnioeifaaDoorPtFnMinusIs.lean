/- The law FnMinusIs. -/
import Derived.Test.YtjanppnnioeifaaDoorPtL0
namespace Go.Proofs.YtjanppnnioeifaaDoor
open Go
set_option maxRecDepth 100000

theorem pIsId_ct {M : Mem} {ig Tp : Nat} (hG : M[ig]? = some ⟨3, Tp, EE [pp]⟩) {ip gP TP : Nat} (hP : M[ip]? = some ⟨gP, TP, EE [0, 1, 1, 0, 1]⟩) : Ct Tryd.prog 45 #[.pointer (some ⟨gP, 0, none⟩)] M (Det (.bool true) M) := by
  refine ct_of (vs := [.pointer (some ⟨gP, 0, none⟩)]) Tryd.func45 rfl Tryd.ntmps45 rfl fun w0 => ?_
  refine at_seq ?_
  refine at_region ?_
  refine at_d rfl rfl (opr_assign rfl rfl) ?_
  refine at_nil ?_
  refine at_then ?_
  refine at_seq ?_
  refine at_drawQ (by kernel_rfl) (by kernel_rfl) (List.cons_ne_nil _ _) ?_
  refine dr_op rfl rfl (opr_move rfl rfl) ?_
  refine dr_op rfl rfl (opr_nilCheck rfl rfl) ?_
  refine dr_op rfl rfl (opr_fieldAddr rfl rfl Tryd.underlying84 rfl size82 rfl rfl) ?_
  refine dr_op rfl rfl (opr_call rfl rfl rfl Tryd.func75 (by kernel_rfl) rfl (fIsZeroR_ct (ig := ig) (iz := ip) (kz := 0) (t := true) hG hP rfl rfl (by decide) (by decide))) ?_
  refine dr_op rfl rfl (opr_move rfl rfl) ?_
  refine dr_op rfl rfl (opr_move rfl rfl) ?_
  refine dr_op rfl rfl (opr_nilCheck rfl rfl) ?_
  refine dr_op rfl rfl (opr_fieldAddr rfl rfl Tryd.underlying84 rfl size82 rfl rfl) ?_
  refine dr_op rfl rfl (opr_call rfl rfl rfl Tryd.func75 (by kernel_rfl) rfl (fIsZeroR_ct (ig := ig) (iz := ip) (kz := 1) (t := false) hG hP rfl rfl (by decide) (by decide))) ?_
  refine dr_op rfl rfl (opr_unOp (u := .bool true) rfl rfl (fun _ => rfl)) ?_
  refine dr_op rfl rfl (opr_pickT rfl rfl rfl) ?_
  refine dr_op rfl rfl (opr_move rfl rfl) ?_
  refine dr_op rfl rfl (opr_move rfl rfl) ?_
  refine dr_op rfl rfl (opr_nilCheck rfl rfl) ?_
  refine dr_op rfl rfl (opr_fieldAddr rfl rfl Tryd.underlying84 rfl size82 rfl rfl) ?_
  refine dr_op rfl rfl (opr_call rfl rfl rfl Tryd.func75 (by kernel_rfl) rfl (fIsZeroR_ct (ig := ig) (iz := ip) (kz := 2) (t := false) hG hP rfl rfl (by decide) (by decide))) ?_
  refine dr_op rfl rfl (opr_unOp (u := .bool true) rfl rfl (fun _ => rfl)) ?_
  refine dr_op rfl rfl (opr_pickT rfl rfl rfl) ?_
  refine dr_op rfl rfl (opr_move rfl rfl) ?_
  refine dr_op rfl rfl (opr_move rfl rfl) ?_
  refine dr_op rfl rfl (opr_nilCheck rfl rfl) ?_
  refine dr_op rfl rfl (opr_fieldAddr rfl rfl Tryd.underlying84 rfl size82 rfl rfl) ?_
  refine dr_op rfl rfl (opr_load (i := ip) rfl rfl hP Tryd.underlying82 rfl size82 (E_length _) (EE_at (k := 1) rfl rfl rfl)) ?_
  refine dr_op rfl rfl (opr_move rfl rfl) ?_
  refine dr_op rfl rfl (opr_nilCheck rfl rfl) ?_
  refine dr_op rfl rfl (opr_fieldAddr rfl rfl Tryd.underlying84 rfl size82 rfl rfl) ?_
  refine dr_op rfl rfl (opr_load (i := ip) rfl rfl hP Tryd.underlying82 rfl size82 (E_length _) (EE_at (k := 2) rfl rfl rfl)) ?_
  refine dr_op rfl rfl (opr_eqlEb (t := true) rfl rfl rfl Tryd.underlying82 Tryd.underlying5 size5 (by kernel_rfl) RR_one RR_one (by decide)) ?_
  refine dr_op rfl rfl (opr_pickT rfl rfl rfl) ?_
  refine dr_last rfl rfl (opr_assign rfl rfl) ?_
  refine ⟨rfl, ?_⟩
  refine at_then ?_
  refine at_ret ?_
  refine done_of (res1 Tryd.results45 (res_tmp rfl)) ⟨rfl, rfl⟩ (by repeat (first | exact List.Sublist.refl _ | apply List.Sublist.cons))
theorem iIsId_ct {M : Mem} {ig Tp jd Td : Nat} (hG : M[ig]? = some ⟨3, Tp, EE [pp]⟩) (hD : M[jd]? = some ⟨0, Td, EE [dP]⟩) : Ct Tryd.prog 15 #[.agg (EE [0, 1]).toArray] M (Det (.tuple #[.bool true, .bool true]) M) := by
  refine ct_of (vs := [.agg (EE [0, 1]).toArray]) Tryd.func15 rfl Tryd.ntmps15 rfl fun w0 => ?_
  refine at_seq ?_
  refine at_region ?_
  refine at_n rfl rfl (opr_box rfl rfl rfl) ?_
  intro g0
  refine at_d rfl rfl (opr_assign rfl rfl) ?_
  refine at_d rfl rfl (opr_assign rfl rfl) ?_
  refine at_nil ?_
  refine at_then ?_
  refine at_seq ?_
  refine at_region ?_
  refine at_d rfl rfl (opr_load (i := 0) rfl rfl rfl Tryd.underlying24 rfl size24 (EE_length _) (EE_all rfl)) ?_
  refine at_c rfl rfl (opr_call rfl rfl rfl Tryd.func43 (by kernel_rfl) rfl (pointT_ct (ig := ig + 1) (jd := jd + 1) hG hD RR_zero RR_one on_id)) ?_
  rintro _ _ ⟨gN1, rfl, rfl⟩
  refine at_d rfl rfl (opr_move rfl rfl) ?_
  refine at_d rfl rfl (opr_extract rfl rfl rfl) ?_
  refine at_d rfl rfl (opr_extract rfl rfl rfl) ?_
  refine at_d rfl rfl (opr_assign rfl rfl) ?_
  refine at_d rfl rfl (opr_assign rfl rfl) ?_
  refine at_nil ?_
  refine at_then ?_
  refine at_seq ?_
  refine at_seq ?_
  refine at_region ?_
  refine at_d rfl rfl (opr_move rfl rfl) ?_
  refine at_d rfl rfl (opr_unOp (u := .bool false) rfl rfl (fun _ => rfl)) ?_
  refine at_nil ?_
  refine at_then ?_
  refine at_cond_false rfl ?_
  refine at_skip ?_
  refine at_then ?_
  refine at_seq ?_
  refine at_region ?_
  refine at_d rfl rfl (opr_move rfl rfl) ?_
  refine at_d rfl rfl (opr_call rfl rfl rfl Tryd.func45 (by kernel_rfl) rfl (pIsId_ct (ig := ig + 2) (ip := 0) hG rfl)) ?_
  refine at_d rfl rfl (opr_assign rfl rfl) ?_
  refine at_d rfl rfl (opr_assign rfl rfl) ?_
  refine at_nil ?_
  refine at_then ?_
  refine at_ret ?_
  exact done_of (res2 Tryd.results15 (res_tmp rfl) (res_tmp rfl)) ⟨rfl, rfl⟩ (by repeat (first | exact List.Sublist.refl _ | apply List.Sublist.cons))
theorem fnMinusIs_ct {M : Mem} {ig Tp jd Td : Nat} (hG : M[ig]? = some ⟨3, Tp, EE [pp]⟩) (hD : M[jd]? = some ⟨0, Td, EE [dP]⟩) {x1 y1 : Nat} (hx1 : x1 < RR) (hy1 : y1 < RR) : Ct Tryd.prog 11 #[.agg (EE [x1, y1]).toArray] M (Det (.bool true) M) := by
  refine ct_of (vs := [.agg (EE [x1, y1]).toArray]) Tryd.func11 rfl Tryd.ntmps11 rfl fun w0 => ?_
  refine at_seq ?_
  refine at_region ?_
  refine at_n rfl rfl (opr_box rfl rfl rfl) ?_
  intro g0
  refine at_d rfl rfl (opr_assign rfl rfl) ?_
  refine at_nil ?_
  refine at_then ?_
  refine at_seq ?_
  refine at_seq ?_
  refine at_region ?_
  refine at_d rfl rfl (opr_load (i := 0) rfl rfl rfl Tryd.underlying24 rfl size24 (EE_length _) (EE_all rfl)) ?_
  refine at_c rfl rfl (opr_buildSlice (s := 112) (zs := List.replicate 112 (.int .u8 0)) (cs := EE [0, 0]) (ds := EE [x1, y1]) rfl rfl Tryd.underlying61 (by kernel_rfl) (by decide) (by decide) (by kernel_rfl) (fill_pairs [(0, x1, y1)] _ rfl)) ?_
  rintro _ _ ⟨gS1, rfl, rfl⟩
  refine at_d rfl rfl (opr_call rfl rfl rfl Tryd.func13 (by kernel_rfl) rfl (on_ct (il := 0) (l := [x1, y1]) rfl rfl (by intro x hx; simp only [List.mem_cons, List.not_mem_nil, or_false] at hx; rcases hx with rfl | rfl <;> assumption) (by decide))) ?_
  refine at_d rfl rfl (opr_unOp (u := .bool (!(onAll [x1, y1] 1))) rfl rfl (fun _ => rfl)) ?_
  refine at_nil ?_
  refine at_then ?_
  refine at_cond rfl (fun ht => ?_) (fun ht => ?_)
  ·
    refine at_seq ?_
    refine at_region ?_
    refine at_d rfl rfl (opr_assign rfl rfl) ?_
    refine at_nil ?_
    refine at_then ?_
    refine at_ret ?_
    refine at_then_ret ?_
    refine done_of (res1 Tryd.results11 (res_tmp rfl)) ⟨rfl, rfl⟩ (by repeat (first | exact List.Sublist.refl _ | apply List.Sublist.cons))
  ·
    have o1 := onAll_one ht
    refine at_skip ?_
    refine at_then ?_
    refine at_seq ?_
    refine at_region ?_
    refine at_d rfl rfl (opr_load (i := 1) rfl rfl rfl Tryd.underlying24 rfl size24 (EE_length _) (EE_all rfl)) ?_
    refine at_c rfl rfl (opr_call rfl rfl rfl Tryd.func41 (by kernel_rfl) rfl (iMinus_ct (ig := ig + 2) (jd := jd + 2) hG hD hx1 hy1 o1)) ?_
    rintro _ _ ⟨xb, xb', hxb, hxb', fb, fb', rfl, rfl⟩
    have oB : On (el dP) (el xb) (el xb') := by rw [fb, fb']; exact on_negx o1
    refine at_d rfl rfl (opr_move rfl rfl) ?_
    refine at_d rfl rfl (opr_extract rfl rfl rfl) ?_
    refine at_d rfl rfl (opr_extract rfl rfl rfl) ?_
    refine at_n rfl rfl (opr_alloc rfl zero24 rfl) ?_
    intro g1
    refine at_d rfl rfl (opr_store (i := 0) rfl rfl rfl rfl rfl size24 (EE_length _) (by rw [EE_length]; exact Nat.le_of_ble_eq_true rfl) (EE_flat _) (EE_over rfl)) ?_
    refine at_d rfl rfl (opr_assign rfl rfl) ?_
    refine at_nil ?_
    refine at_then ?_
    refine at_seq ?_
    refine at_region ?_
    refine at_d rfl rfl (opr_load (i := 2) rfl rfl rfl Tryd.underlying24 rfl size24 (EE_length _) (EE_all rfl)) ?_
    refine at_d rfl rfl (opr_load (i := 0) rfl rfl rfl Tryd.underlying24 rfl size24 (EE_length _) (EE_all rfl)) ?_
    refine at_c rfl rfl (opr_call rfl rfl rfl Tryd.func39 (by kernel_rfl) rfl (iPlus_ct (ig := ig + 3) (jd := jd + 3) hG hD hx1 hy1 o1 (pp_lt_RR hxb) (pp_lt_RR hxb') oB)) ?_
    rintro _ _ ⟨xa, xa', hxa, hxa', sxa, rfl, rfl⟩
    rw [fb, fb'] at sxa
    obtain rfl : xa = 0 := el_inj hxa (by decide) (sum_neg o1 sxa).1
    obtain rfl : xa' = 1 := el_inj hxa' (by decide) (sum_neg o1 sxa).2
    refine at_d rfl rfl (opr_move rfl rfl) ?_
    refine at_d rfl rfl (opr_extract rfl rfl rfl) ?_
    refine at_d rfl rfl (opr_extract rfl rfl rfl) ?_
    refine at_n rfl rfl (opr_alloc rfl zero24 rfl) ?_
    intro g2
    refine at_d rfl rfl (opr_store (i := 0) rfl rfl rfl rfl rfl size24 (EE_length _) (by rw [EE_length]; exact Nat.le_of_ble_eq_true rfl) (EE_flat _) (EE_over rfl)) ?_
    refine at_d rfl rfl (opr_assign rfl rfl) ?_
    refine at_nil ?_
    refine at_then ?_
    refine at_seq ?_
    refine at_region ?_
    refine at_d rfl rfl (opr_load (i := 0) rfl rfl rfl Tryd.underlying24 rfl size24 (EE_length _) (EE_all rfl)) ?_
    refine at_d rfl rfl (opr_call rfl rfl rfl Tryd.func15 (by kernel_rfl) rfl (iIsId_ct (ig := ig + 4) (jd := jd + 4) hG hD)) ?_
    refine at_d rfl rfl (opr_move rfl rfl) ?_
    refine at_d rfl rfl (opr_extract rfl rfl rfl) ?_
    refine at_d rfl rfl (opr_extract rfl rfl rfl) ?_
    refine at_d rfl rfl (opr_assign rfl rfl) ?_
    refine at_d rfl rfl (opr_assign rfl rfl) ?_
    refine at_nil ?_
    refine at_then ?_
    refine at_seq ?_
    refine at_drawQ (by kernel_rfl) (by kernel_rfl) (List.cons_ne_nil _ _) ?_
    refine dr_op rfl rfl (opr_move rfl rfl) ?_
    refine dr_op rfl rfl (opr_move rfl rfl) ?_
    refine dr_op rfl rfl (opr_move rfl rfl) ?_
    refine dr_op rfl rfl (opr_pickT rfl rfl rfl) ?_
    refine dr_op rfl rfl (opr_move rfl rfl) ?_
    refine dr_op rfl rfl (opr_move rfl rfl) ?_
    refine dr_op rfl rfl (opr_pickT rfl rfl rfl) ?_
    refine dr_op rfl rfl (opr_move rfl rfl) ?_
    refine dr_op rfl rfl (opr_move rfl rfl) ?_
    refine dr_op rfl rfl (opr_pickT rfl rfl rfl) ?_
    refine dr_op rfl rfl (opr_move rfl rfl) ?_
    refine dr_op rfl rfl (opr_load (i := 0) rfl rfl rfl Tryd.underlying24 rfl size24 (EE_length _) (EE_all rfl)) ?_
    refine dr_op rfl rfl (opr_call rfl rfl rfl Tryd.func18 (by kernel_rfl) rfl (sZero_ct)) ?_
    refine dr_op rfl rfl (opr_call rfl rfl rfl Tryd.func31 (by kernel_rfl) rfl (told_ct RR_zero RR_one RR_one (by decide) (by decide) (rep_one _ _))) ?_
    refine dr_op rfl rfl (opr_pickT rfl rfl rfl) ?_
    refine dr_last rfl rfl (opr_assign rfl rfl) ?_
    refine ⟨rfl, ?_⟩
    refine at_then ?_
    refine at_ret ?_
    refine done_of (res1 Tryd.results11 (res_tmp rfl)) ⟨rfl, rfl⟩ (by repeat (first | exact List.Sublist.refl _ | apply List.Sublist.cons))
end Go.Proofs.YtjanppnnioeifaaDoor
