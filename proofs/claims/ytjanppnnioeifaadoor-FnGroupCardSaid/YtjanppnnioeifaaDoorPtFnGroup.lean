/- The law FnGroup. -/
import Derived.Test.YtjanppnnioeifaaDoorPtL0
namespace Go.Proofs.YtjanppnnioeifaaDoor
open Go
set_option maxRecDepth 100000

theorem iPlusId_ct {M : Mem} {ig Tp jd Td : Nat} (hG : M[ig]? = some ⟨3, Tp, EE [pp]⟩) (hD : M[jd]? = some ⟨0, Td, EE [dP]⟩) {x y : Nat} (hx : x < RR) (hy : y < RR) (o1 : On (el dP) (el x) (el y)) : Ct Tryd.prog 39 #[.agg (EE [x, y]).toArray, .agg (EE [0, 1]).toArray] M (Det (.tuple #[.agg (EE [x % pp, y % pp]).toArray, .bool true]) M) :=
  (iPlus_ct hG hD hx hy o1 RR_zero RR_one on_id).mono fun v M' h => by
    obtain ⟨xa, ya, hxa, hya, s, rfl, rfl⟩ := h
    obtain ⟨e1, e2⟩ := sum_id s
    refine ⟨?_, rfl⟩
    rw [el_inj hxa (Nat.mod_lt _ (by decide)) (e1.trans (el_mod x).symm), el_inj hya (Nat.mod_lt _ (by decide)) (e2.trans (el_mod y).symm)]
theorem fnGroup_ct {M : Mem} {ig Tp jd Td : Nat} (hG : M[ig]? = some ⟨3, Tp, EE [pp]⟩) (hD : M[jd]? = some ⟨0, Td, EE [dP]⟩) {x1 y1 x2 y2 x3 y3 : Nat} (hx1 : x1 < RR) (hy1 : y1 < RR) (hx2 : x2 < RR) (hy2 : y2 < RR) (hx3 : x3 < RR) (hy3 : y3 < RR) : Ct Tryd.prog 10 #[.agg (EE [x1, y1]).toArray, .agg (EE [x2, y2]).toArray, .agg (EE [x3, y3]).toArray] M (Det (.bool true) M) := by
  refine ct_of (vs := [.agg (EE [x1, y1]).toArray, .agg (EE [x2, y2]).toArray, .agg (EE [x3, y3]).toArray]) Tryd.func10 rfl Tryd.ntmps10 rfl fun w0 => ?_
  refine at_seq ?_
  refine at_region ?_
  refine at_n rfl rfl (opr_box rfl rfl rfl) ?_
  intro g0
  refine at_n rfl rfl (opr_box rfl rfl rfl) ?_
  intro g1
  refine at_n rfl rfl (opr_box rfl rfl rfl) ?_
  intro g2
  refine at_d rfl rfl (opr_assign rfl rfl) ?_
  refine at_nil ?_
  refine at_then ?_
  refine at_seq ?_
  refine at_seq ?_
  refine at_region ?_
  refine at_d rfl rfl (opr_load (i := 2) rfl rfl rfl Tryd.underlying24 rfl size24 (EE_length _) (EE_all rfl)) ?_
  refine at_d rfl rfl (opr_load (i := 1) rfl rfl rfl Tryd.underlying24 rfl size24 (EE_length _) (EE_all rfl)) ?_
  refine at_d rfl rfl (opr_load (i := 0) rfl rfl rfl Tryd.underlying24 rfl size24 (EE_length _) (EE_all rfl)) ?_
  refine at_c rfl rfl (opr_buildSlice (s := 112) (zs := List.replicate 112 (.int .u8 0)) (cs := EE [0, 0, 0, 0, 0, 0]) (ds := EE [x1, y1, x2, y2, x3, y3]) rfl rfl Tryd.underlying61 (by kernel_rfl) (by decide) (by decide) (by kernel_rfl) (fill_pairs [(0, x1, y1), (1, x2, y2), (2, x3, y3)] _ rfl)) ?_
  rintro _ _ ⟨gS1, rfl, rfl⟩
  refine at_d rfl rfl (opr_call rfl rfl rfl Tryd.func13 (by kernel_rfl) rfl (on_ct (il := 0) (l := [x1, y1, x2, y2, x3, y3]) rfl rfl (by intro x hx; simp only [List.mem_cons, List.not_mem_nil, or_false] at hx; rcases hx with rfl | rfl | rfl | rfl | rfl | rfl <;> assumption) (by decide))) ?_
  refine at_d rfl rfl (opr_unOp (u := .bool (!(onAll [x1, y1, x2, y2, x3, y3] 3))) rfl rfl (fun _ => rfl)) ?_
  refine at_nil ?_
  refine at_then ?_
  refine at_cond rfl (fun ht => ?_) (fun ht => ?_)
  ·
    refine at_seq ?_
    refine at_region ?_
    refine at_d rfl rfl (opr_assign rfl rfl) ?_
    refine at_nil ?_
    refine at_then ?_
    refine at_ret ?_
    refine at_then_ret ?_
    refine done_of (res1 Tryd.results10 (res_tmp rfl)) ⟨rfl, rfl⟩ (by repeat (first | exact List.Sublist.refl _ | apply List.Sublist.cons))
  ·
    obtain ⟨o1, o2, o3⟩ := onAll_three ht
    refine at_skip ?_
    refine at_then ?_
    refine at_seq ?_
    refine at_region ?_
    refine at_d rfl rfl (opr_load (i := 3) rfl rfl rfl Tryd.underlying24 rfl size24 (EE_length _) (EE_all rfl)) ?_
    refine at_d rfl rfl (opr_load (i := 2) rfl rfl rfl Tryd.underlying24 rfl size24 (EE_length _) (EE_all rfl)) ?_
    refine at_c rfl rfl (opr_call rfl rfl rfl Tryd.func39 (by kernel_rfl) rfl (iPlus_ct (ig := ig + 4) (jd := jd + 4) hG hD hx1 hy1 o1 hx2 hy2 o2)) ?_
    rintro _ _ ⟨xa, xa', hxa, hxa', sxa, rfl, rfl⟩
    have oa : On (el dP) (el xa) (el xa') := sxa.on goldC o1 o2
    refine at_d rfl rfl (opr_move rfl rfl) ?_
    refine at_d rfl rfl (opr_extract rfl rfl rfl) ?_
    refine at_d rfl rfl (opr_extract rfl rfl rfl) ?_
    refine at_n rfl rfl (opr_alloc rfl zero24 rfl) ?_
    intro g3
    refine at_d rfl rfl (opr_store (i := 0) rfl rfl rfl rfl rfl size24 (EE_length _) (by rw [EE_length]; exact Nat.le_of_ble_eq_true rfl) (EE_flat _) (EE_over rfl)) ?_
    refine at_d rfl rfl (opr_assign rfl rfl) ?_
    refine at_nil ?_
    refine at_then ?_
    refine at_seq ?_
    refine at_region ?_
    refine at_d rfl rfl (opr_load (i := 3) rfl rfl rfl Tryd.underlying24 rfl size24 (EE_length _) (EE_all rfl)) ?_
    refine at_d rfl rfl (opr_load (i := 4) rfl rfl rfl Tryd.underlying24 rfl size24 (EE_length _) (EE_all rfl)) ?_
    refine at_c rfl rfl (opr_call rfl rfl rfl Tryd.func39 (by kernel_rfl) rfl (iPlus_ct (ig := ig + 5) (jd := jd + 5) hG hD hx2 hy2 o2 hx1 hy1 o1)) ?_
    rintro _ _ ⟨xb, xb', hxb, hxb', sxb, rfl, rfl⟩
    refine at_d rfl rfl (opr_move rfl rfl) ?_
    refine at_d rfl rfl (opr_extract rfl rfl rfl) ?_
    refine at_d rfl rfl (opr_extract rfl rfl rfl) ?_
    refine at_n rfl rfl (opr_alloc rfl zero24 rfl) ?_
    intro g4
    refine at_d rfl rfl (opr_store (i := 0) rfl rfl rfl rfl rfl size24 (EE_length _) (by rw [EE_length]; exact Nat.le_of_ble_eq_true rfl) (EE_flat _) (EE_over rfl)) ?_
    refine at_d rfl rfl (opr_assign rfl rfl) ?_
    refine at_nil ?_
    refine at_then ?_
    refine at_seq ?_
    refine at_region ?_
    refine at_d rfl rfl (opr_load (i := 1) rfl rfl rfl Tryd.underlying24 rfl size24 (EE_length _) (EE_all rfl)) ?_
    refine at_d rfl rfl (opr_load (i := 3) rfl rfl rfl Tryd.underlying24 rfl size24 (EE_length _) (EE_all rfl)) ?_
    refine at_c rfl rfl (opr_call rfl rfl rfl Tryd.func39 (by kernel_rfl) rfl (iPlus_ct (ig := ig + 6) (jd := jd + 6) hG hD (pp_lt_RR hxa) (pp_lt_RR hxa') oa hx3 hy3 o3)) ?_
    rintro _ _ ⟨xc, xc', hxc, hxc', sxc, rfl, rfl⟩
    refine at_d rfl rfl (opr_move rfl rfl) ?_
    refine at_d rfl rfl (opr_extract rfl rfl rfl) ?_
    refine at_d rfl rfl (opr_extract rfl rfl rfl) ?_
    refine at_n rfl rfl (opr_alloc rfl zero24 rfl) ?_
    intro g5
    refine at_d rfl rfl (opr_store (i := 0) rfl rfl rfl rfl rfl size24 (EE_length _) (by rw [EE_length]; exact Nat.le_of_ble_eq_true rfl) (EE_flat _) (EE_over rfl)) ?_
    refine at_d rfl rfl (opr_assign rfl rfl) ?_
    refine at_nil ?_
    refine at_then ?_
    refine at_seq ?_
    refine at_region ?_
    refine at_d rfl rfl (opr_load (i := 5) rfl rfl rfl Tryd.underlying24 rfl size24 (EE_length _) (EE_all rfl)) ?_
    refine at_d rfl rfl (opr_load (i := 4) rfl rfl rfl Tryd.underlying24 rfl size24 (EE_length _) (EE_all rfl)) ?_
    refine at_c rfl rfl (opr_call rfl rfl rfl Tryd.func39 (by kernel_rfl) rfl (iPlus_ct (ig := ig + 7) (jd := jd + 7) hG hD hx2 hy2 o2 hx3 hy3 o3)) ?_
    rintro _ _ ⟨xd, xd', hxd, hxd', sxd, rfl, rfl⟩
    have od : On (el dP) (el xd) (el xd') := sxd.on goldC o2 o3
    refine at_d rfl rfl (opr_move rfl rfl) ?_
    refine at_d rfl rfl (opr_extract rfl rfl rfl) ?_
    refine at_d rfl rfl (opr_extract rfl rfl rfl) ?_
    refine at_n rfl rfl (opr_alloc rfl zero24 rfl) ?_
    intro g6
    refine at_d rfl rfl (opr_store (i := 0) rfl rfl rfl rfl rfl size24 (EE_length _) (by rw [EE_length]; exact Nat.le_of_ble_eq_true rfl) (EE_flat _) (EE_over rfl)) ?_
    refine at_d rfl rfl (opr_assign rfl rfl) ?_
    refine at_nil ?_
    refine at_then ?_
    refine at_seq ?_
    refine at_region ?_
    refine at_d rfl rfl (opr_load (i := 7) rfl rfl rfl Tryd.underlying24 rfl size24 (EE_length _) (EE_all rfl)) ?_
    refine at_d rfl rfl (opr_load (i := 0) rfl rfl rfl Tryd.underlying24 rfl size24 (EE_length _) (EE_all rfl)) ?_
    refine at_c rfl rfl (opr_call rfl rfl rfl Tryd.func39 (by kernel_rfl) rfl (iPlus_ct (ig := ig + 8) (jd := jd + 8) hG hD hx1 hy1 o1 (pp_lt_RR hxd) (pp_lt_RR hxd') od)) ?_
    rintro _ _ ⟨xe, xe', hxe, hxe', sxe, rfl, rfl⟩
    refine at_d rfl rfl (opr_move rfl rfl) ?_
    refine at_d rfl rfl (opr_extract rfl rfl rfl) ?_
    refine at_d rfl rfl (opr_extract rfl rfl rfl) ?_
    refine at_n rfl rfl (opr_alloc rfl zero24 rfl) ?_
    intro g7
    refine at_d rfl rfl (opr_store (i := 0) rfl rfl rfl rfl rfl size24 (EE_length _) (by rw [EE_length]; exact Nat.le_of_ble_eq_true rfl) (EE_flat _) (EE_over rfl)) ?_
    refine at_d rfl rfl (opr_assign rfl rfl) ?_
    refine at_nil ?_
    refine at_then ?_
    refine at_seq ?_
    refine at_drawG (B := [⟨g7, 24, EE [xe, xe']⟩, ⟨g6, 24, EE [xd, xd']⟩, ⟨g5, 24, EE [xc, xc']⟩, ⟨g4, 24, EE [xb, xb']⟩, ⟨g3, 24, EE [xa, xa']⟩, ⟨gS1, 24, EE [x1, y1, x2, y2, x3, y3]⟩, ⟨g2, 24, EE [x3, y3]⟩, ⟨g1, 24, EE [x2, y2]⟩, ⟨g0, 24, EE [x1, y1]⟩]) (E := [⟨.pure [8], 0, [], .v (.agg (EE [x1, y1]).toArray)⟩, ⟨.pure [], 0, [], .v (.agg (EE [0, 1]).toArray)⟩, ⟨.pure [], 0, [], .v (.tuple #[.agg (EE [(x1 % pp), (y1 % pp)]).toArray, .bool true])⟩, ⟨.pure [], 0, [], .v (.tuple #[.agg (EE [(x1 % pp), (y1 % pp)]).toArray, .bool true])⟩, ⟨.pure [], 0, [], .v (.agg (EE [(x1 % pp), (y1 % pp)]).toArray)⟩, ⟨.pure [], 0, [], .v (.bool true)⟩, ⟨.alloc, 24, EE [0, 0], .p 6 0⟩, ⟨.storeA 6, 0, EE [(x1 % pp), (y1 % pp)], .v undef⟩, ⟨.pure [], 0, [], .v (.bool true)⟩]) (by kernel_rfl) (by kernel_rfl) (by kernel_rfl) (fun γ0 => ?_)
    refine gs_pure rfl rfl (fun M' sB sT => ?_) ?_
    · obtain ⟨iB8, hB8⟩ := sB 8 _ rfl rfl; exact opr_load (i := iB8) rfl rfl hB8 Tryd.underlying24 rfl size24 (EE_length _) (EE_all rfl)
    refine gs_pure rfl rfl (fun M' sB sT => ?_) ?_
    · obtain ⟨iT0, hT0⟩ := sT _ _ hG; exact opr_call rfl rfl rfl Tryd.func30 (by kernel_rfl) rfl (iId_ct (ig := iT0) hT0)
    refine gs_pure rfl rfl (fun M' sB sT => ?_) ?_
    · obtain ⟨iT0, hT0⟩ := sT _ _ hG; obtain ⟨iT1, hT1⟩ := sT _ _ hD; exact opr_call rfl rfl rfl Tryd.func39 (by kernel_rfl) rfl (iPlusId_ct (ig := iT0) (jd := iT1) hT0 hT1 hx1 hy1 o1)
    refine gs_pure rfl rfl (fun M' sB sT => ?_) ?_
    · exact opr_move rfl rfl
    refine gs_pure rfl rfl (fun M' sB sT => ?_) ?_
    · exact opr_extract rfl rfl rfl
    refine gs_pure rfl rfl (fun M' sB sT => ?_) ?_
    · exact opr_extract rfl rfl rfl
    refine gs_alloc rfl rfl (fun M' => opr_alloc rfl zero24 rfl) ?_
    refine gs_storeA rfl rfl rfl rfl rfl (fun M' j hj => opr_store (i := j) rfl rfl rfl rfl hj size24 (EE_length _) (by rw [EE_length]; exact Nat.le_of_ble_eq_true rfl) (EE_flat _) (EE_over rfl)) ?_
    refine gs_pure rfl rfl (fun M' sB sT => ?_) ?_
    · exact opr_assign rfl rfl
    refine gs_nil ?_
    refine (show At _ _ (⟨(γ0 6), 24, EE [(x1 % pp), (y1 % pp)]⟩ :: ⟨g7, 24, EE [xe, xe']⟩ :: ⟨g6, 24, EE [xd, xd']⟩ :: ⟨g5, 24, EE [xc, xc']⟩ :: ⟨g4, 24, EE [xb, xb']⟩ :: ⟨g3, 24, EE [xa, xa']⟩ :: ⟨gS1, 24, EE [x1, y1, x2, y2, x3, y3]⟩ :: ⟨g2, 24, EE [x3, y3]⟩ :: ⟨g1, 24, EE [x2, y2]⟩ :: ⟨g0, 24, EE [x1, y1]⟩ :: _) _ from ?_)
    refine at_then ?_
    refine at_seq ?_
    refine at_drawQ (by kernel_rfl) (by kernel_rfl) (List.cons_ne_nil _ _) ?_
    refine dr_op rfl rfl (opr_move rfl rfl) ?_
    refine dr_op rfl rfl (opr_move rfl rfl) ?_
    refine dr_op rfl rfl (opr_move rfl rfl) ?_
    refine dr_op rfl rfl (opr_pickT rfl rfl rfl) ?_
    refine dr_op rfl rfl (opr_move rfl rfl) ?_
    refine dr_op rfl rfl (opr_load (i := 5) rfl rfl rfl Tryd.underlying24 rfl size24 (EE_length _) (EE_all rfl)) ?_
    refine dr_op rfl rfl (opr_load (i := 4) rfl rfl rfl Tryd.underlying24 rfl size24 (EE_length _) (EE_all rfl)) ?_
    refine dr_op rfl rfl (opr_eqlPt (e := 22) rfl rfl rfl Tryd.underlying24 (by kernel_rfl) (by kernel_rfl) Tryd.underlying22 size22 Tryd.underlying5 size5 (by kernel_rfl) (by kernel_rfl) (sum_eq o1 o2 hxa hxa' hxb hxb' sxa sxb.comm).1 (sum_eq o1 o2 hxa hxa' hxb hxb' sxa sxb.comm).2) ?_
    refine dr_op rfl rfl (opr_pickT rfl rfl rfl) ?_
    refine dr_op rfl rfl (opr_move rfl rfl) ?_
    refine dr_op rfl rfl (opr_load (i := 3) rfl rfl rfl Tryd.underlying24 rfl size24 (EE_length _) (EE_all rfl)) ?_
    refine dr_op rfl rfl (opr_load (i := 1) rfl rfl rfl Tryd.underlying24 rfl size24 (EE_length _) (EE_all rfl)) ?_
    refine dr_op rfl rfl (opr_eqlPt (e := 22) rfl rfl rfl Tryd.underlying24 (by kernel_rfl) (by kernel_rfl) Tryd.underlying22 size22 Tryd.underlying5 size5 (by kernel_rfl) (by kernel_rfl) (el_inj hxc hxe (Sum.assoc goldC o1 o2 o3 sxa sxc sxd sxe).1) (el_inj hxc' hxe' (Sum.assoc goldC o1 o2 o3 sxa sxc sxd sxe).2)) ?_
    refine dr_op rfl rfl (opr_pickT rfl rfl rfl) ?_
    refine dr_op rfl rfl (opr_move rfl rfl) ?_
    refine dr_op rfl rfl (opr_load (i := 0) rfl rfl rfl Tryd.underlying24 rfl size24 (EE_length _) (EE_all rfl)) ?_
    refine dr_op rfl rfl (opr_load (i := 9) rfl rfl rfl Tryd.underlying24 rfl size24 (EE_length _) (EE_all rfl)) ?_
    refine dr_op rfl rfl (opr_call rfl rfl rfl Tryd.func16 (by kernel_rfl) rfl (at_ct)) ?_
    refine dr_op rfl rfl (opr_call rfl rfl rfl Tryd.func31 (by kernel_rfl) rfl (told_ct hx1 hy1 RR_one (Nat.mod_lt _ (by decide)) (Nat.mod_lt _ (by decide)) (by rw [el_mod, el_mod]; exact rep_one _ _))) ?_
    refine dr_op rfl rfl (opr_pickT rfl rfl rfl) ?_
    refine dr_last rfl rfl (opr_assign rfl rfl) ?_
    refine ⟨rfl, ?_⟩
    refine at_then ?_
    refine at_ret ?_
    refine done_of (res1 Tryd.results10 (res_tmp rfl)) ⟨rfl, rfl⟩ (by repeat (first | exact List.Sublist.refl _ | apply List.Sublist.cons))
end Go.Proofs.YtjanppnnioeifaaDoor
