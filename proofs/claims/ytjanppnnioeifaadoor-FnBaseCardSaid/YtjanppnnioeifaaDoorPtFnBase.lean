/- The law FnBase. -/
import Derived.Test.YtjanppnnioeifaaDoorPtL0
import Derived.Test.YtjanppnnioeifaaDoorRefW
namespace Go.Proofs.YtjanppnnioeifaaDoor
open Go
set_option maxRecDepth 100000

theorem builts22 (c : Nat) : Tryd.prog.built 22 [(0, .int .u8 (c : Int))] = some (.int .u8 (c : Int) :: List.replicate 55 (.int .u8 0)).toArray := by kernel_rfl
theorem gX_lt : gXn < pp := by decide +kernel
theorem gY_lt : gYn < pp := by decide +kernel
theorem gX_RR : gXn < RR := pp_lt_RR gX_lt
theorem gY_RR : gYn < RR := pp_lt_RR gY_lt
theorem cGen_ct {M : Mem} {jx Tx : Nat} (hX : M[jx]? = some ⟨1, Tx, EE [gXn]⟩) {jy Ty : Nat} (hY : M[jy]? = some ⟨2, Ty, EE [gYn]⟩) : Ct Tryd.prog 63 #[.agg ([] : List Value).toArray] M (fun v M' => ∃ g, v = .pointer (some ⟨g, 0, none⟩) ∧ M' = ⟨g, 84, EE [gXn, gYn, 1, gXn, gYn]⟩ :: M) := by
  refine ct_of (vs := [.agg ([] : List Value).toArray]) Tryd.func63 rfl Tryd.ntmps63 rfl fun w0 => ?_
  refine at_seq ?_
  refine at_region ?_
  refine at_n rfl rfl (opr_box rfl rfl rfl) ?_
  intro g0
  refine at_d rfl rfl (opr_assign rfl rfl) ?_
  refine at_nil ?_
  refine at_then ?_
  refine at_seq ?_
  refine at_drawG (B := [⟨g0, 92, []⟩]) (E := [⟨.pure [], 0, [], .v (.agg (E (gXn)).toArray)⟩, ⟨.pure [], 0, [], .v (.agg (E (gYn)).toArray)⟩, ⟨.pure [], 0, [], .v (.agg (E (1)).toArray)⟩, ⟨.pure [], 0, [], .v (.agg (E (gXn)).toArray)⟩, ⟨.pure [], 0, [], .v (.agg (E (gYn)).toArray)⟩, ⟨.pure [], 0, [], .v (.agg (EE [gXn, gYn, 1, gXn, gYn]).toArray)⟩, ⟨.alloc, 84, EE [gXn, gYn, 1, gXn, gYn], .p 6 0⟩, ⟨.pure [], 0, [], .p 6 0⟩]) (by kernel_rfl) (by kernel_rfl) (by kernel_rfl) (fun γ0 => ?_)
  refine gs_pure rfl rfl (fun M' sB sT => ?_) ?_
  · obtain ⟨iT0, hT0⟩ := sT _ _ hX; exact opr_load (i := iT0) rfl rfl hT0 Tryd.underlying82 rfl size82 (E_length _) (EE_at (k := 0) rfl rfl rfl)
  refine gs_pure rfl rfl (fun M' sB sT => ?_) ?_
  · obtain ⟨iT1, hT1⟩ := sT _ _ hY; exact opr_load (i := iT1) rfl rfl hT1 Tryd.underlying82 rfl size82 (E_length _) (EE_at (k := 0) rfl rfl rfl)
  refine gs_pure rfl rfl (fun M' sB sT => ?_) ?_
  · exact opr_call rfl rfl rfl Tryd.func83 (by kernel_rfl) rfl (fOne_ct)
  refine gs_pure rfl rfl (fun M' sB sT => ?_) ?_
  · obtain ⟨iT0, hT0⟩ := sT _ _ hX; exact opr_load (i := iT0) rfl rfl hT0 Tryd.underlying82 rfl size82 (E_length _) (EE_at (k := 0) rfl rfl rfl)
  refine gs_pure rfl rfl (fun M' sB sT => ?_) ?_
  · obtain ⟨iT1, hT1⟩ := sT _ _ hY; exact opr_load (i := iT1) rfl rfl hT1 Tryd.underlying82 rfl size82 (E_length _) (EE_at (k := 0) rfl rfl rfl)
  refine gs_pure rfl rfl (fun M' sB sT => ?_) ?_
  · exact opr_buildE (ds := EE [gXn, gYn, 1, gXn, gYn]) rfl rfl (builtp84 [(0, gXn), (1, gYn), (2, 1), (3, gXn), (4, gYn)] rfl) rfl
  refine gs_alloc rfl rfl (fun M' => opr_box rfl rfl rfl) ?_
  refine gs_pure rfl rfl (fun M' sB sT => ?_) ?_
  · exact opr_assign rfl rfl
  refine gs_nil ?_
  refine (show At _ _ (⟨(γ0 6), 84, EE [gXn, gYn, 1, gXn, gYn]⟩ :: ⟨g0, 92, []⟩ :: _) _ from ?_)
  refine at_then ?_
  refine at_ret ?_
  exact done_of (res1 Tryd.results63 (res_tmp rfl)) ⟨_, rfl, rfl⟩ (by repeat (first | exact List.Sublist.refl _ | apply List.Sublist.cons_cons | apply List.Sublist.cons))
theorem iGen_ct {M : Mem} {ig Tp : Nat} (hG : M[ig]? = some ⟨3, Tp, EE [pp]⟩) {jx Tx : Nat} (hX : M[jx]? = some ⟨1, Tx, EE [gXn]⟩) {jy Ty : Nat} (hY : M[jy]? = some ⟨2, Ty, EE [gYn]⟩) : Ct Tryd.prog 32 #[] M (Det (.agg (EE [gXn, gYn]).toArray) M) := by
  refine ct_of (vs := []) Tryd.func32 rfl Tryd.ntmps32 rfl fun w0 => ?_
  refine at_seq ?_
  refine at_region ?_
  refine at_n rfl rfl (opr_alloc rfl zero24 rfl) ?_
  intro g0
  refine at_nil ?_
  refine at_then ?_
  refine at_seq ?_
  refine at_region ?_
  refine at_d rfl rfl (opr_buildE (ds := []) rfl rfl builte92 rfl) ?_
  refine at_c rfl rfl (opr_call rfl rfl rfl Tryd.func63 (by kernel_rfl) rfl (cGen_ct (jx := jx + 1) (jy := jy + 1) hX hY)) ?_
  rintro _ _ ⟨gR, rfl, rfl⟩
  refine at_d rfl rfl (opr_call rfl rfl rfl Tryd.func57 (by kernel_rfl) rfl (plain_ct (ig := ig + 2) (ip := 0) hG rfl (by omega) gX_RR gY_RR (by decide))) ?_
  refine at_d rfl rfl (opr_store (i := 1) rfl rfl rfl rfl rfl size24 (EE_length _) (by rw [EE_length]; exact Nat.le_of_ble_eq_true rfl) (EE_flat _) (EE_over rfl)) ?_
  refine at_nil ?_
  refine at_then ?_
  refine at_ret ?_
  refine done_of (res1 Tryd.results32 (res_cell (i := 1) rfl rfl Tryd.underlying24 rfl size24 (EE_length _) (EE_all rfl))) ⟨?_, rfl⟩ (by repeat (first | exact List.Sublist.refl _ | apply List.Sublist.cons))
  rw [aff_one gX_lt, aff_one gY_lt]
theorem fnBaseT_ct {M : Mem} {ig Tp : Nat} (hG : M[ig]? = some ⟨3, Tp, EE [pp]⟩) {jx Tx : Nat} (hX : M[jx]? = some ⟨1, Tx, EE [gXn]⟩) {jy Ty : Nat} (hY : M[jy]? = some ⟨2, Ty, EE [gYn]⟩) {jd Td : Nat} (hD : M[jd]? = some ⟨0, Td, EE [dP]⟩) {x : Nat} (hx : x < RR) (hOn : On (el dP) (el x) (el 1)) : Ct Tryd.prog 6 #[.agg (E x).toArray] M (Det (.bool true) M) := by
  refine ct_of (vs := [.agg (E x).toArray]) Tryd.func6 rfl Tryd.ntmps6 rfl fun w0 => ?_
  refine at_seq ?_
  refine at_region ?_
  refine at_n rfl rfl (opr_box (cs := EE [x]) rfl rfl (E_box _)) ?_
  intro g0
  refine at_d rfl rfl (opr_assign rfl rfl) ?_
  refine at_nil ?_
  refine at_then ?_
  refine at_seq ?_
  refine at_drawQ (by kernel_rfl) (by kernel_rfl) (List.cons_ne_nil _ _) ?_
  refine dr_op rfl rfl (opr_call rfl rfl rfl Tryd.func32 (by kernel_rfl) rfl (iGen_ct (ig := ig + 1) (jx := jx + 1) (jy := jy + 1) hG hX hY)) ?_
  refine dr_op rfl rfl (opr_call rfl rfl rfl Tryd.func27 (by kernel_rfl) rfl (sBase_ct)) ?_
  refine dr_op rfl rfl (opr_call rfl rfl rfl Tryd.func31 (by kernel_rfl) rfl (told_ct gX_RR gY_RR RR_one gX_lt gY_lt (rep_one _ _))) ?_
  refine dr_op rfl rfl (opr_move rfl rfl) ?_
  refine dr_op rfl rfl (opr_call rfl rfl rfl Tryd.func30 (by kernel_rfl) rfl (iId_ct (ig := ig + 1) hG)) ?_
  refine dr_op rfl rfl (opr_call rfl rfl rfl Tryd.func18 (by kernel_rfl) rfl (sZero_ct)) ?_
  refine dr_op rfl rfl (opr_call rfl rfl rfl Tryd.func31 (by kernel_rfl) rfl (told_ct RR_zero RR_one RR_one (by decide) (by decide) (rep_one _ _))) ?_
  refine dr_op rfl rfl (opr_pickT rfl rfl rfl) ?_
  refine dr_op rfl rfl (opr_move rfl rfl) ?_
  refine dr_op rfl rfl (opr_load (i := 0) rfl rfl rfl Tryd.underlying22 rfl size22 (E_length _) (EE_at (k := 0) rfl rfl rfl)) ?_
  refine dr_op rfl rfl (opr_buildE rfl rfl (builts22 1) (E_small (by decide))) ?_
  refine dr_op rfl rfl (opr_buildE (ds := EE [x, 1]) rfl rfl (builtp24 [(0, x), (1, 1)] rfl) rfl) ?_
  refine dr_op rfl rfl (opr_call rfl rfl rfl Tryd.func29 (by kernel_rfl) rfl (iOnCurveT_ct (ig := ig + 1) (jd := jd + 1) hG hD hx RR_one hOn)) ?_
  refine dr_op rfl rfl (opr_load (i := 0) rfl rfl rfl Tryd.underlying22 rfl size22 (E_length _) (EE_at (k := 0) rfl rfl rfl)) ?_
  refine dr_op rfl rfl (opr_buildE rfl rfl (builts22 1) (E_small (by decide))) ?_
  refine dr_op rfl rfl (opr_call rfl rfl rfl Tryd.func33 (by kernel_rfl) rfl (isPoint_ct hx RR_one)) ?_
  refine dr_op rfl rfl (opr_eqlBb (t := true) rfl rfl rfl Tryd.underlying4 (by rw [onB_iff.2 hOn]; rfl)) ?_
  refine dr_op rfl rfl (opr_pickT rfl rfl rfl) ?_
  refine dr_last rfl rfl (opr_assign rfl rfl) ?_
  refine ⟨rfl, ?_⟩
  refine at_then ?_
  refine at_ret ?_
  refine done_of (res1 Tryd.results6 (res_tmp rfl)) ⟨rfl, rfl⟩ (by repeat (first | exact List.Sublist.refl _ | apply List.Sublist.cons))
theorem fnBaseF_ct {M : Mem} {ig Tp : Nat} (hG : M[ig]? = some ⟨3, Tp, EE [pp]⟩) {jx Tx : Nat} (hX : M[jx]? = some ⟨1, Tx, EE [gXn]⟩) {jy Ty : Nat} (hY : M[jy]? = some ⟨2, Ty, EE [gYn]⟩) {jd Td : Nat} (hD : M[jd]? = some ⟨0, Td, EE [dP]⟩) {x : Nat} (hx : x < RR) (hOn : ¬On (el dP) (el x) (el 1)) : Ct Tryd.prog 6 #[.agg (E x).toArray] M (Det (.bool true) M) := by
  refine ct_of (vs := [.agg (E x).toArray]) Tryd.func6 rfl Tryd.ntmps6 rfl fun w0 => ?_
  refine at_seq ?_
  refine at_region ?_
  refine at_n rfl rfl (opr_box (cs := EE [x]) rfl rfl (E_box _)) ?_
  intro g0
  refine at_d rfl rfl (opr_assign rfl rfl) ?_
  refine at_nil ?_
  refine at_then ?_
  refine at_seq ?_
  refine at_drawQ (by kernel_rfl) (by kernel_rfl) (List.cons_ne_nil _ _) ?_
  refine dr_op rfl rfl (opr_call rfl rfl rfl Tryd.func32 (by kernel_rfl) rfl (iGen_ct (ig := ig + 1) (jx := jx + 1) (jy := jy + 1) hG hX hY)) ?_
  refine dr_op rfl rfl (opr_call rfl rfl rfl Tryd.func27 (by kernel_rfl) rfl (sBase_ct)) ?_
  refine dr_op rfl rfl (opr_call rfl rfl rfl Tryd.func31 (by kernel_rfl) rfl (told_ct gX_RR gY_RR RR_one gX_lt gY_lt (rep_one _ _))) ?_
  refine dr_op rfl rfl (opr_move rfl rfl) ?_
  refine dr_op rfl rfl (opr_call rfl rfl rfl Tryd.func30 (by kernel_rfl) rfl (iId_ct (ig := ig + 1) hG)) ?_
  refine dr_op rfl rfl (opr_call rfl rfl rfl Tryd.func18 (by kernel_rfl) rfl (sZero_ct)) ?_
  refine dr_op rfl rfl (opr_call rfl rfl rfl Tryd.func31 (by kernel_rfl) rfl (told_ct RR_zero RR_one RR_one (by decide) (by decide) (rep_one _ _))) ?_
  refine dr_op rfl rfl (opr_pickT rfl rfl rfl) ?_
  refine dr_op rfl rfl (opr_move rfl rfl) ?_
  refine dr_op rfl rfl (opr_load (i := 0) rfl rfl rfl Tryd.underlying22 rfl size22 (E_length _) (EE_at (k := 0) rfl rfl rfl)) ?_
  refine dr_op rfl rfl (opr_buildE rfl rfl (builts22 1) (E_small (by decide))) ?_
  refine dr_op rfl rfl (opr_buildE (ds := EE [x, 1]) rfl rfl (builtp24 [(0, x), (1, 1)] rfl) rfl) ?_
  refine dr_op rfl rfl (opr_call rfl rfl rfl Tryd.func29 (by kernel_rfl) rfl (iOnCurveF_ct (ig := ig + 1) (jd := jd + 1) hG hD hx RR_one hOn)) ?_
  refine dr_op rfl rfl (opr_load (i := 0) rfl rfl rfl Tryd.underlying22 rfl size22 (E_length _) (EE_at (k := 0) rfl rfl rfl)) ?_
  refine dr_op rfl rfl (opr_buildE rfl rfl (builts22 1) (E_small (by decide))) ?_
  refine dr_op rfl rfl (opr_call rfl rfl rfl Tryd.func33 (by kernel_rfl) rfl (isPoint_ct hx RR_one)) ?_
  refine dr_op rfl rfl (opr_eqlBb (t := true) rfl rfl rfl Tryd.underlying4 (by rw [onB_false hOn]; rfl)) ?_
  refine dr_op rfl rfl (opr_pickT rfl rfl rfl) ?_
  refine dr_last rfl rfl (opr_assign rfl rfl) ?_
  refine ⟨rfl, ?_⟩
  refine at_then ?_
  refine at_ret ?_
  refine done_of (res1 Tryd.results6 (res_tmp rfl)) ⟨rfl, rfl⟩ (by repeat (first | exact List.Sublist.refl _ | apply List.Sublist.cons))
theorem fnBase_ct {M : Mem} {ig Tp : Nat} (hG : M[ig]? = some ⟨3, Tp, EE [pp]⟩) {jx Tx : Nat} (hX : M[jx]? = some ⟨1, Tx, EE [gXn]⟩) {jy Ty : Nat} (hY : M[jy]? = some ⟨2, Ty, EE [gYn]⟩) {jd Td : Nat} (hD : M[jd]? = some ⟨0, Td, EE [dP]⟩) {x : Nat} (hx : x < RR) : Ct Tryd.prog 6 #[.agg (E x).toArray] M (Det (.bool true) M) := by
  by_cases h : On (el dP) (el x) (el 1)
  · exact fnBaseT_ct hG hX hY hD hx h
  · exact fnBaseF_ct hG hX hY hD hx h
end Go.Proofs.YtjanppnnioeifaaDoor
