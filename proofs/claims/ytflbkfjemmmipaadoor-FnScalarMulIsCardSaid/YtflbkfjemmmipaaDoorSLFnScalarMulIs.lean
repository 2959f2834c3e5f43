/- The law FnScalarMulIs. -/
import Derived.Test.YtflbkfjemmmipaaDoorSL0
import Derived.Test.YtflbkfjemmmipaaDoorRefS
namespace Go.Proofs.YtflbkfjemmmipaaDoor
open Go
set_option maxRecDepth 100000

theorem fnScalarMulIs_ct {M : Mem} {jo To : Nat} (hO : M[jo]? = some ⟨0, To, EE [qq]⟩) {jr Tr : Nat} (hR : M[jr]? = some ⟨1, Tr, W (digs 18446744073709551616 4 r448)⟩) (hjr : jo ≠ jr) {a b : Nat} (ha : a < RR) (hb : b < RR) : Ct Tryd.prog 6 #[.agg (E a).toArray, .agg (E b).toArray] M (Det (.bool true) M) := by
  refine ct_of (vs := [.agg (E a).toArray, .agg (E b).toArray]) Tryd.func6 rfl Tryd.ntmps6 rfl fun w0 => ?_
  refine at_seq ?_
  refine at_region ?_
  refine at_n rfl rfl (opr_box (cs := EE [a]) rfl rfl (E_box _)) ?_
  intro g0
  refine at_n rfl rfl (opr_box (cs := EE [b]) rfl rfl (E_box _)) ?_
  intro g1
  refine at_d rfl rfl (opr_assign rfl rfl) ?_
  refine at_nil ?_
  refine at_then ?_
  refine at_seq ?_
  refine at_drawQ (by kernel_rfl) (by kernel_rfl) (List.cons_ne_nil _ _) ?_
  refine dr_op rfl rfl (opr_load (i := 1) rfl rfl rfl Tryd.underlying22 rfl size22 (E_length _) (EE_at (k := 0) rfl rfl rfl)) ?_
  refine dr_op rfl rfl (opr_load (i := 0) rfl rfl rfl Tryd.underlying22 rfl size22 (E_length _) (EE_at (k := 0) rfl rfl rfl)) ?_
  refine dr_op rfl rfl (opr_call rfl rfl rfl Tryd.func20 (by kernel_rfl) rfl (iSMul_ct (jo := jo + 2) (jr := jr + 2) hO hR (by omega) ha hb)) ?_
  refine dr_op rfl rfl (opr_load (i := 1) rfl rfl rfl Tryd.underlying22 rfl size22 (E_length _) (EE_at (k := 0) rfl rfl rfl)) ?_
  refine dr_op rfl rfl (opr_call rfl rfl rfl Tryd.func13 (by kernel_rfl) rfl (of_ct _)) ?_
  refine dr_op rfl rfl (opr_load (i := 0) rfl rfl rfl Tryd.underlying22 rfl size22 (E_length _) (EE_at (k := 0) rfl rfl rfl)) ?_
  refine dr_op rfl rfl (opr_call rfl rfl rfl Tryd.func13 (by kernel_rfl) rfl (of_ct _)) ?_
  refine dr_op rfl rfl (opr_call rfl rfl rfl Tryd.func21 (by kernel_rfl) rfl (sScMul_ct ha hb)) ?_
  refine dr_op rfl rfl (opr_call rfl rfl rfl Tryd.func9 (by kernel_rfl) rfl (isT_ct rfl (mq_RR _))) ?_
  refine dr_last rfl rfl (opr_assign rfl rfl) ?_
  refine ⟨rfl, ?_⟩
  refine at_then ?_
  refine at_ret ?_
  refine done_of (res1 Tryd.results6 (res_tmp rfl)) ⟨rfl, rfl⟩ (by repeat (first | exact List.Sublist.refl _ | apply List.Sublist.cons))
end Go.Proofs.YtflbkfjemmmipaaDoor
