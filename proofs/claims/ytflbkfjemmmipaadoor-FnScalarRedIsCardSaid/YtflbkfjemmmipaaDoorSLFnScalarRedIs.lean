/- The law FnScalarRedIs. -/
import Derived.Test.YtflbkfjemmmipaaDoorSL0
namespace Go.Proofs.YtflbkfjemmmipaaDoor
open Go
set_option maxRecDepth 100000

theorem builtz22 : Tryd.prog.built 22 [] = some (List.replicate 56 (Value.int .u8 0)).toArray := by kernel_rfl
theorem iIsZ0_ct {M : Mem} {jo To : Nat} (hO : M[jo]? = some ⟨0, To, EE [qq]⟩) : Ct Tryd.prog 11 #[.agg (E 0).toArray] M (Det (.bool true) M) := (iIsZ_ct hO (a := 0) (by decide)).mono fun _ _ h => by rw [Nat.zero_mod, decide_eq_true rfl] at h; exact h
theorem fnScalarRedIs_ct {M : Mem} {jo To : Nat} (hO : M[jo]? = some ⟨0, To, EE [qq]⟩) {a : Nat} (ha : a < RR) : Ct Tryd.prog 3 #[.agg (E a).toArray] M (Det (.bool true) M) := by
  refine ct_of (vs := [.agg (E a).toArray]) Tryd.func3 rfl Tryd.ntmps3 rfl fun w0 => ?_
  refine at_seq ?_
  refine at_region ?_
  refine at_n rfl rfl (opr_box (cs := EE [a]) rfl rfl (E_box _)) ?_
  intro g0
  refine at_d rfl rfl (opr_assign rfl rfl) ?_
  refine at_nil ?_
  refine at_then ?_
  refine at_seq ?_
  refine at_region ?_
  refine at_d rfl rfl (opr_sliceAll rfl rfl Tryd.underlying22 rfl size5) ?_
  refine at_d rfl rfl (opr_call rfl rfl rfl Tryd.func8 (by kernel_rfl) rfl ((reduce_ct (il := 0) (cs := EE [a]) (bs := digs 256 56 a) rfl (E_bytes a) (digs_length _ _ _) (digs_lt (by decide) _ _) (by decide)).mono (fun _ _ h => by rw [dval_bytes ha] at h; exact h))) ?_
  refine at_n rfl rfl (opr_alloc rfl zero25 rfl) ?_
  intro g1
  refine at_d rfl rfl (opr_store (i := 0) rfl rfl rfl rfl rfl size25 (N_length _) (by rw [N_length]; decide) (N_flat _) N_over) ?_
  refine at_nil ?_
  refine at_then ?_
  refine at_seq ?_
  refine at_drawQ (by kernel_rfl) (by kernel_rfl) (List.cons_ne_nil _ _) ?_
  refine dr_op rfl rfl (opr_load (i := 1) rfl rfl rfl Tryd.underlying22 rfl size22 (E_length _) (EE_at (k := 0) rfl rfl rfl)) ?_
  refine dr_op rfl rfl (opr_call rfl rfl rfl Tryd.func10 (by kernel_rfl) rfl (iRed_ct (jo := jo + 2) hO ha)) ?_
  refine dr_op rfl rfl (opr_load (i := 0) rfl rfl rfl Tryd.underlying25 rfl size25 (N_length _) (N_at _)) ?_
  refine dr_op rfl rfl (opr_call rfl rfl rfl Tryd.func9 (by kernel_rfl) rfl (isT_ct rfl (mq_RR a))) ?_
  refine dr_op rfl rfl (opr_move rfl rfl) ?_
  refine dr_op rfl rfl (opr_load (i := 1) rfl rfl rfl Tryd.underlying22 rfl size22 (E_length _) (EE_at (k := 0) rfl rfl rfl)) ?_
  refine dr_op rfl rfl (opr_call rfl rfl rfl Tryd.func10 (by kernel_rfl) rfl (iRed_ct (jo := jo + 2) hO ha)) ?_
  refine dr_op rfl rfl (opr_call rfl rfl rfl Tryd.func11 (by kernel_rfl) rfl (iIsZ_ct (jo := jo + 2) hO (mq_RR a))) ?_
  refine dr_op rfl rfl (opr_load (i := 0) rfl rfl rfl Tryd.underlying25 rfl size25 (N_length _) (N_at _)) ?_
  refine dr_op rfl rfl (opr_buildE (ds := N 0) rfl rfl builtn25 rfl) ?_
  refine dr_op rfl rfl (opr_eqlNb rfl rfl rfl Tryd.underlying25 Tryd.underlying23 size23 (by kernel_rfl) (mq_RR a) (by decide) rfl) ?_
  refine dr_op rfl rfl (opr_eqlBb (t := true) rfl rfl rfl Tryd.underlying4 (by rw [Nat.mod_mod]; exact beq_self_eq_true _)) ?_
  refine dr_op rfl rfl (opr_pickT rfl rfl rfl) ?_
  refine dr_op rfl rfl (opr_move rfl rfl) ?_
  refine dr_op rfl rfl (opr_buildE (ds := E 0) rfl rfl builtz22 rfl) ?_
  refine dr_op rfl rfl (opr_call rfl rfl rfl Tryd.func11 (by kernel_rfl) rfl (iIsZ0_ct (jo := jo + 2) hO)) ?_
  refine dr_op rfl rfl (opr_pickT rfl rfl rfl) ?_
  refine dr_last rfl rfl (opr_assign rfl rfl) ?_
  refine ⟨rfl, ?_⟩
  refine at_then ?_
  refine at_ret ?_
  refine done_of (res1 Tryd.results3 (res_tmp rfl)) ⟨rfl, rfl⟩ (by repeat (first | exact List.Sublist.refl _ | apply List.Sublist.cons))
end Go.Proofs.YtflbkfjemmmipaaDoor
