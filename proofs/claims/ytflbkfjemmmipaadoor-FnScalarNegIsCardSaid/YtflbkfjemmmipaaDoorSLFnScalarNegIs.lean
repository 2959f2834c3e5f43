/- The law FnScalarNegIs. -/
import Derived.Test.YtflbkfjemmmipaaDoorSL0
import Derived.Test.YtflbkfjemmmipaaDoorRefS
namespace Go.Proofs.YtflbkfjemmmipaaDoor
open Go
set_option maxRecDepth 100000

theorem builts22 (c : Nat) : Tryd.prog.built 22 [(0, .int .u8 (c : Int))] = some (.int .u8 (c : Int) :: List.replicate 55 (.int .u8 0)).toArray := by kernel_rfl
theorem builtz22 : Tryd.prog.built 22 [] = some (List.replicate 56 (Value.int .u8 0)).toArray := by kernel_rfl
theorem ssub_RR (X Y : Nat) : ssub X Y < RR := mq_RR _
theorem opr_neqEF' {P : Program} {St : Slots} {M : Mem} {o : Oper} {x y : Operand} {T T' B a b : Nat} (ho : o.op = .binOp .neq T x y T') (hx : evalS St x = some (.agg (E a).toArray)) (hy : evalS St y = some (.agg (E b).toArray)) (hu : P.underlying T = some (.array 56 B)) (he : P.underlying B = some (.int .u8)) (hs : (P.info? B).map (·.size) = some 1)
    (hq : P.eqGuardType P.depth T = false) (ha : a < RR) (hb : b < RR) (h : a ≠ b) : OpR P St M o (Det (.bool true) M) := by
  have k := opr_neqE (M := M) ho hx hy hu he hs hq ha hb
  rw [decide_eq_false h] at k
  exact k
theorem fnScalarNegIsT_ct {M : Mem} {jo To : Nat} (hO : M[jo]? = some ⟨0, To, EE [qq]⟩) {jr Tr : Nat} (hR : M[jr]? = some ⟨1, Tr, W (digs 18446744073709551616 4 r448)⟩) (hjr : jo ≠ jr) {a : Nat} (ha : a < RR) (qa : a < qq) : Ct Tryd.prog 4 #[.agg (E a).toArray] M (Det (.bool true) M) := by
  refine ct_of (vs := [.agg (E a).toArray]) Tryd.func4 rfl Tryd.ntmps4 rfl fun w0 => ?_
  refine at_seq ?_
  refine at_region ?_
  refine at_n rfl rfl (opr_box (cs := EE [a]) rfl rfl (E_box _)) ?_
  intro g0
  refine at_d rfl rfl (opr_assign rfl rfl) ?_
  refine at_nil ?_
  refine at_then ?_
  refine at_seq ?_
  refine at_drawQ (by kernel_rfl) (by kernel_rfl) (List.cons_ne_nil _ _) ?_
  refine dr_op rfl rfl (opr_load (i := 0) rfl rfl rfl Tryd.underlying22 rfl size22 (E_length _) (EE_at (k := 0) rfl rfl rfl)) ?_
  refine dr_op rfl rfl (opr_call rfl rfl rfl Tryd.func13 (by kernel_rfl) rfl (of_ct _)) ?_
  refine dr_op rfl rfl (opr_call rfl rfl rfl Tryd.func14 (by kernel_rfl) rfl (sOrder_ct)) ?_
  refine dr_op rfl rfl (opr_call rfl rfl rfl Tryd.func12 (by kernel_rfl) rfl ((less_ct (a := a) (by rw [RR_pow]; exact q_RR qa) qq28).mono (fun _ _ h => by rw [decide_eq_true qa] at h; exact h))) ?_
  refine dr_op rfl rfl (opr_unOp (u := .bool false) rfl rfl (fun _ => rfl)) ?_
  refine dr_op rfl rfl (opr_move rfl rfl) ?_
  refine dr_op rfl rfl (opr_load (i := 0) rfl rfl rfl Tryd.underlying22 rfl size22 (E_length _) (EE_at (k := 0) rfl rfl rfl)) ?_
  refine dr_op rfl rfl (opr_call rfl rfl rfl Tryd.func15 (by kernel_rfl) rfl (iNeg_ct (jo := jo + 1) (jr := jr + 1) hO hR (by omega) (Nat.le_of_lt qa))) ?_
  refine dr_op rfl rfl (opr_load (i := 0) rfl rfl rfl Tryd.underlying22 rfl size22 (E_length _) (EE_at (k := 0) rfl rfl rfl)) ?_
  refine dr_op rfl rfl (opr_call rfl rfl rfl Tryd.func13 (by kernel_rfl) rfl (of_ct _)) ?_
  refine dr_op rfl rfl (opr_call rfl rfl rfl Tryd.func16 (by kernel_rfl) rfl (sScNeg_ct (q_RR qa))) ?_
  refine dr_op rfl rfl (opr_call rfl rfl rfl Tryd.func9 (by kernel_rfl) rfl (isT_ct (by rw [Nat.mod_eq_of_lt qa]) (ssub_RR _ _))) ?_
  refine dr_op rfl rfl (opr_move rfl rfl) ?_
  refine dr_op rfl rfl (opr_buildE rfl rfl (builts22 1) (E_small (by decide))) ?_
  refine dr_op rfl rfl (opr_call rfl rfl rfl Tryd.func15 (by kernel_rfl) rfl (iNeg_ct (jo := jo + 1) (jr := jr + 1) hO hR (by omega) (by decide))) ?_
  refine dr_op rfl rfl (opr_buildE (ds := E 0) rfl rfl builtz22 rfl) ?_
  refine dr_op rfl rfl (opr_neqEF' rfl rfl rfl Tryd.underlying22 Tryd.underlying5 size5 (by kernel_rfl) (ssub_RR _ _) (by decide) (by decide +kernel)) ?_
  refine dr_op rfl rfl (opr_pickT rfl rfl rfl) ?_
  refine dr_op rfl rfl (opr_pickN rfl rfl rfl) ?_
  refine dr_last rfl rfl (opr_assign rfl rfl) ?_
  refine ⟨rfl, ?_⟩
  refine at_then ?_
  refine at_ret ?_
  refine done_of (res1 Tryd.results4 (res_tmp rfl)) ⟨rfl, rfl⟩ (by repeat (first | exact List.Sublist.refl _ | apply List.Sublist.cons))
theorem fnScalarNegIsF_ct {M : Mem} {jo To : Nat} (hO : M[jo]? = some ⟨0, To, EE [qq]⟩) {jr Tr : Nat} (hR : M[jr]? = some ⟨1, Tr, W (digs 18446744073709551616 4 r448)⟩) (hjr : jo ≠ jr) {a : Nat} (ha : a < RR) (qa : ¬a < qq) : Ct Tryd.prog 4 #[.agg (E a).toArray] M (Det (.bool true) M) := by
  refine ct_of (vs := [.agg (E a).toArray]) Tryd.func4 rfl Tryd.ntmps4 rfl fun w0 => ?_
  refine at_seq ?_
  refine at_region ?_
  refine at_n rfl rfl (opr_box (cs := EE [a]) rfl rfl (E_box _)) ?_
  intro g0
  refine at_d rfl rfl (opr_assign rfl rfl) ?_
  refine at_nil ?_
  refine at_then ?_
  refine at_seq ?_
  refine at_drawQ (by kernel_rfl) (by kernel_rfl) (List.cons_ne_nil _ _) ?_
  refine dr_op rfl rfl (opr_load (i := 0) rfl rfl rfl Tryd.underlying22 rfl size22 (E_length _) (EE_at (k := 0) rfl rfl rfl)) ?_
  refine dr_op rfl rfl (opr_call rfl rfl rfl Tryd.func13 (by kernel_rfl) rfl (of_ct _)) ?_
  refine dr_op rfl rfl (opr_call rfl rfl rfl Tryd.func14 (by kernel_rfl) rfl (sOrder_ct)) ?_
  refine dr_op rfl rfl (opr_call rfl rfl rfl Tryd.func12 (by kernel_rfl) rfl ((less_ct (a := a) (by rw [RR_pow]; exact ha) qq28).mono (fun _ _ h => by rw [decide_eq_false qa] at h; exact h))) ?_
  refine dr_op rfl rfl (opr_unOp (u := .bool true) rfl rfl (fun _ => rfl)) ?_
  refine dr_op rfl rfl (opr_move rfl rfl) ?_
  refine dr_skip rfl rfl ?_
  refine dr_skip rfl rfl ?_
  refine dr_skip rfl rfl ?_
  refine dr_skip rfl rfl ?_
  refine dr_skip rfl rfl ?_
  refine dr_skip rfl rfl ?_
  refine dr_skip rfl rfl ?_
  refine dr_skip rfl rfl ?_
  refine dr_skip rfl rfl ?_
  refine dr_skip rfl rfl ?_
  refine dr_skip rfl rfl ?_
  refine dr_skip rfl rfl ?_
  refine dr_op rfl rfl (opr_pickT rfl rfl rfl) ?_
  refine dr_last rfl rfl (opr_assign rfl rfl) ?_
  refine ⟨rfl, ?_⟩
  refine at_then ?_
  refine at_ret ?_
  refine done_of (res1 Tryd.results4 (res_tmp rfl)) ⟨rfl, rfl⟩ (by repeat (first | exact List.Sublist.refl _ | apply List.Sublist.cons))
theorem fnScalarNegIs_ct {M : Mem} {jo To : Nat} (hO : M[jo]? = some ⟨0, To, EE [qq]⟩) {jr Tr : Nat} (hR : M[jr]? = some ⟨1, Tr, W (digs 18446744073709551616 4 r448)⟩) (hjr : jo ≠ jr) {a : Nat} (ha : a < RR) : Ct Tryd.prog 4 #[.agg (E a).toArray] M (Det (.bool true) M) := by
  by_cases q : a < qq
  · exact fnScalarNegIsT_ct hO hR hjr ha q
  · exact fnScalarNegIsF_ct hO hR hjr ha q
end Go.Proofs.YtflbkfjemmmipaaDoor
