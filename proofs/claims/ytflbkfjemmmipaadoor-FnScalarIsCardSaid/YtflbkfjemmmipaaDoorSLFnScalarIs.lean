/- The law FnScalarIs. -/
import Derived.Test.YtflbkfjemmmipaaDoorSL0
import Derived.Test.YtflbkfjemmmipaaDoorRefS
namespace Go.Proofs.YtflbkfjemmmipaaDoor
open Go
set_option maxRecDepth 100000

theorem builts22 (c : Nat) : Tryd.prog.built 22 [(0, .int .u8 (c : Int))] = some (.int .u8 (c : Int) :: List.replicate 55 (.int .u8 0)).toArray := by kernel_rfl
theorem ssub_RR (X Y : Nat) : ssub X Y < RR := mq_RR _
theorem sub_add {a b : Nat} (qa : a < qq) (qb : b < qq) : ssub a b = (a + ssub qq (b % qq)) % qq := by
  rw [Nat.mod_eq_of_lt qb, ssub, ssub, show qq + qq - b = (qq - b) + qq * 1 by omega, Nat.add_mul_mod_self_left, Nat.add_mod_mod]
  congr 1
  omega
theorem fnScalarIsTT_ct {M : Mem} {jo To : Nat} (hO : M[jo]? = some ⟨0, To, EE [qq]⟩) {jr Tr : Nat} (hR : M[jr]? = some ⟨1, Tr, W (digs 18446744073709551616 4 r448)⟩) (hjr : jo ≠ jr) {a b : Nat} (ha : a < RR) (hb : b < RR) (qa : a < qq) (qb : b < qq) : Ct Tryd.prog 5 #[.agg (E a).toArray, .agg (E b).toArray] M (Det (.bool true) M) := by
  refine ct_of (vs := [.agg (E a).toArray, .agg (E b).toArray]) Tryd.func5 rfl Tryd.ntmps5 rfl fun w0 => ?_
  refine at_seq ?_
  refine at_region ?_
  refine at_n rfl rfl (opr_box (cs := EE [a]) rfl rfl (E_box _)) ?_
  intro g0
  refine at_n rfl rfl (opr_box (cs := EE [b]) rfl rfl (E_box _)) ?_
  intro g1
  refine at_d rfl rfl (opr_assign rfl rfl) ?_
  refine at_nil ?_
  refine at_then ?_
  refine at_seq ?_
  refine at_drawG (B := [⟨g1, 22, EE [b]⟩, ⟨g0, 22, EE [a]⟩]) (E := [⟨.pure [1], 0, [], .v (.agg (E (a)).toArray)⟩, ⟨.pure [], 0, [], .v (.agg (N (a)).toArray)⟩, ⟨.pure [0], 0, [], .v (.agg (E (b)).toArray)⟩, ⟨.pure [], 0, [], .v (.agg (N (b)).toArray)⟩, ⟨.alloc, 25, N (0), .p 4 0⟩, ⟨.alloc, 25, N (0), .p 5 0⟩, ⟨.storeA 4, 0, N (a), .v undef⟩, ⟨.storeA 5, 0, N (b), .v undef⟩]) (by kernel_rfl) (by kernel_rfl) (by kernel_rfl) (fun γ0 => ?_)
  refine gs_pure rfl rfl (fun M' sB sT => ?_) ?_
  · obtain ⟨iB1, hB1⟩ := sB 1 _ rfl rfl; exact opr_load (i := iB1) rfl rfl hB1 Tryd.underlying22 rfl size22 (E_length _) (EE_at (k := 0) rfl rfl rfl)
  refine gs_pure rfl rfl (fun M' sB sT => ?_) ?_
  · exact opr_call rfl rfl rfl Tryd.func13 (by kernel_rfl) rfl (of_ct _)
  refine gs_pure rfl rfl (fun M' sB sT => ?_) ?_
  · obtain ⟨iB0, hB0⟩ := sB 0 _ rfl rfl; exact opr_load (i := iB0) rfl rfl hB0 Tryd.underlying22 rfl size22 (E_length _) (EE_at (k := 0) rfl rfl rfl)
  refine gs_pure rfl rfl (fun M' sB sT => ?_) ?_
  · exact opr_call rfl rfl rfl Tryd.func13 (by kernel_rfl) rfl (of_ct _)
  refine gs_alloc rfl rfl (fun M' => opr_alloc rfl zero25 rfl) ?_
  refine gs_alloc rfl rfl (fun M' => opr_alloc rfl zero25 rfl) ?_
  refine gs_storeA rfl rfl rfl rfl rfl (fun M' j hj => opr_store (i := j) rfl rfl rfl rfl hj size25 (N_length _) (by rw [N_length]; decide) (N_flat _) N_over) ?_
  refine gs_storeA rfl rfl rfl rfl rfl (fun M' j hj => opr_store (i := j) rfl rfl rfl rfl hj size25 (N_length _) (by rw [N_length]; decide) (N_flat _) N_over) ?_
  refine gs_nil ?_
  refine (show At _ _ (⟨(γ0 5), 25, N (b)⟩ :: ⟨(γ0 4), 25, N (a)⟩ :: ⟨g1, 22, EE [b]⟩ :: ⟨g0, 22, EE [a]⟩ :: _) _ from ?_)
  refine at_then ?_
  refine at_seq ?_
  refine at_seq ?_
  refine at_drawQ (by kernel_rfl) (by kernel_rfl) (List.cons_ne_nil _ _) ?_
  refine dr_op rfl rfl (opr_load (i := 1) rfl rfl rfl Tryd.underlying25 rfl size25 (N_length _) (N_at _)) ?_
  refine dr_op rfl rfl (opr_call rfl rfl rfl Tryd.func14 (by kernel_rfl) rfl (sOrder_ct)) ?_
  refine dr_op rfl rfl (opr_call rfl rfl rfl Tryd.func12 (by kernel_rfl) rfl ((less_ct (a := a) (by rw [RR_pow]; exact q_RR qa) qq28).mono (fun _ _ h => by rw [decide_eq_true qa] at h; exact h))) ?_
  refine dr_op rfl rfl (opr_unOp (u := .bool false) rfl rfl (fun _ => rfl)) ?_
  refine dr_op rfl rfl (opr_move rfl rfl) ?_
  refine dr_op rfl rfl (opr_load (i := 0) rfl rfl rfl Tryd.underlying25 rfl size25 (N_length _) (N_at _)) ?_
  refine dr_op rfl rfl (opr_call rfl rfl rfl Tryd.func14 (by kernel_rfl) rfl (sOrder_ct)) ?_
  refine dr_op rfl rfl (opr_call rfl rfl rfl Tryd.func12 (by kernel_rfl) rfl ((less_ct (a := b) (by rw [RR_pow]; exact q_RR qb) qq28).mono (fun _ _ h => by rw [decide_eq_true qb] at h; exact h))) ?_
  refine dr_op rfl rfl (opr_unOp (u := .bool false) rfl rfl (fun _ => rfl)) ?_
  refine dr_last rfl rfl (opr_pickN rfl rfl rfl) ?_
  refine ⟨rfl, ?_⟩
  refine at_then ?_
  refine at_cond_false rfl ?_
  refine at_skip ?_
  refine at_then ?_
  refine at_seq ?_
  refine at_drawQ (by kernel_rfl) (by kernel_rfl) (List.cons_ne_nil _ _) ?_
  refine dr_op rfl rfl (opr_load (i := 3) rfl rfl rfl Tryd.underlying22 rfl size22 (E_length _) (EE_at (k := 0) rfl rfl rfl)) ?_
  refine dr_op rfl rfl (opr_load (i := 2) rfl rfl rfl Tryd.underlying22 rfl size22 (E_length _) (EE_at (k := 0) rfl rfl rfl)) ?_
  refine dr_op rfl rfl (opr_call rfl rfl rfl Tryd.func17 (by kernel_rfl) rfl (iSAdd_ct (jo := jo + 4) (jr := jr + 4) hO hR (by omega) qa qb)) ?_
  refine dr_op rfl rfl (opr_load (i := 1) rfl rfl rfl Tryd.underlying25 rfl size25 (N_length _) (N_at _)) ?_
  refine dr_op rfl rfl (opr_load (i := 0) rfl rfl rfl Tryd.underlying25 rfl size25 (N_length _) (N_at _)) ?_
  refine dr_op rfl rfl (opr_call rfl rfl rfl Tryd.func18 (by kernel_rfl) rfl (sScAdd_ct (q_RR qa) (q_RR qb))) ?_
  refine dr_op rfl rfl (opr_call rfl rfl rfl Tryd.func9 (by kernel_rfl) rfl (isT_ct rfl (mq_RR _))) ?_
  refine dr_op rfl rfl (opr_move rfl rfl) ?_
  refine dr_op rfl rfl (opr_load (i := 3) rfl rfl rfl Tryd.underlying22 rfl size22 (E_length _) (EE_at (k := 0) rfl rfl rfl)) ?_
  refine dr_op rfl rfl (opr_load (i := 2) rfl rfl rfl Tryd.underlying22 rfl size22 (E_length _) (EE_at (k := 0) rfl rfl rfl)) ?_
  refine dr_op rfl rfl (opr_call rfl rfl rfl Tryd.func19 (by kernel_rfl) rfl (iSSub_ct (jo := jo + 4) (jr := jr + 4) hO hR (by omega) (Nat.le_of_lt qa) (Nat.le_of_lt qb))) ?_
  refine dr_op rfl rfl (opr_load (i := 1) rfl rfl rfl Tryd.underlying25 rfl size25 (N_length _) (N_at _)) ?_
  refine dr_op rfl rfl (opr_load (i := 0) rfl rfl rfl Tryd.underlying25 rfl size25 (N_length _) (N_at _)) ?_
  refine dr_op rfl rfl (opr_call rfl rfl rfl Tryd.func16 (by kernel_rfl) rfl (sScNeg_ct (q_RR qb))) ?_
  refine dr_op rfl rfl (opr_call rfl rfl rfl Tryd.func18 (by kernel_rfl) rfl (sScAdd_ct (q_RR qa) (ssub_RR _ _))) ?_
  refine dr_op rfl rfl (opr_call rfl rfl rfl Tryd.func9 (by kernel_rfl) rfl (isT_ct (sub_add qa qb) (mq_RR _))) ?_
  refine dr_op rfl rfl (opr_pickT rfl rfl rfl) ?_
  refine dr_op rfl rfl (opr_move rfl rfl) ?_
  refine dr_op rfl rfl (opr_buildE rfl rfl (builts22 1) (E_small (by decide))) ?_
  refine dr_op rfl rfl (opr_buildE rfl rfl (builts22 1) (E_small (by decide))) ?_
  refine dr_op rfl rfl (opr_call rfl rfl rfl Tryd.func17 (by kernel_rfl) rfl (iSAdd_ct (jo := jo + 4) (jr := jr + 4) hO hR (by omega) (by decide) (by decide))) ?_
  refine dr_op rfl rfl (opr_buildE rfl rfl (builts22 2) (E_small (by decide))) ?_
  refine dr_op rfl rfl (opr_eqlEb (t := true) rfl rfl rfl Tryd.underlying22 Tryd.underlying5 size5 (by kernel_rfl) (mq_RR _) (by decide) (by decide +kernel)) ?_
  refine dr_op rfl rfl (opr_pickT rfl rfl rfl) ?_
  refine dr_last rfl rfl (opr_assign rfl rfl) ?_
  refine ⟨rfl, ?_⟩
  refine at_then ?_
  refine at_ret ?_
  refine done_of (res1 Tryd.results5 (res_tmp rfl)) ⟨rfl, rfl⟩ (by repeat (first | exact List.Sublist.refl _ | apply List.Sublist.cons))
theorem fnScalarIsTF_ct {M : Mem} {jo To : Nat} (hO : M[jo]? = some ⟨0, To, EE [qq]⟩) {jr Tr : Nat} (hR : M[jr]? = some ⟨1, Tr, W (digs 18446744073709551616 4 r448)⟩) (hjr : jo ≠ jr) {a b : Nat} (ha : a < RR) (hb : b < RR) (qa : a < qq) (qb : ¬ b < qq) : Ct Tryd.prog 5 #[.agg (E a).toArray, .agg (E b).toArray] M (Det (.bool true) M) := by
  refine ct_of (vs := [.agg (E a).toArray, .agg (E b).toArray]) Tryd.func5 rfl Tryd.ntmps5 rfl fun w0 => ?_
  refine at_seq ?_
  refine at_region ?_
  refine at_n rfl rfl (opr_box (cs := EE [a]) rfl rfl (E_box _)) ?_
  intro g0
  refine at_n rfl rfl (opr_box (cs := EE [b]) rfl rfl (E_box _)) ?_
  intro g1
  refine at_d rfl rfl (opr_assign rfl rfl) ?_
  refine at_nil ?_
  refine at_then ?_
  refine at_seq ?_
  refine at_drawG (B := [⟨g1, 22, EE [b]⟩, ⟨g0, 22, EE [a]⟩]) (E := [⟨.pure [1], 0, [], .v (.agg (E (a)).toArray)⟩, ⟨.pure [], 0, [], .v (.agg (N (a)).toArray)⟩, ⟨.pure [0], 0, [], .v (.agg (E (b)).toArray)⟩, ⟨.pure [], 0, [], .v (.agg (N (b)).toArray)⟩, ⟨.alloc, 25, N (0), .p 4 0⟩, ⟨.alloc, 25, N (0), .p 5 0⟩, ⟨.storeA 4, 0, N (a), .v undef⟩, ⟨.storeA 5, 0, N (b), .v undef⟩]) (by kernel_rfl) (by kernel_rfl) (by kernel_rfl) (fun γ0 => ?_)
  refine gs_pure rfl rfl (fun M' sB sT => ?_) ?_
  · obtain ⟨iB1, hB1⟩ := sB 1 _ rfl rfl; exact opr_load (i := iB1) rfl rfl hB1 Tryd.underlying22 rfl size22 (E_length _) (EE_at (k := 0) rfl rfl rfl)
  refine gs_pure rfl rfl (fun M' sB sT => ?_) ?_
  · exact opr_call rfl rfl rfl Tryd.func13 (by kernel_rfl) rfl (of_ct _)
  refine gs_pure rfl rfl (fun M' sB sT => ?_) ?_
  · obtain ⟨iB0, hB0⟩ := sB 0 _ rfl rfl; exact opr_load (i := iB0) rfl rfl hB0 Tryd.underlying22 rfl size22 (E_length _) (EE_at (k := 0) rfl rfl rfl)
  refine gs_pure rfl rfl (fun M' sB sT => ?_) ?_
  · exact opr_call rfl rfl rfl Tryd.func13 (by kernel_rfl) rfl (of_ct _)
  refine gs_alloc rfl rfl (fun M' => opr_alloc rfl zero25 rfl) ?_
  refine gs_alloc rfl rfl (fun M' => opr_alloc rfl zero25 rfl) ?_
  refine gs_storeA rfl rfl rfl rfl rfl (fun M' j hj => opr_store (i := j) rfl rfl rfl rfl hj size25 (N_length _) (by rw [N_length]; decide) (N_flat _) N_over) ?_
  refine gs_storeA rfl rfl rfl rfl rfl (fun M' j hj => opr_store (i := j) rfl rfl rfl rfl hj size25 (N_length _) (by rw [N_length]; decide) (N_flat _) N_over) ?_
  refine gs_nil ?_
  refine (show At _ _ (⟨(γ0 5), 25, N (b)⟩ :: ⟨(γ0 4), 25, N (a)⟩ :: ⟨g1, 22, EE [b]⟩ :: ⟨g0, 22, EE [a]⟩ :: _) _ from ?_)
  refine at_then ?_
  refine at_seq ?_
  refine at_seq ?_
  refine at_drawQ (by kernel_rfl) (by kernel_rfl) (List.cons_ne_nil _ _) ?_
  refine dr_op rfl rfl (opr_load (i := 1) rfl rfl rfl Tryd.underlying25 rfl size25 (N_length _) (N_at _)) ?_
  refine dr_op rfl rfl (opr_call rfl rfl rfl Tryd.func14 (by kernel_rfl) rfl (sOrder_ct)) ?_
  refine dr_op rfl rfl (opr_call rfl rfl rfl Tryd.func12 (by kernel_rfl) rfl ((less_ct (a := a) (by rw [RR_pow]; exact q_RR qa) qq28).mono (fun _ _ h => by rw [decide_eq_true qa] at h; exact h))) ?_
  refine dr_op rfl rfl (opr_unOp (u := .bool false) rfl rfl (fun _ => rfl)) ?_
  refine dr_op rfl rfl (opr_move rfl rfl) ?_
  refine dr_op rfl rfl (opr_load (i := 0) rfl rfl rfl Tryd.underlying25 rfl size25 (N_length _) (N_at _)) ?_
  refine dr_op rfl rfl (opr_call rfl rfl rfl Tryd.func14 (by kernel_rfl) rfl (sOrder_ct)) ?_
  refine dr_op rfl rfl (opr_call rfl rfl rfl Tryd.func12 (by kernel_rfl) rfl ((less_ct (a := b) (by rw [RR_pow]; exact hb) qq28).mono (fun _ _ h => by rw [decide_eq_false qb] at h; exact h))) ?_
  refine dr_op rfl rfl (opr_unOp (u := .bool true) rfl rfl (fun _ => rfl)) ?_
  refine dr_last rfl rfl (opr_pickN rfl rfl rfl) ?_
  refine ⟨rfl, ?_⟩
  refine at_then ?_
  refine at_cond_true rfl ?_
  refine at_seq ?_
  refine at_region ?_
  refine at_d rfl rfl (opr_assign rfl rfl) ?_
  refine at_nil ?_
  refine at_then ?_
  refine at_ret ?_
  refine at_then_ret ?_
  refine done_of (res1 Tryd.results5 (res_tmp rfl)) ⟨rfl, rfl⟩ (by repeat (first | exact List.Sublist.refl _ | apply List.Sublist.cons))
theorem fnScalarIsF_ct {M : Mem} {jo To : Nat} (hO : M[jo]? = some ⟨0, To, EE [qq]⟩) {jr Tr : Nat} (hR : M[jr]? = some ⟨1, Tr, W (digs 18446744073709551616 4 r448)⟩) (hjr : jo ≠ jr) {a b : Nat} (ha : a < RR) (hb : b < RR) (qa : ¬ a < qq) : Ct Tryd.prog 5 #[.agg (E a).toArray, .agg (E b).toArray] M (Det (.bool true) M) := by
  refine ct_of (vs := [.agg (E a).toArray, .agg (E b).toArray]) Tryd.func5 rfl Tryd.ntmps5 rfl fun w0 => ?_
  refine at_seq ?_
  refine at_region ?_
  refine at_n rfl rfl (opr_box (cs := EE [a]) rfl rfl (E_box _)) ?_
  intro g0
  refine at_n rfl rfl (opr_box (cs := EE [b]) rfl rfl (E_box _)) ?_
  intro g1
  refine at_d rfl rfl (opr_assign rfl rfl) ?_
  refine at_nil ?_
  refine at_then ?_
  refine at_seq ?_
  refine at_drawG (B := [⟨g1, 22, EE [b]⟩, ⟨g0, 22, EE [a]⟩]) (E := [⟨.pure [1], 0, [], .v (.agg (E (a)).toArray)⟩, ⟨.pure [], 0, [], .v (.agg (N (a)).toArray)⟩, ⟨.pure [0], 0, [], .v (.agg (E (b)).toArray)⟩, ⟨.pure [], 0, [], .v (.agg (N (b)).toArray)⟩, ⟨.alloc, 25, N (0), .p 4 0⟩, ⟨.alloc, 25, N (0), .p 5 0⟩, ⟨.storeA 4, 0, N (a), .v undef⟩, ⟨.storeA 5, 0, N (b), .v undef⟩]) (by kernel_rfl) (by kernel_rfl) (by kernel_rfl) (fun γ0 => ?_)
  refine gs_pure rfl rfl (fun M' sB sT => ?_) ?_
  · obtain ⟨iB1, hB1⟩ := sB 1 _ rfl rfl; exact opr_load (i := iB1) rfl rfl hB1 Tryd.underlying22 rfl size22 (E_length _) (EE_at (k := 0) rfl rfl rfl)
  refine gs_pure rfl rfl (fun M' sB sT => ?_) ?_
  · exact opr_call rfl rfl rfl Tryd.func13 (by kernel_rfl) rfl (of_ct _)
  refine gs_pure rfl rfl (fun M' sB sT => ?_) ?_
  · obtain ⟨iB0, hB0⟩ := sB 0 _ rfl rfl; exact opr_load (i := iB0) rfl rfl hB0 Tryd.underlying22 rfl size22 (E_length _) (EE_at (k := 0) rfl rfl rfl)
  refine gs_pure rfl rfl (fun M' sB sT => ?_) ?_
  · exact opr_call rfl rfl rfl Tryd.func13 (by kernel_rfl) rfl (of_ct _)
  refine gs_alloc rfl rfl (fun M' => opr_alloc rfl zero25 rfl) ?_
  refine gs_alloc rfl rfl (fun M' => opr_alloc rfl zero25 rfl) ?_
  refine gs_storeA rfl rfl rfl rfl rfl (fun M' j hj => opr_store (i := j) rfl rfl rfl rfl hj size25 (N_length _) (by rw [N_length]; decide) (N_flat _) N_over) ?_
  refine gs_storeA rfl rfl rfl rfl rfl (fun M' j hj => opr_store (i := j) rfl rfl rfl rfl hj size25 (N_length _) (by rw [N_length]; decide) (N_flat _) N_over) ?_
  refine gs_nil ?_
  refine (show At _ _ (⟨(γ0 5), 25, N (b)⟩ :: ⟨(γ0 4), 25, N (a)⟩ :: ⟨g1, 22, EE [b]⟩ :: ⟨g0, 22, EE [a]⟩ :: _) _ from ?_)
  refine at_then ?_
  refine at_seq ?_
  refine at_seq ?_
  refine at_drawQ (by kernel_rfl) (by kernel_rfl) (List.cons_ne_nil _ _) ?_
  refine dr_op rfl rfl (opr_load (i := 1) rfl rfl rfl Tryd.underlying25 rfl size25 (N_length _) (N_at _)) ?_
  refine dr_op rfl rfl (opr_call rfl rfl rfl Tryd.func14 (by kernel_rfl) rfl (sOrder_ct)) ?_
  refine dr_op rfl rfl (opr_call rfl rfl rfl Tryd.func12 (by kernel_rfl) rfl ((less_ct (a := a) (by rw [RR_pow]; exact ha) qq28).mono (fun _ _ h => by rw [decide_eq_false qa] at h; exact h))) ?_
  refine dr_op rfl rfl (opr_unOp (u := .bool true) rfl rfl (fun _ => rfl)) ?_
  refine dr_op rfl rfl (opr_move rfl rfl) ?_
  refine dr_skip rfl rfl ?_
  refine dr_skip rfl rfl ?_
  refine dr_skip rfl rfl ?_
  refine dr_skip rfl rfl ?_
  refine dr_last rfl rfl (opr_pickT rfl rfl rfl) ?_
  refine ⟨rfl, ?_⟩
  refine at_then ?_
  refine at_cond_true rfl ?_
  refine at_seq ?_
  refine at_region ?_
  refine at_d rfl rfl (opr_assign rfl rfl) ?_
  refine at_nil ?_
  refine at_then ?_
  refine at_ret ?_
  refine at_then_ret ?_
  refine done_of (res1 Tryd.results5 (res_tmp rfl)) ⟨rfl, rfl⟩ (by repeat (first | exact List.Sublist.refl _ | apply List.Sublist.cons))
theorem fnScalarIs_ct {M : Mem} {jo To : Nat} (hO : M[jo]? = some ⟨0, To, EE [qq]⟩) {jr Tr : Nat} (hR : M[jr]? = some ⟨1, Tr, W (digs 18446744073709551616 4 r448)⟩) (hjr : jo ≠ jr) {a b : Nat} (ha : a < RR) (hb : b < RR) : Ct Tryd.prog 5 #[.agg (E a).toArray, .agg (E b).toArray] M (Det (.bool true) M) := by
  by_cases q : a < qq
  · by_cases r : b < qq
    · exact fnScalarIsTT_ct hO hR hjr ha hb q r
    · exact fnScalarIsTF_ct hO hR hjr ha hb q r
  · exact fnScalarIsF_ct hO hR hjr ha hb q
end Go.Proofs.YtflbkfjemmmipaaDoor
