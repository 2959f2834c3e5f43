/- The law FnNAF. -/
import Derived.Test.YtoagfplhcimghaaNafW
import Derived.Test.YtoagfplhcimghaaDrawI
namespace Go.Proofs.Ytoagfplhcimghaa
open Go
set_option maxRecDepth 100000

theorem builts22 (c : Nat) : Try.prog.built 22 [(0, .int .u8 (c : Int))] = some (.int .u8 (c : Int) :: List.replicate 55 (.int .u8 0)).toArray := by kernel_rfl
theorem nafA_ct {M : Mem} {K w : Nat} (hK : K < RR) (hw : w < 2) : Ct Try.prog 3 #[.agg (E K).toArray, .int .u64 (w : Int)] M (Det (.bool true) M) := by
  refine ct_of (vs := [.agg (E K).toArray, .int .u64 (w : Int)]) Try.func3 rfl Try.ntmps3 rfl fun w0 => ?_
  refine at_seq ?_
  refine at_region ?_
  refine at_n rfl rfl (opr_box (cs := EE [K]) rfl rfl (E_box _)) ?_
  intro g0
  refine at_d rfl rfl (opr_assign rfl rfl) ?_
  refine at_nil ?_
  refine at_then ?_
  refine at_seq ?_
  refine at_seq ?_
  refine at_region ?_
  refine at_d rfl rfl (opr_move rfl rfl) ?_
  refine at_d rfl rfl (opr_eq' (v' := .bool true) (opr_lss (a := w) (b := 2) rfl rfl rfl) (congrArg Value.bool (decide_eq_true hw))) ?_
  refine at_d rfl rfl (opr_move rfl rfl) ?_
  refine at_op_skip rfl rfl ?_
  refine at_op_skip rfl rfl ?_
  refine at_d rfl rfl (opr_pickT rfl rfl rfl) ?_
  refine at_d rfl rfl (opr_move rfl rfl) ?_
  refine at_op_skip rfl rfl ?_
  refine at_op_skip rfl rfl ?_
  refine at_op_skip rfl rfl ?_
  refine at_op_skip rfl rfl ?_
  refine at_op_skip rfl rfl ?_
  refine at_d rfl rfl (opr_pickT rfl rfl rfl) ?_
  refine at_nil ?_
  refine at_then ?_
  refine at_cond_true rfl ?_
  refine at_seq ?_
  refine at_region ?_
  refine at_d rfl rfl (opr_assign rfl rfl) ?_
  refine at_nil ?_
  refine at_then ?_
  refine at_ret ?_
  refine at_then_ret ?_
  refine done_of (res1 Try.results3 (res_tmp rfl)) ⟨rfl, rfl⟩ (by repeat (first | exact List.Sublist.refl _ | apply List.Sublist.cons))
theorem nafB_ct {M : Mem} {K w : Nat} (hK : K < RR) (hw : 2 ≤ w) (hw16 : 16 < w) : Ct Try.prog 3 #[.agg (E K).toArray, .int .u64 (w : Int)] M (Det (.bool true) M) := by
  refine ct_of (vs := [.agg (E K).toArray, .int .u64 (w : Int)]) Try.func3 rfl Try.ntmps3 rfl fun w0 => ?_
  refine at_seq ?_
  refine at_region ?_
  refine at_n rfl rfl (opr_box (cs := EE [K]) rfl rfl (E_box _)) ?_
  intro g0
  refine at_d rfl rfl (opr_assign rfl rfl) ?_
  refine at_nil ?_
  refine at_then ?_
  refine at_seq ?_
  refine at_seq ?_
  refine at_region ?_
  refine at_d rfl rfl (opr_move rfl rfl) ?_
  refine at_d rfl rfl (opr_eq' (v' := .bool false) (opr_lss (a := w) (b := 2) rfl rfl rfl) (congrArg Value.bool (decide_eq_false (by omega)))) ?_
  refine at_d rfl rfl (opr_move rfl rfl) ?_
  refine at_d rfl rfl (opr_move rfl rfl) ?_
  refine at_d rfl rfl (opr_eq' (v' := .bool true) (opr_gtr (a := w) (b := 16) rfl rfl rfl) (congrArg Value.bool (decide_eq_true hw16))) ?_
  refine at_d rfl rfl (opr_pickN rfl rfl rfl) ?_
  refine at_d rfl rfl (opr_move rfl rfl) ?_
  refine at_op_skip rfl rfl ?_
  refine at_op_skip rfl rfl ?_
  refine at_op_skip rfl rfl ?_
  refine at_op_skip rfl rfl ?_
  refine at_op_skip rfl rfl ?_
  refine at_d rfl rfl (opr_pickT rfl rfl rfl) ?_
  refine at_nil ?_
  refine at_then ?_
  refine at_cond_true rfl ?_
  refine at_seq ?_
  refine at_region ?_
  refine at_d rfl rfl (opr_assign rfl rfl) ?_
  refine at_nil ?_
  refine at_then ?_
  refine at_ret ?_
  refine at_then_ret ?_
  refine done_of (res1 Try.results3 (res_tmp rfl)) ⟨rfl, rfl⟩ (by repeat (first | exact List.Sublist.refl _ | apply List.Sublist.cons))
theorem nafC_ct {M : Mem} {K w : Nat} (hK : K < RR) (hw : 2 ≤ w) (hw16 : w ≤ 16) (hq : ¬ K < qq) : Ct Try.prog 3 #[.agg (E K).toArray, .int .u64 (w : Int)] M (Det (.bool true) M) := by
  refine ct_of (vs := [.agg (E K).toArray, .int .u64 (w : Int)]) Try.func3 rfl Try.ntmps3 rfl fun w0 => ?_
  refine at_seq ?_
  refine at_region ?_
  refine at_n rfl rfl (opr_box (cs := EE [K]) rfl rfl (E_box _)) ?_
  intro g0
  refine at_d rfl rfl (opr_assign rfl rfl) ?_
  refine at_nil ?_
  refine at_then ?_
  refine at_seq ?_
  refine at_seq ?_
  refine at_region ?_
  refine at_d rfl rfl (opr_move rfl rfl) ?_
  refine at_d rfl rfl (opr_eq' (v' := .bool false) (opr_lss (a := w) (b := 2) rfl rfl rfl) (congrArg Value.bool (decide_eq_false (by omega)))) ?_
  refine at_d rfl rfl (opr_move rfl rfl) ?_
  refine at_d rfl rfl (opr_move rfl rfl) ?_
  refine at_d rfl rfl (opr_eq' (v' := .bool false) (opr_gtr (a := w) (b := 16) rfl rfl rfl) (congrArg Value.bool (decide_eq_false (by omega)))) ?_
  refine at_d rfl rfl (opr_pickN rfl rfl rfl) ?_
  refine at_d rfl rfl (opr_move rfl rfl) ?_
  refine at_d rfl rfl (opr_load (i := 0) rfl rfl rfl Try.underlying22 rfl size22 (E_length _) (EE_at (k := 0) rfl rfl rfl)) ?_
  refine at_d rfl rfl (opr_call rfl rfl rfl Try.func5 (by kernel_rfl) rfl (of_ct K)) ?_
  refine at_d rfl rfl (opr_call rfl rfl rfl Try.func6 (by kernel_rfl) rfl (sOrder_ct)) ?_
  refine at_d rfl rfl (opr_call rfl rfl rfl Try.func4 (by kernel_rfl) rfl ((less_ct (a := K) (by rw [RR_pow]; exact hK) qq28).mono (fun _ _ h => by rw [decide_eq_false hq] at h; exact h))) ?_
  refine at_d rfl rfl (opr_unOp (u := .bool true) rfl rfl (fun _ => rfl)) ?_
  refine at_d rfl rfl (opr_pickN rfl rfl rfl) ?_
  refine at_nil ?_
  refine at_then ?_
  refine at_cond_true rfl ?_
  refine at_seq ?_
  refine at_region ?_
  refine at_d rfl rfl (opr_assign rfl rfl) ?_
  refine at_nil ?_
  refine at_then ?_
  refine at_ret ?_
  refine at_then_ret ?_
  refine done_of (res1 Try.results3 (res_tmp rfl)) ⟨rfl, rfl⟩ (by repeat (first | exact List.Sublist.refl _ | apply List.Sublist.cons))
theorem nafD_ct {M : Mem} {K w : Nat} (hK : K < RR) (hw : 2 ≤ w) (hw16 : w ≤ 16) (hq : K < qq) : Ct Try.prog 3 #[.agg (E K).toArray, .int .u64 (w : Int)] M (Det (.bool true) M) := by
  refine ct_of (vs := [.agg (E K).toArray, .int .u64 (w : Int)]) Try.func3 rfl Try.ntmps3 rfl fun w0 => ?_
  refine at_seq ?_
  refine at_region ?_
  refine at_n rfl rfl (opr_box (cs := EE [K]) rfl rfl (E_box _)) ?_
  intro g0
  refine at_d rfl rfl (opr_assign rfl rfl) ?_
  refine at_nil ?_
  refine at_then ?_
  refine at_seq ?_
  refine at_seq ?_
  refine at_region ?_
  refine at_d rfl rfl (opr_move rfl rfl) ?_
  refine at_d rfl rfl (opr_eq' (v' := .bool false) (opr_lss (a := w) (b := 2) rfl rfl rfl) (congrArg Value.bool (decide_eq_false (by omega)))) ?_
  refine at_d rfl rfl (opr_move rfl rfl) ?_
  refine at_d rfl rfl (opr_move rfl rfl) ?_
  refine at_d rfl rfl (opr_eq' (v' := .bool false) (opr_gtr (a := w) (b := 16) rfl rfl rfl) (congrArg Value.bool (decide_eq_false (by omega)))) ?_
  refine at_d rfl rfl (opr_pickN rfl rfl rfl) ?_
  refine at_d rfl rfl (opr_move rfl rfl) ?_
  refine at_d rfl rfl (opr_load (i := 0) rfl rfl rfl Try.underlying22 rfl size22 (E_length _) (EE_at (k := 0) rfl rfl rfl)) ?_
  refine at_d rfl rfl (opr_call rfl rfl rfl Try.func5 (by kernel_rfl) rfl (of_ct K)) ?_
  refine at_d rfl rfl (opr_call rfl rfl rfl Try.func6 (by kernel_rfl) rfl (sOrder_ct)) ?_
  refine at_d rfl rfl (opr_call rfl rfl rfl Try.func4 (by kernel_rfl) rfl ((less_ct (a := K) (by rw [RR_pow]; exact hK) qq28).mono (fun _ _ h => by rw [decide_eq_true hq] at h; exact h))) ?_
  refine at_d rfl rfl (opr_unOp (u := .bool false) rfl rfl (fun _ => rfl)) ?_
  refine at_d rfl rfl (opr_pickN rfl rfl rfl) ?_
  refine at_nil ?_
  refine at_then ?_
  refine at_cond_false rfl ?_
  refine at_skip ?_
  refine at_then ?_
  refine at_seq ?_
  refine at_region ?_
  refine at_d rfl rfl (opr_load (i := 0) rfl rfl rfl Try.underlying22 rfl size22 (E_length _) (EE_at (k := 0) rfl rfl rfl)) ?_
  refine at_d rfl rfl (opr_move rfl rfl) ?_
  refine at_c rfl rfl (opr_call rfl rfl rfl Try.func7 (by kernel_rfl) rfl (iNaf_ct hK hw hw16)) ?_
  rintro _ _ ⟨s, x, rfl, hsI, hC, h0, rfl⟩
  have hx4 := hC.len hw16
  refine at_d rfl rfl (opr_assign rfl rfl) ?_
  refine at_nil ?_
  refine at_then ?_
  refine at_seq ?_
  refine at_region ?_
  refine at_d rfl rfl (opr_move rfl rfl) ?_
  refine at_d rfl rfl (opr_toI (n := w) rfl rfl Try.underlying23 Try.underlying3 (by omega)) ?_
  refine at_d rfl rfl (opr_negK (c := -(w : Int)) rfl rfl (wrap_i64 _ (by omega) (by omega))) ?_
  refine at_d rfl rfl (opr_assign rfl rfl) ?_
  refine at_nil ?_
  refine at_then ?_
  refine at_seq ?_
  refine at_region ?_
  refine at_d rfl rfl (opr_buildE (ds := N 0) rfl rfl builtn27 rfl) ?_
  refine at_n rfl rfl (opr_alloc rfl zero27 rfl) ?_
  intro g1
  refine at_d rfl rfl (opr_store (i := 0) rfl rfl rfl rfl rfl size27 (N_length _) (by rw [N_length]; decide) (N_flat _) N_over) ?_
  refine at_nil ?_
  refine at_then ?_
  refine at_seq ?_
  refine at_seq ?_
  refine at_region ?_
  refine at_d rfl rfl (opr_move rfl rfl) ?_
  refine at_d rfl rfl (opr_lenS (n := x) rfl rfl Try.underlying30) ?_
  refine at_d rfl rfl (opr_subK (c := (x : Int) - 1) rfl rfl rfl (wrap_i64 _ (by omega) (by omega))) ?_
  refine at_d rfl rfl (opr_assign rfl rfl) ?_
  refine at_nil ?_
  refine at_then ?_
  refine at_block ?_
  refine at_loop (fun (r : Nat) => [(1, .int .u64 (w : Int)), (2, .pointer (some ⟨g0, 0, none⟩)), (5, .slice (some ⟨s.g, 0, none⟩) x s.cap), (6, .int .i64 (-(w : Int))), (7, .pointer (some ⟨g1, 0, none⟩)), (8, .int .i64 ((r : Int) - 1))]) (fun (r : Nat) => ⟨g1, 27, N (smod ((nafD w K x).drop r))⟩ :: ⟨s.g, 3, s.cs⟩ :: ⟨g0, 22, EE [K]⟩ :: M) (fun (r : Nat) => r) (fun (r : Nat) => r ≤ x) x (Nat.le_refl _) (allIn ⟨rfl, rfl, rfl, rfl, rfl, rfl, trivial⟩) (by rw [List.drop_of_length_le (by rw [nafD_length]; exact Nat.le_refl _), smod_nil]; exact List.Sublist.refl _) ?_
  intro k hkx
  dsimp only
  refine at_seq ?_
  refine at_seq ?_
  refine at_region ?_
  refine at_d rfl rfl (opr_move rfl rfl) ?_
  refine at_d rfl rfl (opr_geqK rfl rfl rfl) ?_
  refine at_nil ?_
  refine at_then ?_
  refine at_cond rfl (fun ht => ?_) (fun ht => ?_)
  ·
    have hk0 : 0 ≤ (k : Int) - 1 := of_decide_eq_true ht
    obtain ⟨m, rfl⟩ : ∃ m, k = m + 1 := ⟨k - 1, by omega⟩
    clear ht hk0
    rw [show ((m + 1 : Nat) : Int) - 1 = (m : Int) by omega]
    have hm : m < x := by omega
    obtain ⟨d, hd⟩ : ∃ d, (nafD w K x)[m]? = some d := ⟨_, List.getElem?_eq_getElem (by rw [nafD_length]; exact hm)⟩
    have hdl := hC.dlt hw16 hd
    refine at_skip ?_
    refine at_then ?_
    refine at_seq ?_
    refine at_block ?_
    refine at_seq ?_
    refine at_region ?_
    refine at_d rfl rfl (opr_load (i := 0) rfl rfl rfl Try.underlying27 rfl size27 (N_length _) (N_at _)) ?_
    refine at_d rfl rfl (opr_load (i := 0) rfl rfl rfl Try.underlying27 rfl size27 (N_length _) (N_at _)) ?_
    refine at_d rfl rfl (opr_call rfl rfl rfl Try.func8 (by kernel_rfl) rfl (sScAdd_ct (smod_RR _) (smod_RR _))) ?_
    refine at_d rfl rfl (opr_store (i := 0) rfl rfl rfl rfl rfl size27 (N_length _) (by rw [N_length]; decide) (N_flat _) N_over) ?_
    refine at_nil ?_
    refine at_then ?_
    refine at_seq ?_
    refine at_drawG (B := [⟨g1, 27, N ((((smod ((nafD w K x).drop (m + 1))) + (smod ((nafD w K x).drop (m + 1)))) % qq))⟩, ⟨s.g, 3, s.cs⟩, ⟨g0, 22, EE [K]⟩]) (E := [⟨.pure [], 0, [], .v (.slice (some ⟨s.g, 0, none⟩) x s.cap)⟩, ⟨.pure [], 0, [], .v (.int .i64 (m : Int))⟩, ⟨.pure [], 0, [], .v (.pointer (some ⟨s.g, m, none⟩))⟩, ⟨.pure [1], 0, [], .v (.int .i64 d)⟩, ⟨.pure [], 0, [], .v (.slice (some ⟨s.g, 0, none⟩) x s.cap)⟩, ⟨.pure [], 0, [], .v (.int .i64 (m : Int))⟩, ⟨.pure [], 0, [], .v (.pointer (some ⟨s.g, m, none⟩))⟩, ⟨.pure [1], 0, [], .v (.int .i64 d)⟩, ⟨.pure [], 0, [], .v (.int .i64 (-d))⟩, ⟨.pure [], 0, [], .v (.int .i64 ((d.natAbs : Nat) : Int))⟩, ⟨.pure [], 0, [], .v (.agg (N (d.natAbs)).toArray)⟩, ⟨.alloc, 27, N (0), .p 11 0⟩, ⟨.storeA 11, 0, N (d.natAbs), .v undef⟩]) (by kernel_rfl) (by kernel_rfl) (by kernel_rfl) (fun γ0 => ?_)
    refine gs_pure rfl rfl (fun M' sB sT => ?_) ?_
    · exact opr_move rfl rfl
    refine gs_pure rfl rfl (fun M' sB sT => ?_) ?_
    · exact opr_move rfl rfl
    refine gs_pure rfl rfl (fun M' sB sT => ?_) ?_
    · exact opr_indexAddrS (j := m) (off' := m) rfl rfl rfl Try.underlying30 hm size3 (by omega)
    refine gs_pure rfl rfl (fun M' sB sT => ?_) ?_
    · obtain ⟨iB1, hB1⟩ := sB 1 _ rfl rfl; exact opr_load1 (i := iB1) rfl rfl hB1 Try.underlying3 rfl (SlI_get hsI (by rw [List.getElem?_map, hd]; rfl) : s.cs[m]? = some (i64V d))
    refine gs_pure rfl rfl (fun M' sB sT => ?_) ?_
    · exact opr_move rfl rfl
    refine gs_pure rfl rfl (fun M' sB sT => ?_) ?_
    · exact opr_move rfl rfl
    refine gs_pure rfl rfl (fun M' sB sT => ?_) ?_
    · exact opr_indexAddrS (j := m) (off' := m) rfl rfl rfl Try.underlying30 hm size3 (by omega)
    refine gs_pure rfl rfl (fun M' sB sT => ?_) ?_
    · obtain ⟨iB1, hB1⟩ := sB 1 _ rfl rfl; exact opr_load1 (i := iB1) rfl rfl hB1 Try.underlying3 rfl (SlI_get hsI (by rw [List.getElem?_map, hd]; rfl) : s.cs[m]? = some (i64V d))
    refine gs_pure rfl rfl (fun M' sB sT => ?_) ?_
    · exact opr_negK (c := -d) rfl rfl (wrap_i64 _ (by omega) (by omega))
    refine gs_pure rfl rfl (fun M' sB sT => ?_) ?_
    · exact opr_max rfl rfl rfl (abs_max d)
    refine gs_pure rfl rfl (fun M' sB sT => ?_) ?_
    · exact opr_call rfl rfl rfl Try.func9 (by kernel_rfl) rfl (small_ct (c := d.natAbs) (by omega))
    refine gs_alloc rfl rfl (fun M' => opr_alloc rfl zero27 rfl) ?_
    refine gs_storeA rfl rfl rfl rfl rfl (fun M' j hj => opr_store (i := j) rfl rfl rfl rfl hj size27 (N_length _) (by rw [N_length]; decide) (N_flat _) N_over) ?_
    refine gs_nil ?_
    refine (show At _ _ (⟨(γ0 11), 27, N (d.natAbs)⟩ :: ⟨g1, 27, N ((((smod ((nafD w K x).drop (m + 1))) + (smod ((nafD w K x).drop (m + 1)))) % qq))⟩ :: ⟨s.g, 3, s.cs⟩ :: ⟨g0, 22, EE [K]⟩ :: _) _ from ?_)
    refine (show At _ _ (⟨(γ0 11), 27, N (d.natAbs)⟩ :: ⟨g1, 27, N ((((smod ((nafD w K x).drop (m + 1))) + (smod ((nafD w K x).drop (m + 1)))) % qq))⟩ :: ⟨s.g, 3, s.cs⟩ :: ⟨g0, 22, EE [K]⟩ :: M) _ from ?_)
    refine at_then ?_
    refine at_seq ?_
    refine at_seq ?_
    refine at_region ?_
    refine at_d rfl rfl (opr_move rfl rfl) ?_
    refine at_d rfl rfl (opr_move rfl rfl) ?_
    refine at_d rfl rfl (opr_indexAddrS (j := m) (off' := m) rfl rfl rfl Try.underlying30 hm size3 (by omega)) ?_
    refine at_d rfl rfl (opr_load1 (i := 2) rfl rfl rfl Try.underlying3 rfl (SlI_get hsI (by rw [List.getElem?_map, hd]; rfl) : s.cs[m]? = some (i64V d))) ?_
    refine at_d rfl rfl (opr_lssK rfl rfl rfl) ?_
    refine at_nil ?_
    refine at_then ?_
    refine at_cond rfl (fun hs => ?_) (fun hs => ?_)
    ·
      have hneg : d < 0 := of_decide_eq_true hs
      refine at_region ?_
      refine at_d rfl rfl (opr_load (i := 0) rfl rfl rfl Try.underlying27 rfl size27 (N_length _) (N_at _)) ?_
      refine at_d rfl rfl (opr_call rfl rfl rfl Try.func10 (by kernel_rfl) rfl (sScNeg_ct (abs_RR hdl))) ?_
      refine at_d rfl rfl (opr_store (i := 0) rfl rfl rfl rfl rfl size27 (N_length _) (by rw [N_length]; decide) (N_flat _) N_over) ?_
      refine at_nil ?_
      refine at_then ?_
      refine at_region ?_
      refine at_d rfl rfl (opr_load (i := 1) rfl rfl rfl Try.underlying27 rfl size27 (N_length _) (N_at _)) ?_
      refine at_d rfl rfl (opr_load (i := 0) rfl rfl rfl Try.underlying27 rfl size27 (N_length _) (N_at _)) ?_
      refine at_d rfl rfl (opr_call rfl rfl rfl Try.func8 (by kernel_rfl) rfl (sScAdd_ct (modq_RR _) (modq_RR _))) ?_
      refine at_d rfl rfl (opr_store (i := 1) rfl rfl rfl rfl rfl size27 (N_length _) (by rw [N_length]; decide) (N_flat _) N_over) ?_
      refine at_nil ?_
      rw [smod_stepN hd hneg]
      refine at_inBlock_normal ?_
      refine at_then ?_
      refine at_region ?_
      refine at_d rfl rfl (opr_move rfl rfl) ?_
      refine at_d rfl rfl (opr_subK (c := (m : Int) - 1) rfl rfl rfl (wrap_i64 _ (by omega) (by omega))) ?_
      refine at_d rfl rfl (opr_assign rfl rfl) ?_
      refine at_nil ?_
      exact at_round m (by omega) (by omega) (allIn ⟨rfl, rfl, rfl, rfl, rfl, rfl, trivial⟩) (by repeat (first | exact List.Sublist.refl _ | apply List.Sublist.cons_cons | apply List.Sublist.cons))
    ·
      have hneg : ¬ d < 0 := of_decide_eq_false hs
      refine at_skip ?_
      refine at_then ?_
      refine at_region ?_
      refine at_d rfl rfl (opr_load (i := 1) rfl rfl rfl Try.underlying27 rfl size27 (N_length _) (N_at _)) ?_
      refine at_d rfl rfl (opr_load (i := 0) rfl rfl rfl Try.underlying27 rfl size27 (N_length _) (N_at _)) ?_
      refine at_d rfl rfl (opr_call rfl rfl rfl Try.func8 (by kernel_rfl) rfl (sScAdd_ct (modq_RR _) (abs_RR hdl))) ?_
      refine at_d rfl rfl (opr_store (i := 1) rfl rfl rfl rfl rfl size27 (N_length _) (by rw [N_length]; decide) (N_flat _) N_over) ?_
      refine at_nil ?_
      rw [smod_stepP hd hneg]
      refine at_inBlock_normal ?_
      refine at_then ?_
      refine at_region ?_
      refine at_d rfl rfl (opr_move rfl rfl) ?_
      refine at_d rfl rfl (opr_subK (c := (m : Int) - 1) rfl rfl rfl (wrap_i64 _ (by omega) (by omega))) ?_
      refine at_d rfl rfl (opr_assign rfl rfl) ?_
      refine at_nil ?_
      exact at_round m (by omega) (by omega) (allIn ⟨rfl, rfl, rfl, rfl, rfl, rfl, trivial⟩) (by repeat (first | exact List.Sublist.refl _ | apply List.Sublist.cons_cons | apply List.Sublist.cons))
  ·
    obtain rfl : k = 0 := by have := of_decide_eq_false ht; omega
    rw [naf_sum hC h0 hq]
    refine at_exit ?_
    refine at_then_exit ?_
    refine at_then_exit ?_
    refine at_inBlock_same ?_
    refine at_then ?_
    refine at_seq ?_
    refine at_seq ?_
    refine at_region ?_
    refine at_d rfl rfl (opr_move rfl rfl) ?_
    refine at_d rfl rfl (opr_lenS (n := x) rfl rfl Try.underlying30) ?_
    refine at_d rfl rfl (opr_move rfl rfl) ?_
    refine at_nil ?_
    refine at_then ?_
    refine at_block ?_
    refine at_loop2 (fun (j : Nat) (l : Int) => [(1, .int .u64 (w : Int)), (2, .pointer (some ⟨g0, 0, none⟩)), (6, .int .i64 l), (7, .pointer (some ⟨g1, 0, none⟩)), (63, .slice (some ⟨s.g, 0, none⟩) x s.cap), (64, .int .i64 (x : Int)), (65, .int .i64 (j : Int))]) (fun (j : Nat) (l : Int) => ⟨g1, 27, N (K)⟩ :: ⟨s.g, 3, s.cs⟩ :: ⟨g0, 22, EE [K]⟩ :: M) (fun (j : Nat) (l : Int) => x - j) (fun (j : Nat) (l : Int) => j ≤ x ∧ LastI w (nafD w K x) j l) 0 (-(w : Int)) ⟨Nat.zero_le _, .inl rfl⟩ (allIn ⟨rfl, rfl, rfl, rfl, rfl, rfl, rfl, trivial⟩) (List.Sublist.refl _) ?_
    rintro i last ⟨hix, hL⟩
    dsimp only
    refine at_seq ?_
    refine at_region ?_
    refine at_d rfl rfl (opr_lss (a := i) (b := x) rfl rfl rfl) ?_
    refine at_nil ?_
    refine at_then ?_
    refine at_seq ?_
    refine at_cond rfl (fun ht => ?_) (fun ht => ?_)
    ·
      have hi : i < x := of_decide_eq_true ht
      obtain ⟨d, hd⟩ : ∃ d, (nafD w K x)[i]? = some d := ⟨_, List.getElem?_eq_getElem (by rw [nafD_length]; exact hi)⟩
      have hdl := hC.dlt hw16 hd
      refine at_skip ?_
      refine at_then ?_
      refine at_seq ?_
      refine at_block ?_
      refine at_seq ?_
      refine at_region ?_
      refine at_d rfl rfl (opr_move rfl rfl) ?_
      refine at_d rfl rfl (opr_indexAddrS (j := i) (off' := i) rfl rfl rfl Try.underlying30 hi size3 (by omega)) ?_
      refine at_d rfl rfl (opr_load1 (i := 1) rfl rfl rfl Try.underlying3 rfl (SlI_get hsI (by rw [List.getElem?_map, hd]; rfl) : s.cs[i]? = some (i64V d))) ?_
      refine at_d rfl rfl (opr_assign rfl rfl) ?_
      refine at_d rfl rfl (opr_assign rfl rfl) ?_
      refine at_nil ?_
      refine at_then ?_
      refine at_seq ?_
      refine at_seq ?_
      refine at_region ?_
      refine at_d rfl rfl (opr_move rfl rfl) ?_
      refine at_d rfl rfl (opr_eqlK rfl rfl rfl) ?_
      refine at_nil ?_
      refine at_then ?_
      refine at_cond rfl (fun hz => ?_) (fun hz => ?_)
      ·
        refine at_exit ?_
        refine at_then_exit ?_
        refine at_inBlock_same ?_
        refine at_then ?_
        refine at_region ?_
        refine at_d rfl rfl (opr_addI (a := i) (b := 1) rfl rfl rfl (by omega)) ?_
        refine at_d rfl rfl (opr_move rfl rfl) ?_
        refine at_nil ?_
        exact at_round2 (i + 1) last ⟨by omega, hL.next⟩ (by omega) (allIn ⟨rfl, rfl, rfl, rfl, rfl, rfl, rfl, trivial⟩) (List.Sublist.refl _)
      ·
        have hd0 : d ≠ 0 := of_decide_eq_false hz
        refine at_skip ?_
        refine at_then ?_
        refine at_seq ?_
        refine at_seq ?_
        refine at_region ?_
        refine at_d rfl rfl (opr_move rfl rfl) ?_
        refine at_d rfl rfl (opr_remZ rfl rfl rfl rfl) ?_
        refine at_d rfl rfl (opr_eq' (v' := .bool false) (opr_eqlK rfl rfl rfl) (congrArg Value.bool (decide_eq_false (naf_odd hC hd hd0).1))) ?_
        refine at_d rfl rfl (opr_move rfl rfl) ?_
        refine at_d rfl rfl (opr_move rfl rfl) ?_
        refine at_d rfl rfl (opr_move rfl rfl) ?_
        refine at_d rfl rfl (opr_eq' (opr_sub64 (a := w) (b := 1) rfl rfl rfl (by decide)) (u64_eq' (b := w - 1) (by omega))) ?_
        refine at_d rfl rfl (opr_shlK (a := 1) (n := w - 1) rfl rfl rfl (show w - 1 ≤ 64 by omega) (wrap_shl64 (by omega))) ?_
        refine at_d rfl rfl (opr_eq' (v' := .bool false) (opr_geqK rfl rfl rfl) (congrArg Value.bool (decide_eq_false (naf_odd hC hd hd0).2.1))) ?_
        refine at_d rfl rfl (opr_pickN rfl rfl rfl) ?_
        refine at_d rfl rfl (opr_move rfl rfl) ?_
        refine at_d rfl rfl (opr_move rfl rfl) ?_
        refine at_d rfl rfl (opr_move rfl rfl) ?_
        refine at_d rfl rfl (opr_eq' (opr_sub64 (a := w) (b := 1) rfl rfl rfl (by decide)) (u64_eq' (b := w - 1) (by omega))) ?_
        refine at_d rfl rfl (opr_shlK (a := -1) (n := w - 1) rfl rfl rfl (show w - 1 ≤ 64 by omega) (wrap_shl64n (by omega))) ?_
        refine at_d rfl rfl (opr_eq' (v' := .bool false) (opr_leqK rfl rfl rfl) (congrArg Value.bool (decide_eq_false (naf_odd hC hd hd0).2.2))) ?_
        refine at_d rfl rfl (opr_pickN rfl rfl rfl) ?_
        refine at_d rfl rfl (opr_move rfl rfl) ?_
        refine at_d rfl rfl (opr_move rfl rfl) ?_
        refine at_d rfl rfl (opr_move rfl rfl) ?_
        refine at_d rfl rfl (opr_subK (c := (i : Int) - last) rfl rfl rfl (wrap_i64 _ (by have := hL.bnd hw16; omega) (by have := hL.bnd hw16; omega))) ?_
        refine at_d rfl rfl (opr_move rfl rfl) ?_
        refine at_d rfl rfl (opr_toI (n := w) rfl rfl Try.underlying23 Try.underlying3 (by omega)) ?_
        refine at_d rfl rfl (opr_eq' (v' := .bool false) (opr_lssK rfl rfl rfl) (congrArg Value.bool (decide_eq_false (hL.gap hC hd hd0)))) ?_
        refine at_d rfl rfl (opr_pickN rfl rfl rfl) ?_
        refine at_nil ?_
        refine at_then ?_
        refine at_cond_false rfl ?_
        refine at_skip ?_
        refine at_then ?_
        refine at_region ?_
        refine at_d rfl rfl (opr_move rfl rfl) ?_
        refine at_d rfl rfl (opr_assign rfl rfl) ?_
        refine at_nil ?_
        refine at_inBlock_normal ?_
        refine at_then ?_
        refine at_region ?_
        refine at_d rfl rfl (opr_addI (a := i) (b := 1) rfl rfl rfl (by omega)) ?_
        refine at_d rfl rfl (opr_move rfl rfl) ?_
        refine at_nil ?_
        exact at_round2 (i + 1) (i : Int) ⟨by omega, .inr ⟨i, rfl, by omega, d, hd, hd0⟩⟩ (by omega) (allIn ⟨rfl, rfl, rfl, rfl, rfl, rfl, rfl, trivial⟩) (List.Sublist.refl _)
    ·
      refine at_exit ?_
      refine at_then_exit ?_
      refine at_then_exit ?_
      refine at_inBlock_same ?_
      refine at_then ?_
      refine at_seq ?_
      refine at_draw_one (by kernel_rfl) (by kernel_rfl) (n := 6) (vs0 := [.agg (N K).toArray, .agg (E K).toArray, .agg (N K).toArray, .bool true, .bool true, .agg (E 1).toArray, undef, .int .i64 ((1 : Nat) : Int), .bool true, .bool true, .bool true]) rfl (R9 := fun v M' => ∃ s2 : Sl, v = .slice (some ⟨s2.g, 0, none⟩) 1 s2.cap ∧ M' = ⟨s2.g, 3, s2.cs⟩ :: (⟨g1, 27, N (K)⟩ :: ⟨s.g, 3, s.cs⟩ :: ⟨g0, 22, EE [K]⟩ :: M)) ?_ ?_ ?_ (by decide) ?_
      · intro o ho
        obtain rfl := Option.some.inj ho
        exact ⟨rfl, .inl ⟨rfl, OpR.c (opr_call rfl rfl rfl Try.func7 (by kernel_rfl) rfl iNaf1_ct)⟩⟩
      · intro i o hio hne
        match i, hio, hne with
        | 0, hio, _ => obtain rfl := Option.some.inj hio; exact .inr ⟨rfl, .inl ⟨rfl, opr_load (i := 0) rfl rfl rfl Try.underlying27 rfl size27 (N_length _) (N_at _)⟩⟩
        | 1, hio, _ => obtain rfl := Option.some.inj hio; exact .inr ⟨rfl, .inl ⟨rfl, opr_load (i := 2) rfl rfl rfl Try.underlying22 rfl size22 (E_length _) (EE_at (k := 0) rfl rfl rfl)⟩⟩
        | 2, hio, _ => obtain rfl := Option.some.inj hio; exact .inr ⟨rfl, .inl ⟨rfl, opr_call rfl rfl rfl Try.func5 (by kernel_rfl) rfl (of_ct K)⟩⟩
        | 3, hio, _ => obtain rfl := Option.some.inj hio; exact .inr ⟨rfl, .inl ⟨rfl, opr_eqlNb (t := true) rfl rfl rfl Try.underlying27 Try.underlying25 size25 (by kernel_rfl) hK hK (decide_eq_true rfl)⟩⟩
        | 4, hio, _ => obtain rfl := Option.some.inj hio; exact .inr ⟨rfl, .inl ⟨rfl, opr_move rfl rfl⟩⟩
        | 5, hio, _ => obtain rfl := Option.some.inj hio; exact .inr ⟨rfl, .inl ⟨rfl, opr_buildE rfl rfl (builts22 1) (E_small (by decide))⟩⟩
        | 6, _, hne => exact absurd rfl hne
        | 7, _, _ => exact .inl (List.elem_iff.1 (by kernel_rfl))
        | 8, _, _ => exact .inl (List.elem_iff.1 (by kernel_rfl))
        | 9, _, _ => exact .inl (List.elem_iff.1 (by kernel_rfl))
        | 10, _, _ => exact .inl (List.elem_iff.1 (by kernel_rfl))
        | n + 11, hio, _ => exact absurd (List.getElem?_eq_some_iff.1 hio).1 (by simp)
      · rintro _ _ ⟨s2, rfl, rfl⟩ i o hio hne
        match i, hio, hne with
        | 0, hio, _ => obtain rfl := Option.some.inj hio; exact ⟨rfl, .inl ⟨rfl, opr_load (i := 1) rfl rfl rfl Try.underlying27 rfl size27 (N_length _) (N_at _)⟩⟩
        | 1, hio, _ => obtain rfl := Option.some.inj hio; exact ⟨rfl, .inl ⟨rfl, opr_load (i := 3) rfl rfl rfl Try.underlying22 rfl size22 (E_length _) (EE_at (k := 0) rfl rfl rfl)⟩⟩
        | 2, hio, _ => obtain rfl := Option.some.inj hio; exact ⟨rfl, .inl ⟨rfl, opr_call rfl rfl rfl Try.func5 (by kernel_rfl) rfl (of_ct K)⟩⟩
        | 3, hio, _ => obtain rfl := Option.some.inj hio; exact ⟨rfl, .inl ⟨rfl, opr_eqlNb (t := true) rfl rfl rfl Try.underlying27 Try.underlying25 size25 (by kernel_rfl) hK hK (decide_eq_true rfl)⟩⟩
        | 4, hio, _ => obtain rfl := Option.some.inj hio; exact ⟨rfl, .inl ⟨rfl, opr_move rfl rfl⟩⟩
        | 5, hio, _ => obtain rfl := Option.some.inj hio; exact ⟨rfl, .inl ⟨rfl, opr_buildE rfl rfl (builts22 1) (E_small (by decide))⟩⟩
        | 6, _, hne => exact absurd rfl hne
        | 7, hio, _ => obtain rfl := Option.some.inj hio; exact ⟨rfl, .inl ⟨rfl, opr_lenS (n := 1) rfl rfl Try.underlying30⟩⟩
        | 8, hio, _ => obtain rfl := Option.some.inj hio; exact ⟨rfl, .inl ⟨rfl, opr_eq' (v' := .bool true) (opr_gtr (a := 1) (b := 0) rfl rfl rfl) rfl⟩⟩
        | 9, hio, _ => obtain rfl := Option.some.inj hio; exact ⟨rfl, .inl ⟨rfl, opr_pickT rfl rfl rfl⟩⟩
        | 10, hio, _ => obtain rfl := Option.some.inj hio; exact ⟨rfl, .inl ⟨rfl, opr_assign rfl rfl⟩⟩
        | n + 11, hio, _ => exact absurd (List.getElem?_eq_some_iff.1 hio).1 (by simp)
      rintro _ _ ⟨s2, rfl, rfl⟩
      refine at_then ?_
      refine at_ret ?_
      refine done_of (res1 Try.results3 (res_tmp rfl)) ⟨rfl, rfl⟩ (by repeat (first | exact List.Sublist.refl _ | apply List.Sublist.cons))
theorem fnNAF_ct {M : Mem} {K w : Nat} (hK : K < RR) : Ct Try.prog 3 #[.agg (E K).toArray, .int .u64 (w : Int)] M (Det (.bool true) M) := by
  rcases Nat.lt_or_ge w 2 with hw | hw
  · exact nafA_ct hK hw
  · rcases Nat.lt_or_ge 16 w with hw16 | hw16
    · exact nafB_ct hK hw hw16
    · by_cases hq : K < qq
      · exact nafD_ct hK hw hw16 hq
      · exact nafC_ct hK hw hw16 hq
end Go.Proofs.Ytoagfplhcimghaa
