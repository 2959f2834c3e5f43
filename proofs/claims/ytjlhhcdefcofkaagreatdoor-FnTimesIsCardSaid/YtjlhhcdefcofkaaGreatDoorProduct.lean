/- The reference's product. -/
import Derived.Test.YtjlhhcdefcofkaaGreatDoorLaws3
import Derived.Test.YtjlhhcdefcofkaaGreatDoorSpecMul
import Derived.Test.YtjlhhcdefcofkaaGreatDoorCopyA
namespace Go.Proofs.YtjlhhcdefcofkaaGreatDoor
open Go
set_option maxRecDepth 100000
theorem size76 : (Tryz.prog.info? 76).map (·.size) = some 56 := by kernel_rfl
theorem size78 : (Tryz.prog.info? 78).map (·.size) = some 42 := by kernel_rfl
theorem zero76 : (Tryz.prog.info? 76).bind (·.zero) = some (.agg (W (List.replicate 56 0)).toArray) := by kernel_rfl
theorem zero78 : (Tryz.prog.info? 78).bind (·.zero) = some (.agg (W (List.replicate 42 0)).toArray) := by kernel_rfl
theorem product_ct {M : Mem} {a b : Nat} (hb : b < 65536 ^ 28) : Ct Tryz.prog 37 #[.agg (N a).toArray, .agg (N b).toArray] M (fun v M' => ∃ l, v = .agg (W l).toArray ∧ PInv a b 28 0 l ∧ M' = M) := by
  refine ct_of (vs := [.agg (N a).toArray, .agg (N b).toArray]) Tryz.func37 rfl Tryz.ntmps37 rfl fun w0 => ?_
  refine at_seq ?_
  refine at_region ?_
  refine at_n rfl rfl (opr_box rfl rfl rfl) ?_
  intro g0
  refine at_n rfl rfl (opr_box rfl rfl rfl) ?_
  intro g1
  refine at_n rfl rfl (opr_alloc rfl zero76 rfl) ?_
  intro g2
  refine at_nil ?_
  refine at_then ?_
  refine at_seq ?_
  refine at_region ?_
  refine at_d rfl rfl (opr_build0 rfl zero76 rfl Tryz.underlying76 size29) ?_
  refine at_n rfl rfl (opr_alloc rfl zero76 rfl) ?_
  intro g3
  refine at_d rfl rfl (opr_store (i := 0) rfl rfl rfl rfl rfl size76 rfl (Nat.le_of_ble_eq_true rfl) (W_flat _) (W_over rfl)) ?_
  refine at_nil ?_
  refine at_then ?_
  refine at_seq ?_
  refine at_seq ?_
  refine at_region ?_
  refine at_d rfl rfl (opr_load (i := 3) rfl rfl rfl Tryz.underlying31 rfl size31 (N_length _) (N_at _)) ?_
  refine at_d rfl rfl (opr_move rfl rfl) ?_
  refine at_nil ?_
  refine at_then ?_
  refine at_block ?_
  refine at_loop2 (fun (x : Nat) (y : List Nat) => [(3, .pointer (some ⟨g1, 0, none⟩)), (4, .pointer (some ⟨g2, 0, none⟩)), (5, .pointer (some ⟨g3, 0, none⟩)), (11, .agg (N a).toArray), (12, .int .i64 (x : Int))]) (fun (x : Nat) (y : List Nat) => ⟨g3, 76, W (y)⟩ :: ⟨g2, 76, W (List.replicate 56 0)⟩ :: ⟨g1, 31, N (b)⟩ :: ⟨g0, 31, N (a)⟩ :: M) (fun (x : Nat) (y : List Nat) => 28 - x) (fun (x : Nat) (y : List Nat) => x ≤ 28 ∧ PInv a b x 0 y) 0 (List.replicate 56 0) ⟨Nat.zero_le _, pinv_zero⟩ (allIn ⟨rfl, rfl, rfl, rfl, rfl, trivial⟩) (List.Sublist.refl _) ?_
  rintro k l0 ⟨hk, hI⟩
  dsimp only
  refine at_seq ?_
  refine at_region ?_
  refine at_d rfl rfl (opr_lss (a := k) (b := 28) rfl rfl rfl) ?_
  refine at_nil ?_
  refine at_then ?_
  refine at_seq ?_
  refine at_cond rfl (fun ht => ?_) (fun ht => ?_)
  ·
    have hlt : k < 28 := of_decide_eq_true ht
    refine at_skip ?_
    refine at_then ?_
    refine at_seq ?_
    refine at_block ?_
    refine at_seq ?_
    refine at_region ?_
    refine at_d rfl rfl (opr_move rfl rfl) ?_
    refine at_d rfl rfl (opr_index1 (j := k) rfl rfl rfl Tryz.underlying31 hlt size29 Tryz.underlying29 rfl (W_get (digs_get 28 a k hlt))) ?_
    refine at_d rfl rfl (opr_assign rfl rfl) ?_
    refine at_d rfl rfl (opr_assign rfl rfl) ?_
    refine at_nil ?_
    refine at_then ?_
    refine at_seq ?_
    refine at_region ?_
    refine at_d rfl rfl (opr_load (i := 2) rfl rfl rfl Tryz.underlying31 rfl size31 (N_length _) (N_at _)) ?_
    refine at_d rfl rfl (opr_move rfl rfl) ?_
    refine at_nil ?_
    refine at_then ?_
    refine at_block ?_
    refine at_loop2 (fun (x : Nat) (y : List Nat) => [(3, .pointer (some ⟨g1, 0, none⟩)), (4, .pointer (some ⟨g2, 0, none⟩)), (5, .pointer (some ⟨g3, 0, none⟩)), (6, .int .i64 (k : Int)), (7, .int .u64 ((a / 65536 ^ k % 65536 : Nat) : Int)), (11, .agg (N a).toArray), (12, .int .i64 (k : Int)), (16, .agg (N b).toArray), (17, .int .i64 (x : Int))]) (fun (x : Nat) (y : List Nat) => ⟨g3, 76, W (y)⟩ :: ⟨g2, 76, W (List.replicate 56 0)⟩ :: ⟨g1, 31, N (b)⟩ :: ⟨g0, 31, N (a)⟩ :: M) (fun (x : Nat) (y : List Nat) => 28 - x) (fun (x : Nat) (y : List Nat) => x ≤ 28 ∧ PInv a b k x y) 0 l0 ⟨Nat.zero_le _, hI⟩ (allIn ⟨rfl, rfl, rfl, rfl, rfl, rfl, rfl, rfl, rfl, trivial⟩) (List.Sublist.refl _) ?_
    rintro j l ⟨hj, hJ⟩
    dsimp only
    refine at_seq ?_
    refine at_region ?_
    refine at_d rfl rfl (opr_lss (a := j) (b := 28) rfl rfl rfl) ?_
    refine at_nil ?_
    refine at_then ?_
    refine at_seq ?_
    refine at_cond rfl (fun ht2 => ?_) (fun ht2 => ?_)
    ·
      have hltj : j < 28 := of_decide_eq_true ht2
      refine at_skip ?_
      refine at_then ?_
      refine at_seq ?_
      refine at_block ?_
      refine at_seq ?_
      refine at_region ?_
      refine at_d rfl rfl (opr_move rfl rfl) ?_
      refine at_d rfl rfl (opr_index1 (j := j) rfl rfl rfl Tryz.underlying31 hltj size29 Tryz.underlying29 rfl (W_get (digs_get 28 b j hltj))) ?_
      refine at_d rfl rfl (opr_assign rfl rfl) ?_
      refine at_d rfl rfl (opr_assign rfl rfl) ?_
      refine at_nil ?_
      refine at_then ?_
      refine at_region ?_
      refine at_d rfl rfl (opr_move rfl rfl) ?_
      refine at_d rfl rfl (opr_move rfl rfl) ?_
      refine at_d rfl rfl (opr_addI (a := k) (b := j) rfl rfl rfl (by omega)) ?_
      refine at_d rfl rfl (opr_move rfl rfl) ?_
      refine at_d rfl rfl (opr_move rfl rfl) ?_
      refine at_d rfl rfl (opr_addI (a := k) (b := j) rfl rfl rfl (by omega)) ?_
      refine at_d rfl rfl (opr_indexAddr (j := k + j) (off' := k + j) rfl rfl rfl Tryz.underlying76 (by omega) size29 (by omega)) ?_
      refine at_d rfl rfl (opr_load1 (i := 0) rfl rfl rfl Tryz.underlying29 rfl (W_get (getD_some (by have := hJ.1; omega)))) ?_
      refine at_d rfl rfl (opr_move rfl rfl) ?_
      refine at_d rfl rfl (opr_move rfl rfl) ?_
      refine at_d rfl rfl (opr_mul64 rfl rfl rfl) ?_
      refine at_d rfl rfl (opr_eq (opr_add64 rfl rfl rfl) (u64_eq (pinv_small hlt hltj hJ))) ?_
      refine at_d rfl rfl (opr_indexAddr (j := k + j) (off' := k + j) rfl rfl rfl Tryz.underlying76 (by omega) size29 (by omega)) ?_
      refine at_d rfl rfl (opr_store (i := 0) rfl rfl rfl rfl rfl size29 rfl (by rw [W_length, hJ.1]; omega) flat_one (W_put (by rw [hJ.1]; omega) (rfl : _ = prow a b k j l))) ?_
      refine at_nil ?_
      refine at_inBlock_normal ?_
      refine at_then ?_
      refine at_region ?_
      refine at_d rfl rfl (opr_addI (a := j) (b := 1) rfl rfl rfl (by omega)) ?_
      refine at_d rfl rfl (opr_move rfl rfl) ?_
      refine at_nil ?_
      exact at_round2 (j + 1) (prow a b k j l) ⟨by omega, pinv_step hlt hltj hJ⟩ (by omega) (allIn ⟨rfl, rfl, rfl, rfl, rfl, rfl, rfl, rfl, rfl, trivial⟩) (List.Sublist.refl _)
    ·
      obtain rfl : j = 28 := by have := of_decide_eq_false ht2; omega
      refine at_exit ?_
      refine at_then_exit ?_
      refine at_then_exit ?_
      refine at_inBlock_same ?_
      refine at_inBlock_normal ?_
      refine at_then ?_
      refine at_region ?_
      refine at_d rfl rfl (opr_addI (a := k) (b := 1) rfl rfl rfl (by omega)) ?_
      refine at_d rfl rfl (opr_move rfl rfl) ?_
      refine at_nil ?_
      exact at_round2 (k + 1) l ⟨by omega, pinv_round hb hJ⟩ (by omega) (allIn ⟨rfl, rfl, rfl, rfl, rfl, trivial⟩) (List.Sublist.refl _)
  ·
    obtain rfl : k = 28 := by have := of_decide_eq_false ht; omega
    refine at_exit ?_
    refine at_then_exit ?_
    refine at_then_exit ?_
    refine at_inBlock_same ?_
    refine at_then ?_
    refine at_seq ?_
    refine at_region ?_
    refine at_d rfl rfl (opr_load (i := 0) rfl rfl rfl Tryz.underlying76 rfl size76 (by rw [W_length]; exact hI.1) (W_all hI.1)) ?_
    refine at_d rfl rfl (opr_store (i := 1) rfl rfl rfl rfl rfl size76 (by rw [W_length]; exact hI.1) (by rw [W_length]; exact Nat.le_refl _) (W_flat _) (W_over hI.1.symm)) ?_
    refine at_nil ?_
    refine at_then ?_
    refine at_ret ?_
    refine done_of (res1 Tryz.results37 (res_cell (i := 1) rfl rfl Tryz.underlying76 rfl size76 (by rw [W_length]; exact hI.1) (W_all hI.1))) ⟨l0, rfl, hI, rfl⟩ (by repeat (first | exact List.Sublist.refl _ | apply List.Sublist.cons))
theorem sMul_ct {M : Mem} {a b : Nat} (ha : a < RR) (hb : b < RR) : Ct Tryz.prog 24 #[.agg (N a).toArray, .agg (N b).toArray] M (Det (.agg (N (a * b % pp)).toArray) M) := by
  refine ct_of (vs := [.agg (N a).toArray, .agg (N b).toArray]) Tryz.func24 rfl Tryz.ntmps24 rfl fun w0 => ?_
  refine at_seq ?_
  refine at_region ?_
  refine at_n rfl rfl (opr_box rfl rfl rfl) ?_
  intro g0
  refine at_n rfl rfl (opr_box rfl rfl rfl) ?_
  intro g1
  refine at_n rfl rfl (opr_alloc rfl zero31 rfl) ?_
  intro g2
  refine at_nil ?_
  refine at_then ?_
  refine at_seq ?_
  refine at_region ?_
  refine at_d rfl rfl (opr_load (i := 2) rfl rfl rfl Tryz.underlying31 rfl size31 (N_length _) (N_at _)) ?_
  refine at_d rfl rfl (opr_load (i := 1) rfl rfl rfl Tryz.underlying31 rfl size31 (N_length _) (N_at _)) ?_
  refine at_c rfl rfl (opr_call rfl rfl rfl Tryz.func37 (by kernel_rfl) rfl (product_ct (Nat.lt_of_lt_of_le hb (by decide)))) ?_
  rintro _ _ ⟨l0, rfl, hP, rfl⟩
  obtain ⟨hl0, hD0, hv0⟩ := pinv_end (Nat.lt_of_lt_of_le ha (by decide)) hP
  refine at_n rfl rfl (opr_alloc rfl zero76 rfl) ?_
  intro g3
  refine at_d rfl rfl (opr_store (i := 0) rfl rfl rfl rfl rfl size76 (by rw [W_length]; exact hl0) (by rw [W_length]; exact Nat.le_refl _) (W_flat _) (W_over (hl0.symm : (List.replicate 56 0).length = _))) ?_
  refine at_nil ?_
  refine at_then ?_
  refine at_seq ?_
  refine at_region ?_
  refine at_d rfl rfl (opr_build0 rfl zero78 rfl Tryz.underlying78 size29) ?_
  refine at_n rfl rfl (opr_alloc rfl zero78 rfl) ?_
  intro g4
  refine at_d rfl rfl (opr_store (i := 0) rfl rfl rfl rfl rfl size78 rfl (Nat.le_of_ble_eq_true rfl) (W_flat _) (W_over rfl)) ?_
  refine at_nil ?_
  refine at_then ?_
  refine at_seq ?_
  refine at_draw (by kernel_rfl) (by kernel_rfl) (by kernel_rfl) (List.cons_ne_nil _ _) ?_
  refine dr_op rfl rfl (opr_sliceAll rfl rfl Tryz.underlying78 rfl size29) ?_
  refine dr_op rfl rfl (opr_sliceHi (b := 28) rfl rfl rfl Tryz.underlying76 (by decide) (by decide) size29) ?_
  refine dr_last rfl rfl (opr_copy (i := 0) (j := 1) (n := 28) rfl rfl rfl rfl rfl Tryz.underlying79 size29 rfl (W_head hl0 (by decide)).1 (W_head hl0 (by decide)).2.1 (Nat.le_of_ble_eq_true rfl) (W_flat _) (W_head hl0 (by decide)).2.2) ?_
  refine at_then ?_
  refine at_seq ?_
  refine at_seq ?_
  refine at_region ?_
  refine at_d rfl rfl (opr_sliceLo (a := 28) rfl rfl rfl Tryz.underlying76 (by decide) size29 rfl) ?_
  refine at_d rfl rfl (opr_lenS rfl rfl Tryz.underlying79) ?_
  refine at_d rfl rfl (opr_move rfl rfl) ?_
  refine at_nil ?_
  refine at_then ?_
  refine at_block ?_
  refine at_loop2 (fun (x : Nat) (y : List Nat) => [(4, .pointer (some ⟨g2, 0, none⟩)), (6, .pointer (some ⟨g4, 0, none⟩)), (19, .slice (some ⟨g3, 28, none⟩) 28 28), (20, .int .i64 (28 : Int)), (21, .int .i64 (x : Int))]) (fun (x : Nat) (y : List Nat) => ⟨g4, 78, W (y)⟩ :: ⟨g3, 76, W (l0)⟩ :: ⟨g2, 31, N (0)⟩ :: ⟨g1, 31, N (b)⟩ :: ⟨g0, 31, N (a)⟩ :: M) (fun (x : Nat) (y : List Nat) => 28 - x) (fun (x : Nat) (y : List Nat) => x ≤ 28 ∧ FInv l0 42 x 3367151600400 y) 0 (l0.take 28 ++ List.replicate 14 0) ⟨Nat.zero_le _, finv_start hl0 hD0⟩ (allIn ⟨rfl, rfl, rfl, rfl, rfl, trivial⟩) (List.Sublist.refl _) ?_
  rintro k l ⟨hk, hF⟩
  dsimp only
  refine at_seq ?_
  refine at_region ?_
  refine at_d rfl rfl (opr_lss (a := k) (b := 28) rfl rfl rfl) ?_
  refine at_nil ?_
  refine at_then ?_
  refine at_seq ?_
  refine at_cond rfl (fun ht => ?_) (fun ht => ?_)
  ·
    have hlt : k < 28 := of_decide_eq_true ht
    refine at_skip ?_
    refine at_then ?_
    refine at_seq ?_
    refine at_block ?_
    refine at_seq ?_
    refine at_region ?_
    refine at_d rfl rfl (opr_move rfl rfl) ?_
    refine at_d rfl rfl (opr_indexAddrS (j := k) (off' := 28 + k) rfl rfl rfl Tryz.underlying79 hlt size29 (by rw [Nat.mul_one])) ?_
    refine at_d rfl rfl (opr_load1 (i := 1) rfl rfl rfl Tryz.underlying29 rfl (W_get (getD_some (by rw [hl0]; omega)))) ?_
    refine at_d rfl rfl (opr_assign rfl rfl) ?_
    refine at_d rfl rfl (opr_assign rfl rfl) ?_
    refine at_nil ?_
    refine at_then ?_
    refine at_seq ?_
    refine at_region ?_
    refine at_d rfl rfl (opr_move rfl rfl) ?_
    refine at_d rfl rfl (opr_move rfl rfl) ?_
    refine at_d rfl rfl (opr_indexAddr (j := k) (off' := k) rfl rfl rfl Tryz.underlying78 (by omega) size29 (by omega)) ?_
    refine at_d rfl rfl (opr_load1 (i := 0) rfl rfl rfl Tryz.underlying29 rfl (W_get (getD_some (by rw [hF.1]; omega)))) ?_
    refine at_d rfl rfl (opr_move rfl rfl) ?_
    refine at_d rfl rfl (opr_eq (opr_add64 rfl rfl rfl) (u64_eq (finv_small (by omega) (by omega) (by decide) (drop_getD (by rw [hl0]; omega)) hD0 hF).1)) ?_
    refine at_d rfl rfl (opr_indexAddr (j := k) (off' := k) rfl rfl rfl Tryz.underlying78 (by omega) size29 (by omega)) ?_
    refine at_d rfl rfl (opr_store (i := 0) rfl rfl rfl rfl rfl size29 rfl (by rw [W_length, hF.1]; omega) flat_one (W_put (by rw [hF.1]; omega) rfl)) ?_
    refine at_nil ?_
    refine at_then ?_
    refine at_region ?_
    refine at_d rfl rfl (opr_move rfl rfl) ?_
    refine at_d rfl rfl (opr_addI (a := k) (b := 14) rfl rfl rfl (by omega)) ?_
    refine at_d rfl rfl (opr_move rfl rfl) ?_
    refine at_d rfl rfl (opr_addI (a := k) (b := 14) rfl rfl rfl (by omega)) ?_
    refine at_d rfl rfl (opr_indexAddr (j := k + 14) (off' := k + 14) rfl rfl rfl Tryz.underlying78 (by omega) size29 (by omega)) ?_
    refine at_d rfl rfl (opr_load1 (i := 0) rfl rfl rfl Tryz.underlying29 rfl (W_get (getD_some (by rw [List.length_set, hF.1]; omega)))) ?_
    refine at_d rfl rfl (opr_move rfl rfl) ?_
    refine at_d rfl rfl (opr_eq (opr_add64 rfl rfl rfl) (u64_eq (finv_small (by omega) (by omega) (by decide) (drop_getD (by rw [hl0]; omega)) hD0 hF).2)) ?_
    refine at_d rfl rfl (opr_indexAddr (j := k + 14) (off' := k + 14) rfl rfl rfl Tryz.underlying78 (by omega) size29 (by omega)) ?_
    refine at_d rfl rfl (opr_store (i := 0) rfl rfl rfl rfl rfl size29 rfl (by rw [W_length, List.length_set, hF.1]; omega) flat_one (W_put (by rw [List.length_set, hF.1]; omega) (rfl : _ = frow k (l0.getD (28 + k) 0) l))) ?_
    refine at_nil ?_
    refine at_inBlock_normal ?_
    refine at_then ?_
    refine at_region ?_
    refine at_d rfl rfl (opr_addI (a := k) (b := 1) rfl rfl rfl (by omega)) ?_
    refine at_d rfl rfl (opr_move rfl rfl) ?_
    refine at_nil ?_
    exact at_round2 (k + 1) (frow k (l0.getD (28 + k) 0) l) ⟨by omega, finv_step (by omega) (drop_getD (by rw [hl0]; omega)) hD0 hF⟩ (by omega) (allIn ⟨rfl, rfl, rfl, rfl, rfl, trivial⟩) (List.Sublist.refl _)
  ·
    obtain rfl : k = 28 := by have := of_decide_eq_false ht; omega
    have hD1 : ∀ d ∈ l, d ≤ 191927641222800 := fun d hd => Nat.le_trans (hF.2.1 d hd) (by decide)
    refine at_exit ?_
    refine at_then_exit ?_
    refine at_then_exit ?_
    refine at_inBlock_same ?_
    refine at_then ?_
    refine at_seq ?_
    refine at_region ?_
    refine at_d rfl rfl (opr_build0 rfl zero31 rfl Tryz.underlying31 size29) ?_
    refine at_n rfl rfl (opr_alloc rfl zero31 rfl) ?_
    intro g5
    refine at_d rfl rfl (opr_store (i := 0) rfl rfl rfl rfl rfl size31 rfl (Nat.le_of_ble_eq_true rfl) (W_flat _) (W_over rfl)) ?_
    refine at_nil ?_
    refine at_then ?_
    refine at_seq ?_
    refine at_draw (by kernel_rfl) (by kernel_rfl) (by kernel_rfl) (List.cons_ne_nil _ _) ?_
    refine dr_op rfl rfl (opr_sliceAll rfl rfl Tryz.underlying31 rfl size29) ?_
    refine dr_op rfl rfl (opr_sliceHi (b := 28) rfl rfl rfl Tryz.underlying78 (by decide) (by decide) size29) ?_
    refine dr_last rfl rfl (opr_copy (i := 0) (j := 1) (n := 28) rfl rfl rfl rfl rfl Tryz.underlying79 size29 rfl (W_head2 hF.1 (by decide)).1 (W_head2 hF.1 (by decide)).2.1 (Nat.le_of_ble_eq_true rfl) (W_flat _) (W_head2 hF.1 (by decide)).2.2) ?_
    refine at_then ?_
    refine at_seq ?_
    refine at_seq ?_
    refine at_region ?_
    refine at_d rfl rfl (opr_sliceLo (a := 28) rfl rfl rfl Tryz.underlying78 (by decide) size29 rfl) ?_
    refine at_d rfl rfl (opr_lenS rfl rfl Tryz.underlying79) ?_
    refine at_d rfl rfl (opr_move rfl rfl) ?_
    refine at_nil ?_
    refine at_then ?_
    refine at_block ?_
    refine at_loop2 (fun (x : Nat) (y : List Nat) => [(4, .pointer (some ⟨g2, 0, none⟩)), (9, .pointer (some ⟨g5, 0, none⟩)), (47, .slice (some ⟨g4, 28, none⟩) 14 14), (48, .int .i64 (14 : Int)), (49, .int .i64 (x : Int))]) (fun (x : Nat) (y : List Nat) => ⟨g5, 31, W (y)⟩ :: ⟨g4, 78, W (l)⟩ :: ⟨g3, 76, W (l0)⟩ :: ⟨g2, 31, N (0)⟩ :: ⟨g1, 31, N (b)⟩ :: ⟨g0, 31, N (a)⟩ :: M) (fun (x : Nat) (y : List Nat) => 14 - x) (fun (x : Nat) (y : List Nat) => x ≤ 14 ∧ FInv l 28 x 191927641222800 y) 0 (l.take 28) ⟨Nat.zero_le _, finv_start2 hF.1 hD1⟩ (allIn ⟨rfl, rfl, rfl, rfl, rfl, trivial⟩) (List.Sublist.refl _) ?_
    rintro j l2 ⟨hj, hG⟩
    dsimp only
    refine at_seq ?_
    refine at_region ?_
    refine at_d rfl rfl (opr_lss (a := j) (b := 14) rfl rfl rfl) ?_
    refine at_nil ?_
    refine at_then ?_
    refine at_seq ?_
    refine at_cond rfl (fun ht2 => ?_) (fun ht2 => ?_)
    ·
      have hltj : j < 14 := of_decide_eq_true ht2
      refine at_skip ?_
      refine at_then ?_
      refine at_seq ?_
      refine at_block ?_
      refine at_seq ?_
      refine at_region ?_
      refine at_d rfl rfl (opr_move rfl rfl) ?_
      refine at_d rfl rfl (opr_indexAddrS (j := j) (off' := 28 + j) rfl rfl rfl Tryz.underlying79 hltj size29 (by rw [Nat.mul_one])) ?_
      refine at_d rfl rfl (opr_load1 (i := 1) rfl rfl rfl Tryz.underlying29 rfl (W_get (getD_some (by rw [hF.1]; omega)))) ?_
      refine at_d rfl rfl (opr_assign rfl rfl) ?_
      refine at_d rfl rfl (opr_assign rfl rfl) ?_
      refine at_nil ?_
      refine at_then ?_
      refine at_seq ?_
      refine at_region ?_
      refine at_d rfl rfl (opr_move rfl rfl) ?_
      refine at_d rfl rfl (opr_move rfl rfl) ?_
      refine at_d rfl rfl (opr_indexAddr (j := j) (off' := j) rfl rfl rfl Tryz.underlying31 (by omega) size29 (by omega)) ?_
      refine at_d rfl rfl (opr_load1 (i := 0) rfl rfl rfl Tryz.underlying29 rfl (W_get (getD_some (by rw [hG.1]; omega)))) ?_
      refine at_d rfl rfl (opr_move rfl rfl) ?_
      refine at_d rfl rfl (opr_eq (opr_add64 rfl rfl rfl) (u64_eq (finv_small (by omega) (by omega) (by decide) (drop_getD (by rw [hF.1]; omega)) hD1 hG).1)) ?_
      refine at_d rfl rfl (opr_indexAddr (j := j) (off' := j) rfl rfl rfl Tryz.underlying31 (by omega) size29 (by omega)) ?_
      refine at_d rfl rfl (opr_store (i := 0) rfl rfl rfl rfl rfl size29 rfl (by rw [W_length, hG.1]; omega) flat_one (W_put (by rw [hG.1]; omega) rfl)) ?_
      refine at_nil ?_
      refine at_then ?_
      refine at_region ?_
      refine at_d rfl rfl (opr_move rfl rfl) ?_
      refine at_d rfl rfl (opr_addI (a := j) (b := 14) rfl rfl rfl (by omega)) ?_
      refine at_d rfl rfl (opr_move rfl rfl) ?_
      refine at_d rfl rfl (opr_addI (a := j) (b := 14) rfl rfl rfl (by omega)) ?_
      refine at_d rfl rfl (opr_indexAddr (j := j + 14) (off' := j + 14) rfl rfl rfl Tryz.underlying31 (by omega) size29 (by omega)) ?_
      refine at_d rfl rfl (opr_load1 (i := 0) rfl rfl rfl Tryz.underlying29 rfl (W_get (getD_some (by rw [List.length_set, hG.1]; omega)))) ?_
      refine at_d rfl rfl (opr_move rfl rfl) ?_
      refine at_d rfl rfl (opr_eq (opr_add64 rfl rfl rfl) (u64_eq (finv_small (by omega) (by omega) (by decide) (drop_getD (by rw [hF.1]; omega)) hD1 hG).2)) ?_
      refine at_d rfl rfl (opr_indexAddr (j := j + 14) (off' := j + 14) rfl rfl rfl Tryz.underlying31 (by omega) size29 (by omega)) ?_
      refine at_d rfl rfl (opr_store (i := 0) rfl rfl rfl rfl rfl size29 rfl (by rw [W_length, List.length_set, hG.1]; omega) flat_one (W_put (by rw [List.length_set, hG.1]; omega) (rfl : _ = frow j (l.getD (28 + j) 0) l2))) ?_
      refine at_nil ?_
      refine at_inBlock_normal ?_
      refine at_then ?_
      refine at_region ?_
      refine at_d rfl rfl (opr_addI (a := j) (b := 1) rfl rfl rfl (by omega)) ?_
      refine at_d rfl rfl (opr_move rfl rfl) ?_
      refine at_nil ?_
      exact at_round2 (j + 1) (frow j (l.getD (28 + j) 0) l2) ⟨by omega, finv_step (by omega) (drop_getD (by rw [hF.1]; omega)) hD1 hG⟩ (by omega) (allIn ⟨rfl, rfl, rfl, rfl, rfl, trivial⟩) (List.Sublist.refl _)
    ·
      obtain rfl : j = 14 := by have := of_decide_eq_false ht2; omega
      refine at_exit ?_
      refine at_then_exit ?_
      refine at_then_exit ?_
      refine at_inBlock_same ?_
      refine at_then ?_
      refine at_seq ?_
      refine at_region ?_
      refine at_d rfl rfl (opr_load (i := 0) rfl rfl rfl Tryz.underlying31 rfl size31 (by rw [W_length]; exact hG.1) (W_all hG.1)) ?_
      refine at_d rfl rfl (opr_call rfl rfl rfl Tryz.func38 (by kernel_rfl) rfl (settle_ct hG.1 (fun d hd => Nat.le_trans (hG.2.1 d hd) (by decide)))) ?_
      refine at_d rfl rfl (opr_store (i := 3) rfl rfl rfl rfl rfl size31 (N_length _) (by rw [N_length]; decide) (N_flat _) N_over) ?_
      refine at_nil ?_
      refine at_then ?_
      refine at_ret ?_
      refine done_of (res1 Tryz.results24 (res_cell (i := 3) rfl rfl Tryz.underlying31 rfl size31 (N_length _) (N_at _))) ⟨?_, rfl⟩ (by repeat (first | exact List.Sublist.refl _ | apply List.Sublist.cons))
      rw [finv_end (by rw [hF.1]) hG, finv_end (by rw [hl0]) hF, hv0]
end Go.Proofs.YtjlhhcdefcofkaaGreatDoor
