/- The reference's product. -/
import Derived.Test.YtflbkfjemmmipaaDoorScalC
import Derived.Test.YtflbkfjemmmipaaDoorSpecMul
import Derived.Test.YtflbkfjemmmipaaDoorCopy
namespace Go.Proofs.YtflbkfjemmmipaaDoor
open Go
set_option maxRecDepth 100000
theorem size51 : (Tryd.prog.info? 51).map (·.size) = some 56 := by kernel_rfl
theorem zero51 : (Tryd.prog.info? 51).bind (·.zero) = some (.agg (W (List.replicate 56 0)).toArray) := by kernel_rfl
theorem product_ct {M : Mem} {a b : Nat} (hb : b < 65536 ^ 28) : Ct Tryd.prog 34 #[.agg (N a).toArray, .agg (N b).toArray] M (fun v M' => ∃ l, v = .agg (W l).toArray ∧ PInv a b 28 0 l ∧ M' = M) := by
  refine ct_of (vs := [.agg (N a).toArray, .agg (N b).toArray]) Tryd.func34 rfl Tryd.ntmps34 rfl fun w0 => ?_
  refine at_seq ?_
  refine at_region ?_
  refine at_n rfl rfl (opr_box rfl rfl rfl) ?_
  intro g0
  refine at_n rfl rfl (opr_box rfl rfl rfl) ?_
  intro g1
  refine at_n rfl rfl (opr_alloc rfl zero51 rfl) ?_
  intro g2
  refine at_nil ?_
  refine at_then ?_
  refine at_seq ?_
  refine at_region ?_
  refine at_d rfl rfl (opr_build0 rfl zero51 rfl Tryd.underlying51 size23) ?_
  refine at_n rfl rfl (opr_alloc rfl zero51 rfl) ?_
  intro g3
  refine at_d rfl rfl (opr_store (i := 0) rfl rfl rfl rfl rfl size51 rfl (Nat.le_of_ble_eq_true rfl) (W_flat _) (W_over rfl)) ?_
  refine at_nil ?_
  refine at_then ?_
  refine at_seq ?_
  refine at_seq ?_
  refine at_region ?_
  refine at_d rfl rfl (opr_load (i := 3) rfl rfl rfl Tryd.underlying25 rfl size25 (N_length _) (N_at _)) ?_
  refine at_d rfl rfl (opr_move rfl rfl) ?_
  refine at_nil ?_
  refine at_then ?_
  refine at_block ?_
  refine at_loop2 (fun (x : Nat) (y : List Nat) => [(3, .pointer (some ⟨g1, 0, none⟩)), (4, .pointer (some ⟨g2, 0, none⟩)), (5, .pointer (some ⟨g3, 0, none⟩)), (11, .agg (N a).toArray), (12, .int .i64 (x : Int))]) (fun (x : Nat) (y : List Nat) => ⟨g3, 51, W (y)⟩ :: ⟨g2, 51, W (List.replicate 56 0)⟩ :: ⟨g1, 25, N (b)⟩ :: ⟨g0, 25, N (a)⟩ :: M) (fun (x : Nat) (y : List Nat) => 28 - x) (fun (x : Nat) (y : List Nat) => x ≤ 28 ∧ PInv a b x 0 y) 0 (List.replicate 56 0) ⟨Nat.zero_le _, pinv_zero⟩ (allIn ⟨rfl, rfl, rfl, rfl, rfl, trivial⟩) (List.Sublist.refl _) ?_
  rintro k l0 ⟨hk, hI⟩
  dsimp only
  refine at_seq ?_
  refine at_region ?_
  refine at_d rfl rfl (opr_lss (a := k) (b := 28) rfl rfl rfl) ?_
  refine at_nil ?_
  refine at_then ?_
  refine at_seq ?_
  refine at_cond rfl (fun ht => ?_) (fun ht => ?_)
  ·
    have hlt : k < 28 := of_decide_eq_true ht
    refine at_skip ?_
    refine at_then ?_
    refine at_seq ?_
    refine at_block ?_
    refine at_seq ?_
    refine at_region ?_
    refine at_d rfl rfl (opr_move rfl rfl) ?_
    refine at_d rfl rfl (opr_index1 (j := k) rfl rfl rfl Tryd.underlying25 hlt size23 Tryd.underlying23 rfl (W_get (digs_get 28 a k hlt))) ?_
    refine at_d rfl rfl (opr_assign rfl rfl) ?_
    refine at_d rfl rfl (opr_assign rfl rfl) ?_
    refine at_nil ?_
    refine at_then ?_
    refine at_seq ?_
    refine at_region ?_
    refine at_d rfl rfl (opr_load (i := 2) rfl rfl rfl Tryd.underlying25 rfl size25 (N_length _) (N_at _)) ?_
    refine at_d rfl rfl (opr_move rfl rfl) ?_
    refine at_nil ?_
    refine at_then ?_
    refine at_block ?_
    refine at_loop2 (fun (x : Nat) (y : List Nat) => [(3, .pointer (some ⟨g1, 0, none⟩)), (4, .pointer (some ⟨g2, 0, none⟩)), (5, .pointer (some ⟨g3, 0, none⟩)), (6, .int .i64 (k : Int)), (7, .int .u64 ((a / 65536 ^ k % 65536 : Nat) : Int)), (11, .agg (N a).toArray), (12, .int .i64 (k : Int)), (16, .agg (N b).toArray), (17, .int .i64 (x : Int))]) (fun (x : Nat) (y : List Nat) => ⟨g3, 51, W (y)⟩ :: ⟨g2, 51, W (List.replicate 56 0)⟩ :: ⟨g1, 25, N (b)⟩ :: ⟨g0, 25, N (a)⟩ :: M) (fun (x : Nat) (y : List Nat) => 28 - x) (fun (x : Nat) (y : List Nat) => x ≤ 28 ∧ PInv a b k x y) 0 l0 ⟨Nat.zero_le _, hI⟩ (allIn ⟨rfl, rfl, rfl, rfl, rfl, rfl, rfl, rfl, rfl, trivial⟩) (List.Sublist.refl _) ?_
    rintro j l ⟨hj, hJ⟩
    dsimp only
    refine at_seq ?_
    refine at_region ?_
    refine at_d rfl rfl (opr_lss (a := j) (b := 28) rfl rfl rfl) ?_
    refine at_nil ?_
    refine at_then ?_
    refine at_seq ?_
    refine at_cond rfl (fun ht2 => ?_) (fun ht2 => ?_)
    ·
      have hltj : j < 28 := of_decide_eq_true ht2
      refine at_skip ?_
      refine at_then ?_
      refine at_seq ?_
      refine at_block ?_
      refine at_seq ?_
      refine at_region ?_
      refine at_d rfl rfl (opr_move rfl rfl) ?_
      refine at_d rfl rfl (opr_index1 (j := j) rfl rfl rfl Tryd.underlying25 hltj size23 Tryd.underlying23 rfl (W_get (digs_get 28 b j hltj))) ?_
      refine at_d rfl rfl (opr_assign rfl rfl) ?_
      refine at_d rfl rfl (opr_assign rfl rfl) ?_
      refine at_nil ?_
      refine at_then ?_
      refine at_region ?_
      refine at_d rfl rfl (opr_move rfl rfl) ?_
      refine at_d rfl rfl (opr_move rfl rfl) ?_
      refine at_d rfl rfl (opr_addI (a := k) (b := j) rfl rfl rfl (by omega)) ?_
      refine at_d rfl rfl (opr_move rfl rfl) ?_
      refine at_d rfl rfl (opr_move rfl rfl) ?_
      refine at_d rfl rfl (opr_addI (a := k) (b := j) rfl rfl rfl (by omega)) ?_
      refine at_d rfl rfl (opr_indexAddr (j := k + j) (off' := k + j) rfl rfl rfl Tryd.underlying51 (by omega) size23 (by omega)) ?_
      refine at_d rfl rfl (opr_load1 (i := 0) rfl rfl rfl Tryd.underlying23 rfl (W_get (getD_some (by have := hJ.1; omega)))) ?_
      refine at_d rfl rfl (opr_move rfl rfl) ?_
      refine at_d rfl rfl (opr_move rfl rfl) ?_
      refine at_d rfl rfl (opr_mul64 rfl rfl rfl) ?_
      refine at_d rfl rfl (opr_eq (opr_add64 rfl rfl rfl) (u64_eq (pinv_small hlt hltj hJ))) ?_
      refine at_d rfl rfl (opr_indexAddr (j := k + j) (off' := k + j) rfl rfl rfl Tryd.underlying51 (by omega) size23 (by omega)) ?_
      refine at_d rfl rfl (opr_store (i := 0) rfl rfl rfl rfl rfl size23 rfl (by rw [W_length, hJ.1]; omega) flat_one (W_put (by rw [hJ.1]; omega) (rfl : _ = prow a b k j l))) ?_
      refine at_nil ?_
      refine at_inBlock_normal ?_
      refine at_then ?_
      refine at_region ?_
      refine at_d rfl rfl (opr_addI (a := j) (b := 1) rfl rfl rfl (by omega)) ?_
      refine at_d rfl rfl (opr_move rfl rfl) ?_
      refine at_nil ?_
      exact at_round2 (j + 1) (prow a b k j l) ⟨by omega, pinv_step hlt hltj hJ⟩ (by omega) (allIn ⟨rfl, rfl, rfl, rfl, rfl, rfl, rfl, rfl, rfl, trivial⟩) (List.Sublist.refl _)
    ·
      obtain rfl : j = 28 := by have := of_decide_eq_false ht2; omega
      refine at_exit ?_
      refine at_then_exit ?_
      refine at_then_exit ?_
      refine at_inBlock_same ?_
      refine at_inBlock_normal ?_
      refine at_then ?_
      refine at_region ?_
      refine at_d rfl rfl (opr_addI (a := k) (b := 1) rfl rfl rfl (by omega)) ?_
      refine at_d rfl rfl (opr_move rfl rfl) ?_
      refine at_nil ?_
      exact at_round2 (k + 1) l ⟨by omega, pinv_round hb hJ⟩ (by omega) (allIn ⟨rfl, rfl, rfl, rfl, rfl, trivial⟩) (List.Sublist.refl _)
  ·
    obtain rfl : k = 28 := by have := of_decide_eq_false ht; omega
    refine at_exit ?_
    refine at_then_exit ?_
    refine at_then_exit ?_
    refine at_inBlock_same ?_
    refine at_then ?_
    refine at_seq ?_
    refine at_region ?_
    refine at_d rfl rfl (opr_load (i := 0) rfl rfl rfl Tryd.underlying51 rfl size51 (by rw [W_length]; exact hI.1) (W_all hI.1)) ?_
    refine at_d rfl rfl (opr_store (i := 1) rfl rfl rfl rfl rfl size51 (by rw [W_length]; exact hI.1) (by rw [W_length]; exact Nat.le_refl _) (W_flat _) (W_over hI.1.symm)) ?_
    refine at_nil ?_
    refine at_then ?_
    refine at_ret ?_
    refine done_of (res1 Tryd.results34 (res_cell (i := 1) rfl rfl Tryd.underlying51 rfl size51 (by rw [W_length]; exact hI.1) (W_all hI.1))) ⟨l0, rfl, hI, rfl⟩ (by repeat (first | exact List.Sublist.refl _ | apply List.Sublist.cons))
end Go.Proofs.YtflbkfjemmmipaaDoor
