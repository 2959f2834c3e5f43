/- The reference's functions on numbers. -/
import Derived.Test.YtjlhhcdefcofkaaGreatDoorFp
import Derived.Test.YtjlhhcdefcofkaaGreatDoorSpecPlain
namespace Go.Proofs.YtjlhhcdefcofkaaGreatDoor
open Go
set_option maxRecDepth 100000
theorem size22 : (Tryz.prog.info? 22).map (·.size) = some 56 := by kernel_rfl
theorem size29 : (Tryz.prog.info? 29).map (·.size) = some 1 := by kernel_rfl
theorem size31 : (Tryz.prog.info? 31).map (·.size) = some 28 := by kernel_rfl
theorem zero31 : (Tryz.prog.info? 31).bind (·.zero) = some (.agg (N (0)).toArray) := by kernel_rfl
theorem of_end (n : Nat) : N (n % 256 ^ 56) = N n := by
  have : (256 : Nat) ^ 56 = 65536 ^ 28 := by rw [show (65536 : Nat) = 256 ^ 2 from rfl, ← Nat.pow_mul]
  rw [N, N, this, digs_mod]
theorem bytes_end (n : Nat) : E (n % 256 ^ 56) = E n := by rw [E, E, digs_mod]
theorem opr_eq {P : Program} {St : Slots} {M M' : Mem} {o : Oper} {v v' : Value} (h : OpR P St M o (Det v M')) (e : v = v') : OpR P St M o (Det v' M') := e ▸ h
theorem u64_eq {a b : Nat} (h : a = b) : Value.int .u64 (a : Int) = Value.int .u64 (b : Int) := congrArg (fun n : Nat => Value.int .u64 (n : Int)) h
theorem midr_zero (l : List Nat) : midr l 0 = 0 := by simp [midr, dval]
theorem midc_zero (l : List Nat) : midc l 0 = l := by simp [midc, digs]
def pass1 (l : List Nat) : List Nat := (midc l 28).set 0 (dval 65536 l % RR % 65536 + midr l 28)
theorem mid28_get {l : List Nat} (hl : l.length = 28) : (midc l 28)[0]? = some (dval 65536 l % RR % 65536) := by
  rw [(mid_end hl).1, digs_get 28 _ 0 (by decide), Nat.pow_zero, Nat.div_one]
theorem pass1_length {l : List Nat} (hl : l.length = 28) : (pass1 l).length = 28 := by rw [pass1, List.length_set, midc_length hl (Nat.le_refl _)]
theorem pass1_get {l : List Nat} (hl : l.length = 28) : (pass1 l)[14]? = some (dval 65536 l % RR / 65536 ^ 14 % 65536) := by
  rw [pass1, List.getElem?_set_ne (by decide), (mid_end hl).1, digs_get 28 _ 14 (by decide)]
theorem pass1_put {l : List Nat} (hl : l.length = 28) : (pass1 l).set 14 (dval 65536 l % RR / 65536 ^ 14 % 65536 + midr l 28) = passed l := by
  rw [pass1, passed, (mid_end hl).2]
theorem add_small {a b : Nat} (ha : a < 9223372036854775808) (hb : b < 9223372036854775808) : (a + b) % 18446744073709551616 = a + b := Nat.mod_eq_of_lt (by omega)
theorem settle_end1 {l : List Nat} {v : Nat} (hm : dval 65536 (digs 65536 28 v) % pp = dval 65536 l % pp) (hv : v < RR) (h : pp ≤ v) : N (v - pp) = N (dval 65536 l % pp) := by
  rw [dval_digs, RR_pow, Nat.mod_eq_of_lt hv] at hm
  rw [← hm]
  clear hm
  have e : v - pp = v % pp := by
    unfold pp RR at *
    omega
  rw [e]
theorem settle_end2 {l : List Nat} {v : Nat} (hm : dval 65536 (digs 65536 28 v) % pp = dval 65536 l % pp) (hv : v < RR) (h : v < pp) : N v = N (dval 65536 l % pp) := by
  rw [dval_digs, RR_pow, Nat.mod_eq_of_lt hv] at hm
  rw [← hm, Nat.mod_eq_of_lt h]
theorem of_ct {M : Mem} (n : Nat) : Ct Tryz.prog 9 #[.agg (E n).toArray] M (Det (.agg (N n).toArray) M) := by
  refine ct_of (vs := [.agg (E n).toArray]) Tryz.func9 rfl Tryz.ntmps9 rfl fun w0 => ?_
  refine at_seq ?_
  refine at_region ?_
  refine at_n rfl rfl (opr_box rfl rfl rfl) ?_
  intro g0
  refine at_n rfl rfl (opr_alloc rfl zero31 rfl) ?_
  intro g1
  refine at_nil ?_
  refine at_then ?_
  refine at_seq ?_
  refine at_region ?_
  refine at_d rfl rfl (opr_build0 rfl zero31 rfl Tryz.underlying31 size29) ?_
  refine at_n rfl rfl (opr_alloc rfl zero31 rfl) ?_
  intro g2
  refine at_d rfl rfl (opr_store (i := 0) rfl rfl rfl rfl rfl size31 (N_length _) (by rw [N_length]; decide) (N_flat _) N_over) ?_
  refine at_nil ?_
  refine at_then ?_
  refine at_seq ?_
  refine at_seq ?_
  refine at_region ?_
  refine at_d rfl rfl (opr_load (i := 2) rfl rfl rfl Tryz.underlying22 rfl size22 (E_length _) (E_at _)) ?_
  refine at_d rfl rfl (opr_move rfl rfl) ?_
  refine at_nil ?_
  refine at_then ?_
  refine at_block ?_
  refine at_loop (fun (x : Nat) => [(2, .pointer (some ⟨g1, 0, none⟩)), (3, .pointer (some ⟨g2, 0, none⟩)), (7, .agg (E n).toArray), (8, .int .i64 (x : Int))]) (fun (x : Nat) => ⟨g2, 31, N (n % 256 ^ x)⟩ :: ⟨g1, 31, N (0)⟩ :: ⟨g0, 22, E (n)⟩ :: M) (fun (x : Nat) => 56 - x) (fun (x : Nat) => x ≤ 56) 0 (Nat.zero_le _) (allIn ⟨rfl, rfl, rfl, rfl, trivial⟩) (by simp only [List.set_cons_zero, List.set_cons_succ, Nat.pow_zero, Nat.mod_one, EE_one, Nat.sub_self]; exact List.Sublist.refl _) ?_
  intro k hI
  dsimp only
  refine at_seq ?_
  refine at_region ?_
  refine at_d rfl rfl (opr_lss (a := k) (b := 56) rfl rfl rfl) ?_
  refine at_nil ?_
  refine at_then ?_
  refine at_seq ?_
  refine at_cond rfl (fun ht => ?_) (fun ht => ?_)
  ·
    have hlt : k < 56 := of_decide_eq_true ht
    refine at_skip ?_
    refine at_then ?_
    refine at_seq ?_
    refine at_block ?_
    refine at_seq ?_
    refine at_region ?_
    refine at_d rfl rfl (opr_move rfl rfl) ?_
    refine at_d rfl rfl (opr_index1 (j := k) rfl rfl rfl Tryz.underlying22 hlt size5 Tryz.underlying5 rfl (U_get (digs_get 56 n k hlt))) ?_
    refine at_d rfl rfl (opr_assign rfl rfl) ?_
    refine at_d rfl rfl (opr_assign rfl rfl) ?_
    refine at_nil ?_
    refine at_then ?_
    refine at_draw (by kernel_rfl) (by kernel_rfl) (by kernel_rfl) (List.cons_ne_nil _ _) ?_
    refine dr_op rfl rfl (opr_move rfl rfl) ?_
    refine dr_op rfl rfl (opr_quoI (a := k) (b := 2) rfl rfl rfl (by decide) (by omega)) ?_
    refine dr_op rfl rfl (opr_move rfl rfl) ?_
    refine dr_op rfl rfl (opr_quoI (a := k) (b := 2) rfl rfl rfl (by decide) (by omega)) ?_
    refine dr_op rfl rfl (opr_indexAddr (j := k / 2) (off' := k / 2) rfl rfl rfl Tryz.underlying31 (by omega) size29 (by omega)) ?_
    refine dr_op rfl rfl (opr_load1 (i := 0) rfl rfl rfl Tryz.underlying29 rfl (W_get (of_get n k hlt))) ?_
    refine dr_op rfl rfl (opr_move rfl rfl) ?_
    refine dr_op rfl rfl (opr_to64 rfl rfl Tryz.underlying5 Tryz.underlying29 (Nat.lt_trans (Nat.mod_lt _ (by decide)) (by decide))) ?_
    refine dr_op rfl rfl (opr_move rfl rfl) ?_
    refine dr_op rfl rfl (opr_remI (a := k) (b := 2) rfl rfl rfl (by decide)) ?_
    refine dr_op rfl rfl (opr_mulI (a := 8) (b := k % 2) rfl rfl rfl (by omega)) ?_
    refine dr_op rfl rfl (opr_shl64 (n := 8 * (k % 2)) rfl rfl rfl (by omega)) ?_
    refine dr_op rfl rfl (opr_add64 rfl rfl rfl) ?_
    refine dr_op rfl rfl (opr_indexAddr (j := k / 2) (off' := k / 2) rfl rfl rfl Tryz.underlying31 (by omega) size29 (by omega)) ?_
    refine dr_last rfl rfl (opr_store (i := 0) rfl rfl rfl rfl rfl size29 rfl (by rw [N_length]; omega) flat_one (W_put (by rw [digs_length]; omega) (of_step n k hlt))) ?_
    refine at_inBlock_normal ?_
    refine at_then ?_
    refine at_region ?_
    refine at_d rfl rfl (opr_addI (a := k) (b := 1) rfl rfl rfl (by omega)) ?_
    refine at_d rfl rfl (opr_move rfl rfl) ?_
    refine at_nil ?_
    exact at_round (k + 1) (by omega) (by omega) (allIn ⟨rfl, rfl, rfl, rfl, trivial⟩) (List.Sublist.refl _)
  ·
    obtain rfl : k = 56 := by have := of_decide_eq_false ht; omega
    refine at_exit ?_
    refine at_then_exit ?_
    refine at_then_exit ?_
    refine at_inBlock_same ?_
    refine at_then ?_
    refine at_seq ?_
    refine at_region ?_
    refine at_d rfl rfl (opr_load (i := 0) rfl rfl rfl Tryz.underlying31 rfl size31 (N_length _) (N_at _)) ?_
    refine at_d rfl rfl (opr_store (i := 1) rfl rfl rfl rfl rfl size31 (N_length _) (by rw [N_length]; decide) (N_flat _) N_over) ?_
    refine at_nil ?_
    refine at_then ?_
    refine at_ret ?_
    refine done_of (res1 Tryz.results9 (res_cell (i := 1) rfl rfl Tryz.underlying31 rfl size31 (N_length _) (N_at _))) ⟨?_, rfl⟩ (by repeat (first | exact List.Sublist.refl _ | apply List.Sublist.cons))
    rw [of_end]
theorem p_ct {M : Mem} : Ct Tryz.prog 17 #[] M (Det (.agg (N pp).toArray) M) := by
  refine ct_of (vs := []) Tryz.func17 rfl Tryz.ntmps17 rfl fun w0 => ?_
  refine at_seq ?_
  refine at_region ?_
  refine at_n rfl rfl (opr_alloc rfl zero31 rfl) ?_
  intro g0
  refine at_nil ?_
  refine at_then ?_
  refine at_seq ?_
  refine at_region ?_
  refine at_d rfl rfl (opr_build0 rfl zero31 rfl Tryz.underlying31 size29) ?_
  refine at_n rfl rfl (opr_alloc rfl zero31 rfl) ?_
  intro g1
  refine at_d rfl rfl (opr_store (i := 0) rfl rfl rfl rfl rfl size31 (N_length _) (by rw [N_length]; decide) (N_flat _) N_over) ?_
  refine at_nil ?_
  refine at_then ?_
  refine at_seq ?_
  refine at_seq ?_
  refine at_region ?_
  refine at_d rfl rfl (opr_move rfl rfl) ?_
  refine at_nil ?_
  refine at_then ?_
  refine at_block ?_
  refine at_loop (fun (x : Nat) => [(0, .pointer (some ⟨g0, 0, none⟩)), (1, .pointer (some ⟨g1, 0, none⟩)), (4, .int .i64 (x : Int))]) (fun (x : Nat) => ⟨g1, 31, N (65536 ^ x - 1)⟩ :: ⟨g0, 31, N (0)⟩ :: M) (fun (x : Nat) => 28 - x) (fun (x : Nat) => x ≤ 28) 0 (Nat.zero_le _) (allIn ⟨rfl, rfl, rfl, trivial⟩) (by simp only [List.set_cons_zero, List.set_cons_succ, Nat.pow_zero, Nat.mod_one, EE_one, Nat.sub_self]; exact List.Sublist.refl _) ?_
  intro k hI
  dsimp only
  refine at_seq ?_
  refine at_region ?_
  refine at_d rfl rfl (opr_lss (a := k) (b := 28) rfl rfl rfl) ?_
  refine at_nil ?_
  refine at_then ?_
  refine at_seq ?_
  refine at_cond rfl (fun ht => ?_) (fun ht => ?_)
  ·
    have hlt : k < 28 := of_decide_eq_true ht
    refine at_skip ?_
    refine at_then ?_
    refine at_seq ?_
    refine at_block ?_
    refine at_seq ?_
    refine at_region ?_
    refine at_d rfl rfl (opr_move rfl rfl) ?_
    refine at_d rfl rfl (opr_assign rfl rfl) ?_
    refine at_nil ?_
    refine at_then ?_
    refine at_region ?_
    refine at_d rfl rfl (opr_move rfl rfl) ?_
    refine at_d rfl rfl (opr_indexAddr (j := k) (off' := k) rfl rfl rfl Tryz.underlying31 (by omega) size29 (by omega)) ?_
    refine at_d rfl rfl (opr_store (i := 0) rfl rfl rfl rfl rfl size29 rfl (by rw [N_length]; omega) flat_one (W_put (by rw [digs_length]; omega) (p_step k hlt))) ?_
    refine at_nil ?_
    refine at_inBlock_normal ?_
    refine at_then ?_
    refine at_region ?_
    refine at_d rfl rfl (opr_addI (a := k) (b := 1) rfl rfl rfl (by omega)) ?_
    refine at_d rfl rfl (opr_move rfl rfl) ?_
    refine at_nil ?_
    exact at_round (k + 1) (by omega) (by omega) (allIn ⟨rfl, rfl, rfl, trivial⟩) (List.Sublist.refl _)
  ·
    obtain rfl : k = 28 := by have := of_decide_eq_false ht; omega
    refine at_exit ?_
    refine at_then_exit ?_
    refine at_then_exit ?_
    refine at_inBlock_same ?_
    refine at_then ?_
    refine at_seq ?_
    refine at_region ?_
    refine at_d rfl rfl (opr_indexAddr (j := 14) rfl rfl rfl Tryz.underlying31 (by decide) size29 rfl) ?_
    refine at_d rfl rfl (opr_store (i := 0) rfl rfl rfl rfl rfl size29 rfl (by rw [N_length]; decide) flat_one (W_put (by rw [digs_length]; decide) p_last)) ?_
    refine at_nil ?_
    refine at_then ?_
    refine at_seq ?_
    refine at_region ?_
    refine at_d rfl rfl (opr_load (i := 0) rfl rfl rfl Tryz.underlying31 rfl size31 (N_length _) (N_at _)) ?_
    refine at_d rfl rfl (opr_store (i := 1) rfl rfl rfl rfl rfl size31 (N_length _) (by rw [N_length]; decide) (N_flat _) N_over) ?_
    refine at_nil ?_
    refine at_then ?_
    refine at_ret ?_
    refine done_of (res1 Tryz.results17 (res_cell (i := 1) rfl rfl Tryz.underlying31 rfl size31 (N_length _) (N_at _))) ⟨rfl, rfl⟩ (by repeat (first | exact List.Sublist.refl _ | apply List.Sublist.cons))
theorem less_ct {M : Mem} {a b : Nat} (ha : a < 65536 ^ 28) (hb : b < 65536 ^ 28) : Ct Tryz.prog 16 #[.agg (N a).toArray, .agg (N b).toArray] M (Det (.bool (decide (a < b))) M) := by
  refine ct_of (vs := [.agg (N a).toArray, .agg (N b).toArray]) Tryz.func16 rfl Tryz.ntmps16 rfl fun w0 => ?_
  refine at_seq ?_
  refine at_region ?_
  refine at_n rfl rfl (opr_box rfl rfl rfl) ?_
  intro g0
  refine at_n rfl rfl (opr_box rfl rfl rfl) ?_
  intro g1
  refine at_d rfl rfl (opr_assign rfl rfl) ?_
  refine at_nil ?_
  refine at_then ?_
  refine at_seq ?_
  refine at_seq ?_
  refine at_region ?_
  refine at_d rfl rfl (opr_assign rfl rfl) ?_
  refine at_nil ?_
  refine at_then ?_
  refine at_block ?_
  refine at_loop (fun (x : Nat) => [(2, .pointer (some ⟨g0, 0, none⟩)), (3, .pointer (some ⟨g1, 0, none⟩)), (5, .int .i64 (27 - (x : Int)))]) (fun (x : Nat) => ⟨g1, 31, N (b)⟩ :: ⟨g0, 31, N (a)⟩ :: M) (fun (x : Nat) => 28 - x) (fun (x : Nat) => x ≤ 28 ∧ a / 65536 ^ (28 - x) = b / 65536 ^ (28 - x)) 0 ⟨by omega, by rw [Nat.div_eq_of_lt ha, Nat.div_eq_of_lt hb]⟩ (allIn ⟨rfl, rfl, rfl, trivial⟩) (List.Sublist.refl _) ?_
  intro k hI
  dsimp only
  refine at_seq ?_
  refine at_seq ?_
  refine at_region ?_
  refine at_d rfl rfl (opr_move rfl rfl) ?_
  refine at_d rfl rfl (opr_geqZ rfl rfl rfl) ?_
  refine at_nil ?_
  refine at_then ?_
  refine at_cond rfl (fun ht => ?_) (fun ht => ?_)
  ·
    have hk := of_decide_eq_true ht
    have hlt : k < 28 := by omega
    have ej : 27 - (k : Int) = ((27 - k : Nat) : Int) := by omega
    refine at_skip ?_
    refine at_then ?_
    refine at_seq ?_
    refine at_block ?_
    refine at_seq ?_
    refine at_drawQ (by kernel_rfl) (by kernel_rfl) (List.cons_ne_nil _ _) ?_
    refine dr_op rfl rfl (opr_move rfl rfl) ?_
    refine dr_op rfl rfl (opr_indexAddr (j := 27 - k) (off' := 27 - k) rfl rfl (by exact congrArg (fun n => some (Value.int .i64 n)) ej) Tryz.underlying31 (by omega) size29 (by omega)) ?_
    refine dr_op rfl rfl (opr_load1 (i := 1) rfl rfl rfl Tryz.underlying29 rfl (W_get (digs_get 28 a (27 - k) (by omega)))) ?_
    refine dr_op rfl rfl (opr_move rfl rfl) ?_
    refine dr_op rfl rfl (opr_indexAddr (j := 27 - k) (off' := 27 - k) rfl rfl (by exact congrArg (fun n => some (Value.int .i64 n)) ej) Tryz.underlying31 (by omega) size29 (by omega)) ?_
    refine dr_op rfl rfl (opr_load1 (i := 0) rfl rfl rfl Tryz.underlying29 rfl (W_get (digs_get 28 b (27 - k) (by omega)))) ?_
    refine dr_last rfl rfl (opr_neq rfl rfl rfl) ?_
    refine ⟨rfl, ?_⟩
    refine at_then ?_
    refine at_cond rfl (fun hd => ?_) (fun hd => ?_)
    ·
      have hne := of_decide_eq_true hd
      refine at_seq ?_
      refine at_drawQ (by kernel_rfl) (by kernel_rfl) (List.cons_ne_nil _ _) ?_
      refine dr_op rfl rfl (opr_move rfl rfl) ?_
      refine dr_op rfl rfl (opr_indexAddr (j := 27 - k) (off' := 27 - k) rfl rfl (by exact congrArg (fun n => some (Value.int .i64 n)) ej) Tryz.underlying31 (by omega) size29 (by omega)) ?_
      refine dr_op rfl rfl (opr_load1 (i := 1) rfl rfl rfl Tryz.underlying29 rfl (W_get (digs_get 28 a (27 - k) (by omega)))) ?_
      refine dr_op rfl rfl (opr_move rfl rfl) ?_
      refine dr_op rfl rfl (opr_indexAddr (j := 27 - k) (off' := 27 - k) rfl rfl (by exact congrArg (fun n => some (Value.int .i64 n)) ej) Tryz.underlying31 (by omega) size29 (by omega)) ?_
      refine dr_op rfl rfl (opr_load1 (i := 0) rfl rfl rfl Tryz.underlying29 rfl (W_get (digs_get 28 b (27 - k) (by omega)))) ?_
      refine dr_op rfl rfl (opr_lss rfl rfl rfl) ?_
      refine dr_last rfl rfl (opr_assign rfl rfl) ?_
      refine ⟨rfl, ?_⟩
      refine at_then ?_
      refine at_ret ?_
      refine at_inBlock_ret ?_
      refine at_then_ret ?_
      refine at_then_ret ?_
      refine at_inBlock_ret ?_
      refine at_then_ret ?_
      refine done_of (res1 Tryz.results16 (res_tmp rfl)) ⟨?_, rfl⟩ (by repeat (first | exact List.Sublist.refl _ | apply List.Sublist.cons))
      exact congrArg Value.bool (less_ne hlt hI.2 hne)
    ·
      have heq := Decidable.not_not.1 (of_decide_eq_false hd)
      refine at_skip ?_
      refine at_inBlock_normal ?_
      refine at_then ?_
      refine at_region ?_
      refine at_d rfl rfl (opr_move rfl rfl) ?_
      refine at_d rfl rfl (opr_subIZ (c := 27 - ((k + 1 : Nat) : Int)) rfl rfl rfl (by omega) (by omega) (by omega)) ?_
      refine at_d rfl rfl (opr_assign rfl rfl) ?_
      refine at_nil ?_
      exact at_round (k + 1) ⟨by omega, less_eq hlt hI.2 heq⟩ (by omega) (allIn ⟨rfl, rfl, rfl, trivial⟩) (List.Sublist.refl _)
  ·
    have hk := of_decide_eq_false ht
    obtain rfl : k = 28 := by omega
    refine at_exit ?_
    refine at_then_exit ?_
    refine at_then_exit ?_
    refine at_inBlock_same ?_
    refine at_then ?_
    refine at_seq ?_
    refine at_region ?_
    refine at_d rfl rfl (opr_assign rfl rfl) ?_
    refine at_nil ?_
    refine at_then ?_
    refine at_ret ?_
    refine done_of (res1 Tryz.results16 (res_tmp rfl)) ⟨?_, rfl⟩ (by repeat (first | exact List.Sublist.refl _ | apply List.Sublist.cons))
    exact congrArg Value.bool (less_end hI.2).symm
theorem minus_ct {M : Mem} {a b : Nat} (ha : a < 65536 ^ 28) (hba : b ≤ a) : Ct Tryz.prog 64 #[.agg (N a).toArray, .agg (N b).toArray] M (Det (.agg (N (a - b)).toArray) M) := by
  refine ct_of (vs := [.agg (N a).toArray, .agg (N b).toArray]) Tryz.func64 rfl Tryz.ntmps64 rfl fun w0 => ?_
  refine at_seq ?_
  refine at_region ?_
  refine at_n rfl rfl (opr_box rfl rfl rfl) ?_
  intro g0
  refine at_n rfl rfl (opr_box rfl rfl rfl) ?_
  intro g1
  refine at_n rfl rfl (opr_alloc rfl zero31 rfl) ?_
  intro g2
  refine at_nil ?_
  refine at_then ?_
  refine at_seq ?_
  refine at_region ?_
  refine at_d rfl rfl (opr_build0 rfl zero31 rfl Tryz.underlying31 size29) ?_
  refine at_n rfl rfl (opr_alloc rfl zero31 rfl) ?_
  intro g3
  refine at_d rfl rfl (opr_store (i := 0) rfl rfl rfl rfl rfl size31 (N_length _) (by rw [N_length]; decide) (N_flat _) N_over) ?_
  refine at_nil ?_
  refine at_then ?_
  refine at_seq ?_
  refine at_region ?_
  refine at_d rfl rfl (opr_assign rfl rfl) ?_
  refine at_nil ?_
  refine at_then ?_
  refine at_seq ?_
  refine at_seq ?_
  refine at_region ?_
  refine at_d rfl rfl (opr_move rfl rfl) ?_
  refine at_nil ?_
  refine at_then ?_
  refine at_block ?_
  refine at_loop3 (fun (x : Nat) (y : Nat) (z : Nat) => [(2, .pointer (some ⟨g0, 0, none⟩)), (3, .pointer (some ⟨g1, 0, none⟩)), (4, .pointer (some ⟨g2, 0, none⟩)), (5, .pointer (some ⟨g3, 0, none⟩)), (6, .int .u64 (z : Int)), (10, .int .i64 (x : Int))]) (fun (x : Nat) (y : Nat) (z : Nat) => ⟨g3, 31, N (y)⟩ :: ⟨g2, 31, N (0)⟩ :: ⟨g1, 31, N (b)⟩ :: ⟨g0, 31, N (a)⟩ :: M) (fun (x : Nat) (y : Nat) (z : Nat) => 28 - x) (fun (x : Nat) (y : Nat) (z : Nat) => x ≤ 28 ∧ y < 65536 ^ x ∧ z ≤ 1 ∧ y + b % 65536 ^ x = a % 65536 ^ x + 65536 ^ x * z) 0 0 0 ⟨by decide, by decide, by decide, by simp only [Nat.pow_zero, Nat.mod_one]⟩ (allIn ⟨rfl, rfl, rfl, rfl, rfl, rfl, trivial⟩) (List.Sublist.refl _) ?_
  rintro k r c ⟨hk, hr, hc, he⟩
  dsimp only
  refine at_seq ?_
  refine at_region ?_
  refine at_d rfl rfl (opr_lss (a := k) (b := 28) rfl rfl rfl) ?_
  refine at_nil ?_
  refine at_then ?_
  refine at_seq ?_
  refine at_cond rfl (fun ht => ?_) (fun ht => ?_)
  ·
    have hlt : k < 28 := of_decide_eq_true ht
    have hs := mstep hlt hr hc he
    refine at_skip ?_
    refine at_then ?_
    refine at_seq ?_
    refine at_block ?_
    refine at_seq ?_
    refine at_region ?_
    refine at_d rfl rfl (opr_move rfl rfl) ?_
    refine at_d rfl rfl (opr_assign rfl rfl) ?_
    refine at_nil ?_
    refine at_then ?_
    refine at_seq ?_
    refine at_drawQ (by kernel_rfl) (by kernel_rfl) (List.cons_ne_nil _ _) ?_
    refine dr_op rfl rfl (opr_move rfl rfl) ?_
    refine dr_op rfl rfl (opr_indexAddr (j := k) (off' := k) rfl rfl rfl Tryz.underlying31 (by omega) size29 (by omega)) ?_
    refine dr_op rfl rfl (opr_load1 (i := 3) rfl rfl rfl Tryz.underlying29 rfl (W_get (digs_get 28 a k hlt))) ?_
    refine dr_op rfl rfl (opr_add64 rfl rfl rfl) ?_
    refine dr_op rfl rfl (opr_move rfl rfl) ?_
    refine dr_op rfl rfl (opr_indexAddr (j := k) (off' := k) rfl rfl rfl Tryz.underlying31 (by omega) size29 (by omega)) ?_
    refine dr_op rfl rfl (opr_load1 (i := 2) rfl rfl rfl Tryz.underlying29 rfl (W_get (digs_get 28 b k hlt))) ?_
    refine dr_op rfl rfl (opr_sub64 rfl rfl rfl (Nat.le_of_lt (Nat.lt_trans (Nat.mod_lt _ (by decide)) (by decide)))) ?_
    refine dr_op rfl rfl (opr_move rfl rfl) ?_
    refine dr_op rfl rfl (opr_eq (opr_sub64 rfl rfl rfl (Nat.le_trans hc (by decide))) (u64_eq (mdig_eq a b c k hc))) ?_
    refine dr_last rfl rfl (opr_assign rfl rfl) ?_
    refine ⟨rfl, ?_⟩
    refine at_then ?_
    refine at_seq ?_
    refine at_region ?_
    refine at_d rfl rfl (opr_move rfl rfl) ?_
    refine at_d rfl rfl (opr_move rfl rfl) ?_
    refine at_d rfl rfl (opr_rem64 rfl rfl rfl (by decide)) ?_
    refine at_d rfl rfl (opr_indexAddr (j := k) (off' := k) rfl rfl rfl Tryz.underlying31 (by omega) size29 (by omega)) ?_
    refine at_d rfl rfl (opr_store (i := 0) rfl rfl rfl rfl rfl size29 rfl (by rw [N_length]; omega) flat_one (W_put (by rw [digs_length]; omega) hs.1)) ?_
    refine at_nil ?_
    refine at_then ?_
    refine at_region ?_
    refine at_d rfl rfl (opr_move rfl rfl) ?_
    refine at_d rfl rfl (opr_quo64 rfl rfl rfl (by decide) (Nat.lt_trans (mdig_lt a b c k) (by decide))) ?_
    refine at_d rfl rfl (opr_eq (opr_sub64 (a := 1) rfl rfl rfl (Nat.le_trans (Nat.div_le_self _ _) (Nat.le_of_lt (Nat.lt_trans (mdig_lt a b c k) (by decide))))) (u64_eq (mbor_eq _ (mdig_lt a b c k)))) ?_
    refine at_d rfl rfl (opr_assign rfl rfl) ?_
    refine at_nil ?_
    refine at_inBlock_normal ?_
    refine at_then ?_
    refine at_region ?_
    refine at_d rfl rfl (opr_addI (a := k) (b := 1) rfl rfl rfl (by omega)) ?_
    refine at_d rfl rfl (opr_move rfl rfl) ?_
    refine at_nil ?_
    exact at_round3 (k + 1) (r + 65536 ^ k * (mdig a b c k % 65536)) (1 - mdig a b c k / 65536) ⟨by omega, hs.2.1, hs.2.2.1, hs.2.2.2⟩ (by omega) (allIn ⟨rfl, rfl, rfl, rfl, rfl, rfl, trivial⟩) (List.Sublist.refl _)
  ·
    obtain rfl : k = 28 := by have := of_decide_eq_false ht; omega
    refine at_exit ?_
    refine at_then_exit ?_
    refine at_then_exit ?_
    refine at_inBlock_same ?_
    refine at_then ?_
    refine at_seq ?_
    refine at_region ?_
    refine at_d rfl rfl (opr_load (i := 0) rfl rfl rfl Tryz.underlying31 rfl size31 (N_length _) (N_at _)) ?_
    refine at_d rfl rfl (opr_store (i := 1) rfl rfl rfl rfl rfl size31 (N_length _) (by rw [N_length]; decide) (N_flat _) N_over) ?_
    refine at_nil ?_
    refine at_then ?_
    refine at_ret ?_
    refine done_of (res1 Tryz.results64 (res_cell (i := 1) rfl rfl Tryz.underlying31 rfl size31 (N_length _) (N_at _))) ⟨?_, rfl⟩ (by repeat (first | exact List.Sublist.refl _ | apply List.Sublist.cons))
    rw [minus_end ha hba hr he]
theorem settle_c {l : List Nat} (hlen : l.length = 28) : midr l 28 = 0 → ∃ v, passed l = digs 65536 28 v ∧ v < RR := by
  intro h
  rw [(mid_end hlen).2] at h
  exact ⟨_, (passed_done hlen h).1, (passed_done hlen h).2⟩
theorem settle_mu {l : List Nat} {c : Nat} (hlen : l.length = 28) (hpos : 0 < c) : (if midr l 28 = 0 then 0 else dval 65536 (passed l) + 1) < (if c = 0 then 0 else dval 65536 l + 1) := by
  rw [if_neg (Nat.ne_of_gt hpos)]
  split
  · omega
  · rename_i h
    rw [(mid_end hlen).2] at h
    have := passed_lt hlen (Nat.pos_of_ne_zero h)
    omega
theorem settle_ct {M : Mem} {l0 : List Nat} (hl0 : l0.length = 28) (hd0 : ∀ d ∈ l0, d ≤ 4611686018427387904) : Ct Tryz.prog 38 #[.agg (W l0).toArray] M (Det (.agg (N (dval 65536 l0 % pp)).toArray) M) := by
  refine ct_of (vs := [.agg (W l0).toArray]) Tryz.func38 rfl Tryz.ntmps38 rfl fun w0 => ?_
  refine at_seq ?_
  refine at_region ?_
  refine at_n rfl rfl (opr_box rfl rfl rfl) ?_
  intro g0
  refine at_n rfl rfl (opr_alloc rfl zero31 rfl) ?_
  intro g1
  refine at_nil ?_
  refine at_then ?_
  refine at_seq ?_
  refine at_region ?_
  refine at_d rfl rfl (opr_assign rfl rfl) ?_
  refine at_nil ?_
  refine at_then ?_
  refine at_seq ?_
  refine at_block ?_
  refine at_loop2 (fun (x : List Nat) (y : Nat) => [(1, .pointer (some ⟨g0, 0, none⟩)), (2, .pointer (some ⟨g1, 0, none⟩)), (3, .int .u64 (y : Int))]) (fun (x : List Nat) (y : Nat) => ⟨g1, 31, N (0)⟩ :: ⟨g0, 31, W (x)⟩ :: M) (fun (x : List Nat) (y : Nat) => (if y = 0 then 0 else dval 65536 x + 1)) (fun (x : List Nat) (y : Nat) => x.length = 28 ∧ (∀ d ∈ x, d ≤ 4611686018427387904) ∧ dval 65536 x % pp = dval 65536 l0 % pp ∧ y < 18446744073709551616 ∧ (y = 0 → ∃ v, x = digs 65536 28 v ∧ v < RR)) l0 1 ⟨hl0, hd0, rfl, by decide, fun h => absurd h (by decide)⟩ (allIn ⟨rfl, rfl, rfl, trivial⟩) (List.Sublist.refl _) ?_
  rintro l c ⟨hlen, hle, hmod, hcl, hc0⟩
  dsimp only
  refine at_seq ?_
  refine at_seq ?_
  refine at_region ?_
  refine at_d rfl rfl (opr_move rfl rfl) ?_
  refine at_d rfl rfl (opr_gtr (a := c) (b := 0) rfl rfl rfl) ?_
  refine at_nil ?_
  refine at_then ?_
  refine at_cond rfl (fun ht => ?_) (fun ht => ?_)
  ·
    have hpos : 0 < c := of_decide_eq_true ht
    refine at_skip ?_
    refine at_then ?_
    refine at_block ?_
    refine at_seq ?_
    refine at_region ?_
    refine at_d rfl rfl (opr_eq (opr_assign rfl rfl) (u64_eq (midr_zero l).symm)) ?_
    refine at_nil ?_
    refine at_then ?_
    refine at_seq ?_
    refine at_seq ?_
    refine at_region ?_
    refine at_d rfl rfl (opr_load (i := 1) rfl rfl rfl Tryz.underlying31 rfl size31 (by rw [W_length]; exact hlen) (W_all hlen)) ?_
    refine at_d rfl rfl (opr_move rfl rfl) ?_
    refine at_nil ?_
    refine at_then ?_
    refine at_block ?_
    refine at_loop (fun (x : Nat) => [(1, .pointer (some ⟨g0, 0, none⟩)), (2, .pointer (some ⟨g1, 0, none⟩)), (3, .int .u64 (midr l x : Int)), (8, .agg (W l).toArray), (9, .int .i64 (x : Int))]) (fun (x : Nat) => ⟨g1, 31, N (0)⟩ :: ⟨g0, 31, W (midc l x)⟩ :: M) (fun (x : Nat) => 28 - x) (fun (x : Nat) => x ≤ 28) 0 (Nat.zero_le _) (allIn ⟨rfl, rfl, rfl, rfl, rfl, trivial⟩) (by simp only [List.set_cons_zero, List.set_cons_succ, midc_zero]; exact List.Sublist.refl _) ?_
    intro k hk
    dsimp only
    refine at_seq ?_
    refine at_region ?_
    refine at_d rfl rfl (opr_lss (a := k) (b := 28) rfl rfl rfl) ?_
    refine at_nil ?_
    refine at_then ?_
    refine at_seq ?_
    refine at_cond rfl (fun ht2 => ?_) (fun ht2 => ?_)
    ·
      have hlt : k < 28 := of_decide_eq_true ht2
      obtain ⟨d, hd⟩ := mid_get hlen hlt
      have hst := mid_step hlen hlt hd
      have hml := midr_le hlen hle hk
      refine at_skip ?_
      refine at_then ?_
      refine at_seq ?_
      refine at_block ?_
      refine at_seq ?_
      refine at_region ?_
      refine at_d rfl rfl (opr_move rfl rfl) ?_
      refine at_d rfl rfl (opr_index1 (j := k) rfl rfl rfl Tryz.underlying31 hlt size29 Tryz.underlying29 rfl (W_get hd)) ?_
      refine at_d rfl rfl (opr_assign rfl rfl) ?_
      refine at_d rfl rfl (opr_assign rfl rfl) ?_
      refine at_nil ?_
      refine at_then ?_
      refine at_seq ?_
      refine at_region ?_
      refine at_d rfl rfl (opr_move rfl rfl) ?_
      refine at_d rfl rfl (opr_move rfl rfl) ?_
      refine at_d rfl rfl (opr_eq (opr_add64 rfl rfl rfl) (u64_eq (add_small (Nat.lt_of_le_of_lt hml (by decide)) (Nat.lt_of_le_of_lt (hle d (List.mem_of_getElem? hd)) (by decide))))) ?_
      refine at_d rfl rfl (opr_assign rfl rfl) ?_
      refine at_nil ?_
      refine at_then ?_
      refine at_seq ?_
      refine at_region ?_
      refine at_d rfl rfl (opr_move rfl rfl) ?_
      refine at_d rfl rfl (opr_move rfl rfl) ?_
      refine at_d rfl rfl (opr_rem64 rfl rfl rfl (by decide)) ?_
      refine at_d rfl rfl (opr_indexAddr (j := k) (off' := k) rfl rfl rfl Tryz.underlying31 (by omega) size29 (by omega)) ?_
      refine at_d rfl rfl (opr_store (i := 1) rfl rfl rfl rfl rfl size29 rfl (by rw [W_length, midc_length hlen hk]; omega) flat_one (W_put (by rw [midc_length hlen hk]; omega) hst.1)) ?_
      refine at_nil ?_
      refine at_then ?_
      refine at_region ?_
      refine at_d rfl rfl (opr_move rfl rfl) ?_
      refine at_d rfl rfl (opr_eq (opr_quo64 rfl rfl rfl (by decide) (Nat.lt_of_le_of_lt (Nat.add_le_add hml (hle d (List.mem_of_getElem? hd))) (by decide))) (u64_eq hst.2)) ?_
      refine at_d rfl rfl (opr_assign rfl rfl) ?_
      refine at_nil ?_
      refine at_inBlock_normal ?_
      refine at_then ?_
      refine at_region ?_
      refine at_d rfl rfl (opr_addI (a := k) (b := 1) rfl rfl rfl (by omega)) ?_
      refine at_d rfl rfl (opr_move rfl rfl) ?_
      refine at_nil ?_
      exact at_round (k + 1) (by omega) (by omega) (allIn ⟨rfl, rfl, rfl, rfl, rfl, trivial⟩) (List.Sublist.refl _)
    ·
      obtain rfl : k = 28 := by have := of_decide_eq_false ht2; omega
      have hm28 := midr_le hlen hle (Nat.le_refl 28)
      refine at_exit ?_
      refine at_then_exit ?_
      refine at_then_exit ?_
      refine at_inBlock_same ?_
      refine at_then ?_
      refine at_seq ?_
      refine at_region ?_
      refine at_d rfl rfl (opr_indexAddr (j := 0) rfl rfl rfl Tryz.underlying31 (by decide) size29 rfl) ?_
      refine at_d rfl rfl (opr_load1 (i := 1) rfl rfl rfl Tryz.underlying29 rfl (W_get (mid28_get hlen))) ?_
      refine at_d rfl rfl (opr_move rfl rfl) ?_
      refine at_d rfl rfl (opr_eq (opr_add64 rfl rfl rfl) (u64_eq (add_small (Nat.lt_trans (Nat.mod_lt _ (by decide)) (by decide)) (Nat.lt_of_le_of_lt hm28 (by decide))))) ?_
      refine at_d rfl rfl (opr_indexAddr (j := 0) rfl rfl rfl Tryz.underlying31 (by decide) size29 rfl) ?_
      refine at_d rfl rfl (opr_store (i := 1) rfl rfl rfl rfl rfl size29 rfl (by rw [W_length, midc_length hlen (Nat.le_refl _)]; decide) flat_one (W_put (by rw [midc_length hlen (Nat.le_refl _)]; decide) (rfl : _ = pass1 l))) ?_
      refine at_nil ?_
      refine at_then ?_
      refine at_region ?_
      refine at_d rfl rfl (opr_indexAddr (j := 14) rfl rfl rfl Tryz.underlying31 (by decide) size29 rfl) ?_
      refine at_d rfl rfl (opr_load1 (i := 1) rfl rfl rfl Tryz.underlying29 rfl (W_get (pass1_get hlen))) ?_
      refine at_d rfl rfl (opr_move rfl rfl) ?_
      refine at_d rfl rfl (opr_eq (opr_add64 rfl rfl rfl) (u64_eq (add_small (Nat.lt_trans (Nat.mod_lt _ (by decide)) (by decide)) (Nat.lt_of_le_of_lt hm28 (by decide))))) ?_
      refine at_d rfl rfl (opr_indexAddr (j := 14) rfl rfl rfl Tryz.underlying31 (by decide) size29 rfl) ?_
      refine at_d rfl rfl (opr_store (i := 1) rfl rfl rfl rfl rfl size29 rfl (by rw [W_length, pass1_length hlen]; decide) flat_one (W_put (by rw [pass1_length hlen]; decide) (pass1_put hlen))) ?_
      refine at_nil ?_
      refine at_inBlock_normal ?_
      exact at_round2 (passed l) (midr l 28) ⟨passed_length hlen, passed_le hlen hle, (passed_mod hlen).trans hmod, Nat.lt_of_le_of_lt (midr_le hlen hle (Nat.le_refl _)) (by decide), settle_c hlen⟩ (settle_mu hlen hpos) (allIn ⟨rfl, rfl, rfl, trivial⟩) (List.Sublist.refl _)
  ·
    obtain rfl : c = 0 := by have := of_decide_eq_false ht; omega
    obtain ⟨v, rfl, hv⟩ := hc0 rfl
    have hv' : v < 65536 ^ 28 := by rw [RR_pow]; exact hv
    refine at_exit ?_
    refine at_then_exit ?_
    refine at_then_exit ?_
    refine at_inBlock_same ?_
    refine at_then ?_
    refine at_seq ?_
    refine at_seq ?_
    refine at_drawQ (by kernel_rfl) (by kernel_rfl) (List.cons_ne_nil _ _) ?_
    refine dr_op rfl rfl (opr_load (i := 1) rfl rfl rfl Tryz.underlying31 rfl size31 (N_length v) (N_at v)) ?_
    refine dr_op rfl rfl (opr_call rfl rfl rfl Tryz.func17 (by kernel_rfl) rfl (p_ct)) ?_
    refine dr_op rfl rfl (opr_call rfl rfl rfl Tryz.func16 (by kernel_rfl) rfl (less_ct hv' (by decide))) ?_
    refine dr_last rfl rfl (opr_unOp rfl rfl (fun _ => rfl)) ?_
    refine ⟨rfl, ?_⟩
    refine at_then ?_
    refine at_cond rfl (fun ht3 => ?_) (fun ht3 => ?_)
    ·
      have hge : pp ≤ v := by simpa using ht3
      refine at_draw (by kernel_rfl) (by kernel_rfl) (by kernel_rfl) (List.cons_ne_nil _ _) ?_
      refine dr_op rfl rfl (opr_load (i := 1) rfl rfl rfl Tryz.underlying31 rfl size31 (N_length v) (N_at v)) ?_
      refine dr_op rfl rfl (opr_call rfl rfl rfl Tryz.func17 (by kernel_rfl) rfl (p_ct)) ?_
      refine dr_op rfl rfl (opr_call rfl rfl rfl Tryz.func64 (by kernel_rfl) rfl (minus_ct hv' hge)) ?_
      refine dr_last rfl rfl (opr_store (i := 1) rfl rfl rfl rfl rfl size31 (N_length _) (by rw [W_length, digs_length]; decide) (N_flat _) (N_over (a := v))) ?_
      refine at_then ?_
      refine at_seq ?_
      refine at_region ?_
      refine at_d rfl rfl (opr_load (i := 1) rfl rfl rfl Tryz.underlying31 rfl size31 (N_length _) (N_at _)) ?_
      refine at_d rfl rfl (opr_store (i := 0) rfl rfl rfl rfl rfl size31 (N_length _) (by rw [N_length]; decide) (N_flat _) N_over) ?_
      refine at_nil ?_
      refine at_then ?_
      refine at_ret ?_
      refine done_of (res1 Tryz.results38 (res_cell (i := 0) rfl rfl Tryz.underlying31 rfl size31 (N_length _) (N_at _))) ⟨?_, rfl⟩ (by repeat (first | exact List.Sublist.refl _ | apply List.Sublist.cons))
      rw [settle_end1 hmod hv hge]
    ·
      have hlt : v < pp := by simpa using ht3
      refine at_skip ?_
      refine at_then ?_
      refine at_seq ?_
      refine at_region ?_
      refine at_d rfl rfl (opr_load (i := 1) rfl rfl rfl Tryz.underlying31 rfl size31 (N_length _) (N_at _)) ?_
      refine at_d rfl rfl (opr_store (i := 0) rfl rfl rfl rfl rfl size31 (N_length _) (by rw [N_length]; decide) (N_flat _) N_over) ?_
      refine at_nil ?_
      refine at_then ?_
      refine at_ret ?_
      refine done_of (res1 Tryz.results38 (res_cell (i := 0) rfl rfl Tryz.underlying31 rfl size31 (N_length _) (N_at _))) ⟨?_, rfl⟩ (by repeat (first | exact List.Sublist.refl _ | apply List.Sublist.cons))
      rw [settle_end2 hmod hv hlt]
theorem settle_n {M : Mem} {n : Nat} (hn : n < RR) : Ct Tryz.prog 38 #[.agg (N n).toArray] M (Det (.agg (N (n % pp)).toArray) M) := by
  have h := settle_ct (M := M) (l0 := digs 65536 28 n) (digs_length _ _ _) (fun d hd => Nat.le_of_lt (Nat.lt_trans (digs_lt (by decide) _ _ d hd) (by decide)))
  rw [dval_digs, RR_pow, Nat.mod_eq_of_lt hn] at h
  exact h
theorem mod_ct {M : Mem} {n : Nat} (hn : n < RR) : Ct Tryz.prog 25 #[.agg (N n).toArray] M (Det (.agg (N (n % pp)).toArray) M) := by
  refine ct_of (vs := [.agg (N n).toArray]) Tryz.func25 rfl Tryz.ntmps25 rfl fun w0 => ?_
  refine at_seq ?_
  refine at_region ?_
  refine at_n rfl rfl (opr_box rfl rfl rfl) ?_
  intro g0
  refine at_n rfl rfl (opr_alloc rfl zero31 rfl) ?_
  intro g1
  refine at_nil ?_
  refine at_then ?_
  refine at_seq ?_
  refine at_region ?_
  refine at_d rfl rfl (opr_load (i := 1) rfl rfl rfl Tryz.underlying31 rfl size31 (N_length _) (N_at _)) ?_
  refine at_d rfl rfl (opr_call rfl rfl rfl Tryz.func38 (by kernel_rfl) rfl (settle_n hn)) ?_
  refine at_d rfl rfl (opr_store (i := 0) rfl rfl rfl rfl rfl size31 (N_length _) (by rw [N_length]; decide) (N_flat _) N_over) ?_
  refine at_nil ?_
  refine at_then ?_
  refine at_ret ?_
  refine done_of (res1 Tryz.results25 (res_cell (i := 0) rfl rfl Tryz.underlying31 rfl size31 (N_length _) (N_at _))) ⟨rfl, rfl⟩ (by repeat (first | exact List.Sublist.refl _ | apply List.Sublist.cons))
end Go.Proofs.YtjlhhcdefcofkaaGreatDoor
