/- The reference's sums, opposites, products of scalars. -/
import Derived.Test.YtoagfplhcimghaaRefB
namespace Go.Proofs.Ytoagfplhcimghaa
open Go
set_option maxRecDepth 100000

def sumd (a b : Nat) : List Nat := List.zipWith (· + ·) (digs 65536 28 a) (digs 65536 28 b)
theorem sumd_length (a b : Nat) : (sumd a b).length = 28 := by simp [sumd, digs_length]
theorem sumd_get {a b k : Nat} (hk : k < 28) : (sumd a b)[k]? = some (a / 65536 ^ k % 65536 + b / 65536 ^ k % 65536) := by
  rw [sumd, List.getElem?_zipWith, digs_get 28 a k hk, digs_get 28 b k hk]
theorem sumd_le (a b : Nat) : ∀ d ∈ sumd a b, d ≤ 4611686018427387904 := by
  intro d hd
  obtain ⟨i, hi⟩ := List.getElem?_of_mem hd
  have hlt : i < 28 := by have := (List.getElem?_eq_some_iff.1 hi).1; rw [sumd_length] at this; exact this
  rw [sumd_get hlt] at hi
  have := Option.some.inj hi
  have h1 : a / 65536 ^ i % 65536 < 65536 := Nat.mod_lt _ (by decide)
  have h2 : b / 65536 ^ i % 65536 < 65536 := Nat.mod_lt _ (by decide)
  omega
theorem dval_zip (b : Nat) : ∀ (l m : List Nat), l.length = m.length → dval b (List.zipWith (· + ·) l m) = dval b l + dval b m
  | [], [], _ => rfl
  | [], _ :: _, h => by simp at h
  | _ :: _, [], h => by simp at h
  | x :: l, y :: m, h => by
    have ih := dval_zip b l m (by simpa using h)
    simp only [List.zipWith_cons_cons, dval, ih, Nat.mul_add]
    omega
theorem sumd_val {a b : Nat} (ha : a < RR) (hb : b < RR) : dval 65536 (sumd a b) = a + b := by
  rw [sumd, dval_zip _ _ _ (by simp [digs_length]), dval_digs, dval_digs, RR_pow, Nat.mod_eq_of_lt ha, Nat.mod_eq_of_lt hb]
theorem sum_small {a b k : Nat} : (a / 65536 ^ k % 65536 + b / 65536 ^ k % 65536) % 18446744073709551616 = a / 65536 ^ k % 65536 + b / 65536 ^ k % 65536 := by
  have h1 : a / 65536 ^ k % 65536 < 65536 := Nat.mod_lt _ (by decide)
  have h2 : b / 65536 ^ k % 65536 < 65536 := Nat.mod_lt _ (by decide)
  exact Nat.mod_eq_of_lt (by omega)
theorem sumd_le' {a b d : Nat} (h : d ∈ sumd a b) : d ≤ 4398046511104 := by
  obtain ⟨i, hi⟩ := List.getElem?_of_mem h
  have hlt : i < 28 := by have := (List.getElem?_eq_some_iff.1 hi).1; rw [sumd_length] at this; exact this
  rw [sumd_get hlt] at hi
  have := Option.some.inj hi
  have h1 : a / 65536 ^ i % 65536 < 65536 := Nat.mod_lt _ (by decide)
  have h2 : b / 65536 ^ i % 65536 < 65536 := Nat.mod_lt _ (by decide)
  omega
theorem sneg_zero {a : Nat} (h : a % qq = 0) : N (a % qq) = N (ssub qq (a % qq)) := by
  rw [ssub, h]; rfl
theorem sneg_pos {a : Nat} (h : ¬ a % qq = 0) : N (qq - a % qq) = N (ssub qq (a % qq)) := by
  have := Nat.mod_lt a (show 0 < qq by decide)
  generalize a % qq = r at *
  rw [ssub, show qq + qq - r = (qq - r) + qq * 1 by omega, Nat.add_mul_mod_self_left, Nat.mod_eq_of_lt (by omega)]
theorem sScAdd_ct {M : Mem} {a b : Nat} (ha : a < RR) (hb : b < RR) : Ct Try.prog 8 #[.agg (N a).toArray, .agg (N b).toArray] M (Det (.agg (N ((a + b) % qq)).toArray) M) := by
  refine ct_of (vs := [.agg (N a).toArray, .agg (N b).toArray]) Try.func8 rfl Try.ntmps8 rfl fun w0 => ?_
  refine at_seq ?_
  refine at_region ?_
  refine at_n rfl rfl (opr_box rfl rfl rfl) ?_
  intro g0
  refine at_n rfl rfl (opr_box rfl rfl rfl) ?_
  intro g1
  refine at_n rfl rfl (opr_alloc rfl zero27 rfl) ?_
  intro g2
  refine at_nil ?_
  refine at_then ?_
  refine at_seq ?_
  refine at_seq ?_
  refine at_region ?_
  refine at_d rfl rfl (opr_move rfl rfl) ?_
  refine at_nil ?_
  refine at_then ?_
  refine at_block ?_
  refine at_loop (fun (x : Nat) => [(2, .pointer (some ⟨g0, 0, none⟩)), (3, .pointer (some ⟨g1, 0, none⟩)), (4, .pointer (some ⟨g2, 0, none⟩)), (6, .int .i64 (x : Int))]) (fun (x : Nat) => ⟨g2, 27, N (0)⟩ :: ⟨g1, 27, N (b)⟩ :: ⟨g0, 27, W (mixl (sumd a b) (digs 65536 28 a) x)⟩ :: M) (fun (x : Nat) => 28 - x) (fun (x : Nat) => x ≤ 28) 0 (Nat.zero_le _) (allIn ⟨rfl, rfl, rfl, rfl, trivial⟩) (by simp only [mixl_zero]; exact List.Sublist.refl _) ?_
  intro k hk
  dsimp only
  refine at_seq ?_
  refine at_region ?_
  refine at_d rfl rfl (opr_lss (a := k) (b := 28) rfl rfl rfl) ?_
  refine at_nil ?_
  refine at_then ?_
  refine at_seq ?_
  refine at_cond rfl (fun ht => ?_) (fun ht => ?_)
  ·
    have hlt : k < 28 := of_decide_eq_true ht
    refine at_skip ?_
    refine at_then ?_
    refine at_seq ?_
    refine at_block ?_
    refine at_seq ?_
    refine at_region ?_
    refine at_d rfl rfl (opr_move rfl rfl) ?_
    refine at_d rfl rfl (opr_assign rfl rfl) ?_
    refine at_nil ?_
    refine at_then ?_
    refine at_draw (by kernel_rfl) (by kernel_rfl) (by kernel_rfl) (List.cons_ne_nil _ _) ?_
    refine dr_op rfl rfl (opr_move rfl rfl) ?_
    refine dr_op rfl rfl (opr_move rfl rfl) ?_
    refine dr_op rfl rfl (opr_indexAddr (j := k) (off' := k) rfl rfl rfl Try.underlying27 (by omega) size25 (by omega)) ?_
    refine dr_op rfl rfl (opr_load1 (i := 2) rfl rfl rfl Try.underlying25 rfl (W_get ((mixl_get (sumd_length a b) hk).trans (digs_get 28 a k hlt)))) ?_
    refine dr_op rfl rfl (opr_move rfl rfl) ?_
    refine dr_op rfl rfl (opr_indexAddr (j := k) (off' := k) rfl rfl rfl Try.underlying27 (by omega) size25 (by omega)) ?_
    refine dr_op rfl rfl (opr_load1 (i := 1) rfl rfl rfl Try.underlying25 rfl (W_get (digs_get 28 b k hlt))) ?_
    refine dr_op rfl rfl (opr_eq' (opr_add64 rfl rfl rfl) (u64_eq' sum_small)) ?_
    refine dr_op rfl rfl (opr_indexAddr (j := k) (off' := k) rfl rfl rfl Try.underlying27 (by omega) size25 (by omega)) ?_
    refine dr_last rfl rfl (opr_store (i := 2) rfl rfl rfl rfl rfl size25 rfl (by rw [W_length, mixl_length (sumd_length a b) (digs_length _ _ _) hk]; omega) flat_one (W_put (by rw [mixl_length (sumd_length a b) (digs_length _ _ _) hk]; omega) (mixl_put (sumd_length a b) (digs_length _ _ _) hlt (sumd_get hlt)))) ?_
    refine at_inBlock_normal ?_
    refine at_then ?_
    refine at_region ?_
    refine at_d rfl rfl (opr_addI (a := k) (b := 1) rfl rfl rfl (by omega)) ?_
    refine at_d rfl rfl (opr_move rfl rfl) ?_
    refine at_nil ?_
    exact at_round (k + 1) (by omega) (by omega) (allIn ⟨rfl, rfl, rfl, rfl, trivial⟩) (List.Sublist.refl _)
  ·
    obtain rfl : k = 28 := by have := of_decide_eq_false ht; omega
    rw [mixl_end (sumd_length a b) (digs_length _ _ _)]
    refine at_exit ?_
    refine at_then_exit ?_
    refine at_then_exit ?_
    refine at_inBlock_same ?_
    refine at_then ?_
    refine at_seq ?_
    refine at_region ?_
    refine at_d rfl rfl (opr_sliceAll rfl rfl Try.underlying27 rfl size25) ?_
    refine at_c rfl rfl (opr_call rfl rfl rfl Try.func14 (by kernel_rfl) rfl (bytesOf_ct (il := 2) (l := sumd a b) rfl (sumd_length a b) (by decide) (fun d hd => sumd_le' hd))) ?_
    rintro _ _ ⟨q, bs, rfl, hbl, htk, hb2, hdv, rfl⟩
    refine at_d rfl rfl (opr_call rfl rfl rfl Try.func13 (by kernel_rfl) rfl (reduce_ct (il := 0) (cs := q.cs) (bs := bs) rfl (by rw [List.drop_zero]; exact htk) rfl hb2 (by omega))) ?_
    refine at_d rfl rfl (opr_store (i := 1) rfl rfl rfl rfl rfl size27 (N_length _) (by rw [N_length]; decide) (N_flat _) N_over) ?_
    refine at_nil ?_
    refine at_then ?_
    refine at_ret ?_
    refine done_of (res1 Try.results8 (res_cell (i := 1) rfl rfl Try.underlying27 rfl size27 (N_length _) (N_at _))) ⟨?_, rfl⟩ (by repeat (first | exact List.Sublist.refl _ | apply List.Sublist.cons))
    rw [hdv, sumd_val ha hb]
theorem sScNeg_ct {M : Mem} {a : Nat} (ha : a < RR) : Ct Try.prog 10 #[.agg (N a).toArray] M (Det (.agg (N (ssub qq (a % qq))).toArray) M) := by
  refine ct_of (vs := [.agg (N a).toArray]) Try.func10 rfl Try.ntmps10 rfl fun w0 => ?_
  refine at_seq ?_
  refine at_region ?_
  refine at_n rfl rfl (opr_box rfl rfl rfl) ?_
  intro g0
  refine at_n rfl rfl (opr_alloc rfl zero27 rfl) ?_
  intro g1
  refine at_nil ?_
  refine at_then ?_
  refine at_seq ?_
  refine at_region ?_
  refine at_d rfl rfl (opr_sliceAll rfl rfl Try.underlying27 rfl size25) ?_
  refine at_c rfl rfl (opr_call rfl rfl rfl Try.func14 (by kernel_rfl) rfl (bytesOf_ct (il := 1) (l := digs 65536 28 a) rfl (digs_length _ _ _) (by decide) (fun d hd => Nat.le_trans (Nat.le_of_lt (digs_lt (by decide) _ _ d hd)) (by decide)))) ?_
  rintro _ _ ⟨q, bs, rfl, hbl, htk, hb2, hdv, rfl⟩
  refine at_d rfl rfl (opr_call rfl rfl rfl Try.func13 (by kernel_rfl) rfl (reduce_ct (il := 0) (cs := q.cs) (bs := bs) rfl (by rw [List.drop_zero]; exact htk) rfl hb2 (by omega))) ?_
  refine at_d rfl rfl (opr_store (i := 2) rfl rfl rfl rfl rfl size27 (N_length _) (by rw [N_length]; decide) (N_flat _) N_over) ?_
  refine at_nil ?_
  rw [show dval 256 bs % qq = a % qq from by rw [hdv, dval_digs, RR_pow, Nat.mod_eq_of_lt ha]]
  refine at_then ?_
  refine at_seq ?_
  refine at_seq ?_
  refine at_region ?_
  refine at_d rfl rfl (opr_load (i := 2) rfl rfl rfl Try.underlying27 rfl size27 (N_length _) (N_at _)) ?_
  refine at_d rfl rfl (opr_buildE (ds := N 0) rfl rfl builtn27 rfl) ?_
  refine at_d rfl rfl (opr_eqlN rfl rfl rfl Try.underlying27 Try.underlying25 size25 (by kernel_rfl) (Nat.lt_trans (Nat.mod_lt _ (by decide)) qq_RR) (by decide)) ?_
  refine at_nil ?_
  refine at_then ?_
  refine at_cond rfl (fun ht => ?_) (fun ht => ?_)
  ·
    have h0 : a % qq = 0 := of_decide_eq_true ht
    refine at_seq ?_
    refine at_region ?_
    refine at_d rfl rfl (opr_load (i := 2) rfl rfl rfl Try.underlying27 rfl size27 (N_length _) (N_at _)) ?_
    refine at_d rfl rfl (opr_store (i := 1) rfl rfl rfl rfl rfl size27 (N_length _) (by rw [N_length]; decide) (N_flat _) N_over) ?_
    refine at_nil ?_
    refine at_then ?_
    refine at_ret ?_
    refine at_then_ret ?_
    refine done_of (res1 Try.results10 (res_cell (i := 1) rfl rfl Try.underlying27 rfl size27 (N_length _) (N_at _))) ⟨?_, rfl⟩ (by repeat (first | exact List.Sublist.refl _ | apply List.Sublist.cons))
    rw [sneg_zero h0]
  ·
    have h0 : ¬ a % qq = 0 := of_decide_eq_false ht
    refine at_skip ?_
    refine at_then ?_
    refine at_seq ?_
    refine at_draw (by kernel_rfl) (by kernel_rfl) (by kernel_rfl) (List.cons_ne_nil _ _) ?_
    refine dr_op rfl rfl (opr_call rfl rfl rfl Try.func6 (by kernel_rfl) rfl (sOrder_ct)) ?_
    refine dr_op rfl rfl (opr_load (i := 2) rfl rfl rfl Try.underlying27 rfl size27 (N_length _) (N_at _)) ?_
    refine dr_op rfl rfl (opr_call rfl rfl rfl Try.func15 (by kernel_rfl) rfl (minus_ct qq28 (Nat.le_of_lt (Nat.mod_lt _ (by decide))))) ?_
    refine dr_last rfl rfl (opr_store (i := 1) rfl rfl rfl rfl rfl size27 (N_length _) (by rw [N_length]; decide) (N_flat _) N_over) ?_
    refine at_then ?_
    refine at_ret ?_
    refine done_of (res1 Try.results10 (res_cell (i := 1) rfl rfl Try.underlying27 rfl size27 (N_length _) (N_at _))) ⟨?_, rfl⟩ (by repeat (first | exact List.Sublist.refl _ | apply List.Sublist.cons))
    rw [sneg_pos h0]
end Go.Proofs.Ytoagfplhcimghaa
