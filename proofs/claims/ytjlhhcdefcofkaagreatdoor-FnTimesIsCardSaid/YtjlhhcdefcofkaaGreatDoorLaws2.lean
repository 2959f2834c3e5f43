/- Sums, differences, negatives: the functions and their laws. -/
import Derived.Test.YtjlhhcdefcofkaaGreatDoorLaws1
import Derived.Test.YtjlhhcdefcofkaaGreatDoorDrawA
namespace Go.Proofs.YtjlhhcdefcofkaaGreatDoor
open Go
set_option maxRecDepth 100000

def mixl (m l : List Nat) (k : Nat) : List Nat := m.take k ++ l.drop k
theorem mixl_zero (m l : List Nat) : mixl m l 0 = l := by simp [mixl]
theorem mixl_end {m l : List Nat} {n : Nat} (hm : m.length = n) (hl : l.length = n) : mixl m l n = m := by
  simp [mixl, ← hm, List.drop_eq_nil_of_le (by omega : l.length ≤ m.length)]
theorem mixl_length {m l : List Nat} {n k : Nat} (hm : m.length = n) (hl : l.length = n) (hk : k ≤ n) : (mixl m l k).length = n := by
  simp [mixl]; omega
theorem mixl_get {m l : List Nat} {n k : Nat} (hm : m.length = n) (hk : k ≤ n) : (mixl m l k)[k]? = l[k]? := by
  have h : (m.take k).length = k := by simp; omega
  rw [mixl, List.getElem?_append_right (by omega), h, Nat.sub_self, List.getElem?_drop, Nat.add_zero]
theorem mixl_put {m l : List Nat} {n k x : Nat} (hm : m.length = n) (hl : l.length = n) (hk : k < n) (hx : m[k]? = some x) : (mixl m l k).set k x = mixl m l (k + 1) := by
  have h : (m.take k).length = k := by simp; omega
  have hk' : k < l.length := by omega
  rw [mixl, mixl, List.set_append_right _ _ (by omega), h, Nat.sub_self, List.drop_eq_getElem_cons hk', List.set_cons_zero, List.take_add_one, hx]
  simp
def sumd (a b : Nat) : List Nat := List.zipWith (· + ·) (digs 65536 28 a) (digs 65536 28 b)
theorem sumd_length (a b : Nat) : (sumd a b).length = 28 := by simp [sumd, digs_length]
theorem sumd_get {a b k : Nat} (hk : k < 28) : (sumd a b)[k]? = some (a / 65536 ^ k % 65536 + b / 65536 ^ k % 65536) := by
  rw [sumd, List.getElem?_zipWith, digs_get 28 a k hk, digs_get 28 b k hk]
theorem sumd_le (a b : Nat) : ∀ d ∈ sumd a b, d ≤ 4611686018427387904 := by
  intro d hd
  obtain ⟨i, hi⟩ := List.getElem?_of_mem hd
  have hlt : i < 28 := by have := (List.getElem?_eq_some_iff.1 hi).1; rw [sumd_length] at this; exact this
  rw [sumd_get hlt] at hi
  have := Option.some.inj hi
  have h1 : a / 65536 ^ i % 65536 < 65536 := Nat.mod_lt _ (by decide)
  have h2 : b / 65536 ^ i % 65536 < 65536 := Nat.mod_lt _ (by decide)
  omega
theorem dval_zip (b : Nat) : ∀ (l m : List Nat), l.length = m.length → dval b (List.zipWith (· + ·) l m) = dval b l + dval b m
  | [], [], _ => rfl
  | [], _ :: _, h => by simp at h
  | _ :: _, [], h => by simp at h
  | x :: l, y :: m, h => by
    have ih := dval_zip b l m (by simpa using h)
    simp only [List.zipWith_cons_cons, dval, ih, Nat.mul_add]
    omega
theorem sumd_val {a b : Nat} (ha : a < RR) (hb : b < RR) : dval 65536 (sumd a b) = a + b := by
  rw [sumd, dval_zip _ _ _ (by simp [digs_length]), dval_digs, dval_digs, RR_pow, Nat.mod_eq_of_lt ha, Nat.mod_eq_of_lt hb]
theorem sum_small {a b k : Nat} : (a / 65536 ^ k % 65536 + b / 65536 ^ k % 65536) % 18446744073709551616 = a / 65536 ^ k % 65536 + b / 65536 ^ k % 65536 := by
  have h1 : a / 65536 ^ k % 65536 < 65536 := Nat.mod_lt _ (by decide)
  have h2 : b / 65536 ^ k % 65536 < 65536 := Nat.mod_lt _ (by decide)
  exact Nat.mod_eq_of_lt (by omega)
def negp (a : Nat) : Nat := (pp - a % pp) % pp
theorem negp_lt (a : Nat) : negp a < RR := modp_lt _
theorem neg_zero {a : Nat} (h : a % pp = 0) : N (a % pp) = N (negp a) := by
  rw [negp, h]; rfl
theorem neg_pos {a : Nat} (h : ¬ a % pp = 0) : N (pp - a % pp) = N (negp a) := by
  have := Nat.mod_lt a (show 0 < pp by decide)
  rw [negp, Nat.mod_eq_of_lt (show pp - a % pp < pp by omega)]
theorem addF_mod {a b : Nat} (_ha : a < RR) (_hb : b < RR) : addF a b % pp = (a + b) % pp := by
  unfold addF RR pp at *
  split
  · rfl
  · split <;> omega
theorem subF_mod {a b : Nat} (ha : a < RR) (hb : b < RR) : subF a b % pp = (a + negp b) % pp := by
  unfold subF negp RR pp at *
  split
  · omega
  · split <;> omega
theorem subF_neg {a : Nat} (ha : a < RR) : subF pp a % pp = negp a := by
  rw [subF_mod RR_pp ha]
  unfold negp RR pp at *
  omega
theorem sAdd_ct {M : Mem} {a b : Nat} (ha : a < RR) (hb : b < RR) : Ct Tryz.prog 36 #[.agg (N a).toArray, .agg (N b).toArray] M (Det (.agg (N ((a + b) % pp)).toArray) M) := by
  refine ct_of (vs := [.agg (N a).toArray, .agg (N b).toArray]) Tryz.func36 rfl Tryz.ntmps36 rfl fun w0 => ?_
  refine at_seq ?_
  refine at_region ?_
  refine at_n rfl rfl (opr_box rfl rfl rfl) ?_
  intro g0
  refine at_n rfl rfl (opr_box rfl rfl rfl) ?_
  intro g1
  refine at_n rfl rfl (opr_alloc rfl zero31 rfl) ?_
  intro g2
  refine at_nil ?_
  refine at_then ?_
  refine at_seq ?_
  refine at_seq ?_
  refine at_region ?_
  refine at_d rfl rfl (opr_move rfl rfl) ?_
  refine at_nil ?_
  refine at_then ?_
  refine at_block ?_
  refine at_loop (fun (x : Nat) => [(2, .pointer (some ⟨g0, 0, none⟩)), (3, .pointer (some ⟨g1, 0, none⟩)), (4, .pointer (some ⟨g2, 0, none⟩)), (6, .int .i64 (x : Int))]) (fun (x : Nat) => ⟨g2, 31, N (0)⟩ :: ⟨g1, 31, N (b)⟩ :: ⟨g0, 31, W (mixl (sumd a b) (digs 65536 28 a) x)⟩ :: M) (fun (x : Nat) => 28 - x) (fun (x : Nat) => x ≤ 28) 0 (Nat.zero_le _) (allIn ⟨rfl, rfl, rfl, rfl, trivial⟩) (by simp only [mixl_zero]; exact List.Sublist.refl _) ?_
  intro k hk
  dsimp only
  refine at_seq ?_
  refine at_region ?_
  refine at_d rfl rfl (opr_lss (a := k) (b := 28) rfl rfl rfl) ?_
  refine at_nil ?_
  refine at_then ?_
  refine at_seq ?_
  refine at_cond rfl (fun ht => ?_) (fun ht => ?_)
  ·
    have hlt : k < 28 := of_decide_eq_true ht
    refine at_skip ?_
    refine at_then ?_
    refine at_seq ?_
    refine at_block ?_
    refine at_seq ?_
    refine at_region ?_
    refine at_d rfl rfl (opr_move rfl rfl) ?_
    refine at_d rfl rfl (opr_assign rfl rfl) ?_
    refine at_nil ?_
    refine at_then ?_
    refine at_draw (by kernel_rfl) (by kernel_rfl) (by kernel_rfl) (List.cons_ne_nil _ _) ?_
    refine dr_op rfl rfl (opr_move rfl rfl) ?_
    refine dr_op rfl rfl (opr_move rfl rfl) ?_
    refine dr_op rfl rfl (opr_indexAddr (j := k) (off' := k) rfl rfl rfl Tryz.underlying31 (by omega) size29 (by omega)) ?_
    refine dr_op rfl rfl (opr_load1 (i := 2) rfl rfl rfl Tryz.underlying29 rfl (W_get ((mixl_get (sumd_length a b) hk).trans (digs_get 28 a k hlt)))) ?_
    refine dr_op rfl rfl (opr_move rfl rfl) ?_
    refine dr_op rfl rfl (opr_indexAddr (j := k) (off' := k) rfl rfl rfl Tryz.underlying31 (by omega) size29 (by omega)) ?_
    refine dr_op rfl rfl (opr_load1 (i := 1) rfl rfl rfl Tryz.underlying29 rfl (W_get (digs_get 28 b k hlt))) ?_
    refine dr_op rfl rfl (opr_eq (opr_add64 rfl rfl rfl) (u64_eq sum_small)) ?_
    refine dr_op rfl rfl (opr_indexAddr (j := k) (off' := k) rfl rfl rfl Tryz.underlying31 (by omega) size29 (by omega)) ?_
    refine dr_last rfl rfl (opr_store (i := 2) rfl rfl rfl rfl rfl size29 rfl (by rw [W_length, mixl_length (sumd_length a b) (digs_length _ _ _) hk]; omega) flat_one (W_put (by rw [mixl_length (sumd_length a b) (digs_length _ _ _) hk]; omega) (mixl_put (sumd_length a b) (digs_length _ _ _) hlt (sumd_get hlt)))) ?_
    refine at_inBlock_normal ?_
    refine at_then ?_
    refine at_region ?_
    refine at_d rfl rfl (opr_addI (a := k) (b := 1) rfl rfl rfl (by omega)) ?_
    refine at_d rfl rfl (opr_move rfl rfl) ?_
    refine at_nil ?_
    exact at_round (k + 1) (by omega) (by omega) (allIn ⟨rfl, rfl, rfl, rfl, trivial⟩) (List.Sublist.refl _)
  ·
    obtain rfl : k = 28 := by have := of_decide_eq_false ht; omega
    refine at_exit ?_
    refine at_then_exit ?_
    refine at_then_exit ?_
    refine at_inBlock_same ?_
    refine at_then ?_
    refine at_seq ?_
    refine at_region ?_
    refine at_d rfl rfl (opr_load (i := 2) rfl rfl rfl Tryz.underlying31 rfl size31 (by rw [W_length]; exact mixl_length (sumd_length a b) (digs_length _ _ _) (Nat.le_refl _)) (W_all (mixl_length (sumd_length a b) (digs_length _ _ _) (Nat.le_refl _)))) ?_
    refine at_d rfl rfl (opr_call rfl rfl rfl Tryz.func38 (by kernel_rfl) rfl (settle_ct (mixl_length (sumd_length a b) (digs_length _ _ _) (Nat.le_refl _)) (by rw [mixl_end (sumd_length a b) (digs_length _ _ _)]; exact sumd_le a b))) ?_
    refine at_d rfl rfl (opr_store (i := 0) rfl rfl rfl rfl rfl size31 (N_length _) (by rw [N_length]; decide) (N_flat _) N_over) ?_
    refine at_nil ?_
    refine at_then ?_
    refine at_ret ?_
    refine done_of (res1 Tryz.results36 (res_cell (i := 0) rfl rfl Tryz.underlying31 rfl size31 (N_length _) (N_at _))) ⟨?_, rfl⟩ (by repeat (first | exact List.Sublist.refl _ | apply List.Sublist.cons))
    rw [mixl_end (sumd_length a b) (digs_length _ _ _), sumd_val ha hb]
theorem sNeg_ct {M : Mem} {a : Nat} (ha : a < RR) : Ct Tryz.prog 63 #[.agg (N a).toArray] M (Det (.agg (N (negp a)).toArray) M) := by
  refine ct_of (vs := [.agg (N a).toArray]) Tryz.func63 rfl Tryz.ntmps63 rfl fun w0 => ?_
  refine at_seq ?_
  refine at_region ?_
  refine at_n rfl rfl (opr_box rfl rfl rfl) ?_
  intro g0
  refine at_n rfl rfl (opr_alloc rfl zero31 rfl) ?_
  intro g1
  refine at_nil ?_
  refine at_then ?_
  refine at_seq ?_
  refine at_region ?_
  refine at_d rfl rfl (opr_load (i := 1) rfl rfl rfl Tryz.underlying31 rfl size31 (N_length _) (N_at _)) ?_
  refine at_d rfl rfl (opr_call rfl rfl rfl Tryz.func38 (by kernel_rfl) rfl (settle_n ha)) ?_
  refine at_d rfl rfl (opr_store (i := 1) rfl rfl rfl rfl rfl size31 (N_length _) (by rw [N_length]; decide) (N_flat _) N_over) ?_
  refine at_nil ?_
  refine at_then ?_
  refine at_seq ?_
  refine at_seq ?_
  refine at_region ?_
  refine at_d rfl rfl (opr_load (i := 1) rfl rfl rfl Tryz.underlying31 rfl size31 (N_length _) (N_at _)) ?_
  refine at_d rfl rfl (opr_build0 rfl zero31 rfl Tryz.underlying31 size29) ?_
  refine at_d rfl rfl (opr_eqlN rfl rfl rfl Tryz.underlying31 Tryz.underlying29 size29 (by kernel_rfl) (modp_lt _) RR_zero) ?_
  refine at_nil ?_
  refine at_then ?_
  refine at_cond rfl (fun ht => ?_) (fun ht => ?_)
  ·
    have hz : a % pp = 0 := of_decide_eq_true ht
    refine at_seq ?_
    refine at_region ?_
    refine at_d rfl rfl (opr_load (i := 1) rfl rfl rfl Tryz.underlying31 rfl size31 (N_length _) (N_at _)) ?_
    refine at_d rfl rfl (opr_store (i := 0) rfl rfl rfl rfl rfl size31 (N_length _) (by rw [N_length]; decide) (N_flat _) N_over) ?_
    refine at_nil ?_
    refine at_then ?_
    refine at_ret ?_
    refine at_then_ret ?_
    refine done_of (res1 Tryz.results63 (res_cell (i := 0) rfl rfl Tryz.underlying31 rfl size31 (N_length _) (N_at _))) ⟨?_, rfl⟩ (by repeat (first | exact List.Sublist.refl _ | apply List.Sublist.cons))
    rw [neg_zero hz]
  ·
    have hz : ¬ a % pp = 0 := of_decide_eq_false ht
    refine at_skip ?_
    refine at_then ?_
    refine at_seq ?_
    refine at_draw (by kernel_rfl) (by kernel_rfl) (by kernel_rfl) (List.cons_ne_nil _ _) ?_
    refine dr_op rfl rfl (opr_call rfl rfl rfl Tryz.func17 (by kernel_rfl) rfl (p_ct)) ?_
    refine dr_op rfl rfl (opr_load (i := 1) rfl rfl rfl Tryz.underlying31 rfl size31 (N_length _) (N_at _)) ?_
    refine dr_op rfl rfl (opr_call rfl rfl rfl Tryz.func64 (by kernel_rfl) rfl (minus_ct (by decide) (Nat.le_of_lt (Nat.mod_lt _ (by decide))))) ?_
    refine dr_last rfl rfl (opr_store (i := 0) rfl rfl rfl rfl rfl size31 (N_length _) (by rw [N_length]; decide) (N_flat _) N_over) ?_
    refine at_then ?_
    refine at_ret ?_
    refine done_of (res1 Tryz.results63 (res_cell (i := 0) rfl rfl Tryz.underlying31 rfl size31 (N_length _) (N_at _))) ⟨?_, rfl⟩ (by repeat (first | exact List.Sublist.refl _ | apply List.Sublist.cons))
    rw [neg_pos hz]
theorem sSub_ct {M : Mem} {a b : Nat} (ha : a < RR) (hb : b < RR) : Ct Tryz.prog 35 #[.agg (N a).toArray, .agg (N b).toArray] M (Det (.agg (N ((a + negp b) % pp)).toArray) M) := by
  refine ct_of (vs := [.agg (N a).toArray, .agg (N b).toArray]) Tryz.func35 rfl Tryz.ntmps35 rfl fun w0 => ?_
  refine at_seq ?_
  refine at_region ?_
  refine at_n rfl rfl (opr_box rfl rfl rfl) ?_
  intro g0
  refine at_n rfl rfl (opr_box rfl rfl rfl) ?_
  intro g1
  refine at_n rfl rfl (opr_alloc rfl zero31 rfl) ?_
  intro g2
  refine at_nil ?_
  refine at_then ?_
  refine at_seq ?_
  refine at_draw (by kernel_rfl) (by kernel_rfl) (by kernel_rfl) (List.cons_ne_nil _ _) ?_
  refine dr_op rfl rfl (opr_load (i := 2) rfl rfl rfl Tryz.underlying31 rfl size31 (N_length _) (N_at _)) ?_
  refine dr_op rfl rfl (opr_load (i := 1) rfl rfl rfl Tryz.underlying31 rfl size31 (N_length _) (N_at _)) ?_
  refine dr_op rfl rfl (opr_call rfl rfl rfl Tryz.func63 (by kernel_rfl) rfl (sNeg_ct hb)) ?_
  refine dr_op rfl rfl (opr_call rfl rfl rfl Tryz.func36 (by kernel_rfl) rfl (sAdd_ct ha (negp_lt b))) ?_
  refine dr_last rfl rfl (opr_store (i := 0) rfl rfl rfl rfl rfl size31 (N_length _) (by rw [N_length]; decide) (N_flat _) N_over) ?_
  refine at_then ?_
  refine at_ret ?_
  refine done_of (res1 Tryz.results35 (res_cell (i := 0) rfl rfl Tryz.underlying31 rfl size31 (N_length _) (N_at _))) ⟨rfl, rfl⟩ (by repeat (first | exact List.Sublist.refl _ | apply List.Sublist.cons))
theorem fNeg_ct {M : Mem} {ig Tp : Nat} (hG : M[ig]? = some ⟨3, Tp, EE [pp]⟩) {iz ix gz gx Tz Tx kz kx oz ox a : Nat} {lz lx : List Nat} (hz : M[iz]? = some ⟨gz, Tz, EE lz⟩) (hkz : kz < lz.length) (hoz : 56 * kz = oz) (hx : M[ix]? = some ⟨gx, Tx, EE lx⟩) (hkx : lx[kx]? = some a) (hox : 56 * kx = ox) (ha : a < RR) : Ct Tryz.prog 75 #[.pointer (some ⟨gz, oz, none⟩), .pointer (some ⟨gx, ox, none⟩)] M (Det (.tuple #[]) (M.set iz ⟨gz, Tz, EE (lz.set kz (subF pp a))⟩)) := by
  refine ct_of (vs := [.pointer (some ⟨gz, oz, none⟩), .pointer (some ⟨gx, ox, none⟩)]) Tryz.func75 rfl Tryz.ntmps75 rfl fun w0 => ?_
  refine at_seq ?_
  refine at_region ?_
  refine at_d rfl rfl (opr_load (i := ig) rfl rfl hG Tryz.underlying60 rfl size60 (E_length _) (EE_at (k := 0) rfl rfl rfl)) ?_
  refine at_n rfl rfl (opr_alloc rfl zero60 rfl) ?_
  intro g0
  refine at_d rfl rfl (opr_store (i := 0) rfl rfl rfl rfl rfl size60 (E_length _) (by rw [EE_length]; exact Nat.le_of_ble_eq_true rfl) (E_flat _) (EE_set (k := 0) (Nat.le_of_ble_eq_true rfl) rfl)) ?_
  refine at_nil ?_
  refine at_then ?_
  refine at_region ?_
  refine at_d rfl rfl (opr_move rfl rfl) ?_
  refine at_d rfl rfl (opr_move rfl rfl) ?_
  refine at_d rfl rfl (opr_call rfl rfl rfl Tryz.func62 (by kernel_rfl) rfl (Sub_ct (iz := iz + 1) (ix := 0) (iy := ix + 1) (kz := kz) (kx := 0) (ky := kx) hz hkz hoz rfl rfl rfl hx hkx hox RR_pp ha)) ?_
  refine at_nil ?_
  exact done_of (res0 Tryz.results75) ⟨rfl, rfl⟩ (List.Sublist.cons _ (List.Sublist.refl _))
end Go.Proofs.YtjlhhcdefcofkaaGreatDoor
