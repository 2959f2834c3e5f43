/- Laws of products; what tells 0 and 1. -/
import Derived.Test.YtjnnogmlfepenaaDoorLaws3
import Derived.Test.YtjnnogmlfepenaaDoorProduct
namespace Go.Proofs.YtjnnogmlfepenaaDoor
open Go
set_option maxRecDepth 100000

theorem ring_add {a b : Nat} (ha : a < RR) (hb : b < RR) : addF a b % pp = addF b a % pp := by rw [addF_mod ha hb, addF_mod hb ha, Nat.add_comm]
theorem ring_mul {a b : Nat} : a * b % pp = b * a % pp := by rw [Nat.mul_comm]
theorem ring_addA {a b c : Nat} (ha : a < RR) (hb : b < RR) (hc : c < RR) : addF (addF a b % pp) c % pp = addF a (addF b c % pp) % pp := by
  rw [addF_mod (modp_lt _) hc, addF_mod ha (modp_lt _), addF_mod ha hb, addF_mod hb hc, Nat.mod_add_mod, Nat.add_mod_mod, Nat.add_assoc]
theorem ring_mulA {a b c : Nat} : a * b % pp * c % pp = a * (b * c % pp) % pp := by
  rw [Nat.mod_mul_mod, Nat.mul_mod_mod, Nat.mul_assoc]
theorem ring_dist {a b c : Nat} (hb : b < RR) (hc : c < RR) : a * (addF b c % pp) % pp = addF (a * b % pp) (a * c % pp) % pp := by
  rw [addF_mod (modp_lt _) (modp_lt _), addF_mod hb hc, Nat.mul_mod_mod, Nat.mod_add_mod, Nat.add_mod_mod, Nat.mul_add]
theorem opr_eqlBT {P : Program} {St : Slots} {M : Mem} {o : Oper} {x y : Operand} {T T' : Nat} {p q : Bool} (ho : o.op = .binOp .eql T x y T') (hx : evalS St x = some (.bool p)) (hy : evalS St y = some (.bool q)) (hu : P.underlying T = some .bool) (h : p = q) : OpR P St M o (Det (.bool true) M) := by
  have k := opr_eqlB (M := M) ho hx hy hu
  rw [h, beq_self_eq_true] at k
  exact k
theorem digs_bump {b k n j y : Nat} (hb : 0 < b) (hj : j < k) (hn : n < b ^ k) (h : n / b ^ j % b + y < b) : (digs b k n).set j (n / b ^ j % b + y) = digs b k (n + b ^ j * y) := by
  have hg := digs_get (b := b) k n j hj
  have hv := dval_addAt (b := b) (digs b k n) j _ y hg
  rw [dval_digs, Nat.mod_eq_of_lt hn] at hv
  have hall : ∀ d ∈ (digs b k n).set j (n / b ^ j % b + y), d < b := by
    intro d hd
    rcases List.mem_or_eq_of_mem_set hd with hd | rfl
    · exact digs_lt hb k n d hd
    · exact h
  have := digs_dval _ hall
  rw [hv, List.length_set, digs_length] at this
  exact this.symm
theorem digs_drop0 {b k n j : Nat} (hb : 0 < b) (hj : j < k) (hn : n < b ^ k) : (digs b k n).set j 0 = digs b k (n - b ^ j * (n / b ^ j % b)) := by
  have hle : b ^ j * (n / b ^ j % b) ≤ n := Nat.le_trans (Nat.mul_le_mul_left _ (Nat.mod_le _ _)) (Nat.mul_div_le n _)
  have hq : (n - b ^ j * (n / b ^ j % b)) / b ^ j % b = 0 := by
    rw [Nat.sub_mul_div_of_le]
    · have e := Nat.mod_add_div (n / b ^ j) b
      have : n / b ^ j - n / b ^ j % b = b * (n / b ^ j / b) := by omega
      rw [this, Nat.mul_mod_right]
    · exact hle
  have h := digs_bump (b := b) (k := k) (n := n - b ^ j * (n / b ^ j % b)) (j := j) (y := n / b ^ j % b) hb hj (Nat.lt_of_le_of_lt (Nat.sub_le _ _) hn) (by rw [hq, Nat.zero_add]; exact Nat.mod_lt _ hb)
  rw [Nat.sub_add_cancel hle, hq, Nat.zero_add] at h
  rw [← h, List.set_set]
  apply List.ext_getElem?
  intro i
  by_cases hi : i = j
  · subst hi
    rw [List.getElem?_set_self (by rw [digs_length]; exact hj), digs_get k _ i hj, hq]
  · rw [List.getElem?_set_ne (fun e => hi e.symm)]
/-- One more: the content when the digits below k are 65535. -/
def ones (k : Nat) : Nat := 65536 ^ k - 1
theorem po_digit {a k : Nat} (hk : k < 28) (ha : a < RR) (h : a % 65536 ^ k = ones k) : (a - ones k) / 65536 ^ k % 65536 = a / 65536 ^ k % 65536 := by
  have h0 : 0 < 65536 ^ k := Nat.pow_pos (by decide)
  have e := Nat.mod_add_div a (65536 ^ k)
  have : a - ones k = 65536 ^ k * (a / 65536 ^ k) := by rw [← h]; omega
  rw [this, Nat.mul_div_cancel_left _ h0]
theorem po_le {a k : Nat} (h : a % 65536 ^ k = ones k) : ones k ≤ a := h ▸ Nat.mod_le _ _
theorem po_inc {a k : Nat} (hk : k < 28) (ha : a < RR) (h : a % 65536 ^ k = ones k) (hd : a / 65536 ^ k % 65536 + 1 < 65536) : (digs 65536 28 (a - ones k)).set k (a / 65536 ^ k % 65536 + 1) = digs 65536 28 (a + 1) := by
  rw [← po_digit hk ha h] at hd ⊢
  rw [digs_bump (by decide) hk (by rw [RR_pow]; omega) hd, Nat.mul_one]
  have h0 : 0 < 65536 ^ k := Nat.pow_pos (by decide)
  have := po_le h
  unfold ones at *
  congr 1
  omega
theorem po_big {a k : Nat} (hd : ¬ a / 65536 ^ k % 65536 + 1 < 65536) : a / 65536 ^ k % 65536 = 65535 := by
  have := Nat.mod_lt (a / 65536 ^ k) (show 0 < 65536 by decide)
  omega
theorem po_next {a k : Nat} (h : a % 65536 ^ k = ones k) (hd : a / 65536 ^ k % 65536 = 65535) : a % 65536 ^ (k + 1) = ones (k + 1) := by
  have h0 : 0 < 65536 ^ k := Nat.pow_pos (by decide)
  rw [Nat.pow_succ, Nat.mod_mul, h, hd]
  unfold ones
  rw [Nat.pow_succ]
  omega
theorem po_zero {a k x : Nat} (hk : k < 28) (ha : a < RR) (h : a % 65536 ^ k = ones k) (hd : a / 65536 ^ k % 65536 = 65535) : ((digs 65536 28 (a - ones k)).set k x).set k 0 = digs 65536 28 (a - ones (k + 1)) := by
  rw [List.set_set, digs_drop0 (by decide) hk (by rw [RR_pow]; omega), po_digit hk ha h, hd]
  have h0 : 0 < 65536 ^ k := Nat.pow_pos (by decide)
  unfold ones
  rw [Nat.pow_succ]
  congr 1
  omega
theorem ones_zero (a : Nat) : N (a - ones 0) = N a := by rw [ones, Nat.pow_zero, Nat.sub_self, Nat.sub_zero]
theorem fnMulIs_ct {M : Mem} {ig Tp : Nat} (hG : M[ig]? = some ⟨0, Tp, EE [pp]⟩) {a b : Nat} (ha : a < RR) (hb : b < RR) : Ct Tryd.prog 10 #[.agg (E a).toArray, .agg (E b).toArray] M (Det (.bool true) M) := by
  refine ct_of (vs := [.agg (E a).toArray, .agg (E b).toArray]) Tryd.func10 rfl Tryd.ntmps10 rfl fun w0 => ?_
  refine at_seq ?_
  refine at_region ?_
  refine at_n rfl rfl (opr_box (cs := EE [a]) rfl rfl (E_box _)) ?_
  intro g0
  refine at_n rfl rfl (opr_box (cs := EE [b]) rfl rfl (E_box _)) ?_
  intro g1
  refine at_d rfl rfl (opr_assign rfl rfl) ?_
  refine at_nil ?_
  refine at_then ?_
  refine at_seq ?_
  refine at_drawQ (by kernel_rfl) (by kernel_rfl) (List.cons_ne_nil _ _) ?_
  refine dr_op rfl rfl (opr_load (i := 1) rfl rfl rfl Tryd.underlying22 rfl size22 (E_length _) (EE_at (k := 0) rfl rfl rfl)) ?_
  refine dr_op rfl rfl (opr_load (i := 0) rfl rfl rfl Tryd.underlying22 rfl size22 (E_length _) (EE_at (k := 0) rfl rfl rfl)) ?_
  refine dr_op rfl rfl (opr_call rfl rfl rfl Tryd.func36 (by kernel_rfl) rfl (iMul_ct (ig := ig + 2) hG ha hb)) ?_
  refine dr_op rfl rfl (opr_load (i := 1) rfl rfl rfl Tryd.underlying22 rfl size22 (E_length _) (EE_at (k := 0) rfl rfl rfl)) ?_
  refine dr_op rfl rfl (opr_call rfl rfl rfl Tryd.func18 (by kernel_rfl) rfl (of_ct _)) ?_
  refine dr_op rfl rfl (opr_load (i := 0) rfl rfl rfl Tryd.underlying22 rfl size22 (E_length _) (EE_at (k := 0) rfl rfl rfl)) ?_
  refine dr_op rfl rfl (opr_call rfl rfl rfl Tryd.func18 (by kernel_rfl) rfl (of_ct _)) ?_
  refine dr_op rfl rfl (opr_call rfl rfl rfl Tryd.func37 (by kernel_rfl) rfl (sMul_ct ha hb)) ?_
  refine dr_op rfl rfl (opr_call rfl rfl rfl Tryd.func15 (by kernel_rfl) rfl (is_true rfl (modp_lt _))) ?_
  refine dr_last rfl rfl (opr_assign rfl rfl) ?_
  refine ⟨rfl, ?_⟩
  refine at_then ?_
  refine at_ret ?_
  refine done_of (res1 Tryd.results10 (res_tmp rfl)) ⟨rfl, rfl⟩ (by repeat (first | exact List.Sublist.refl _ | apply List.Sublist.cons))
theorem fnSqrIs_ct {M : Mem} {ig Tp : Nat} (hG : M[ig]? = some ⟨0, Tp, EE [pp]⟩) {a : Nat} (ha : a < RR) : Ct Tryd.prog 11 #[.agg (E a).toArray] M (Det (.bool true) M) := by
  refine ct_of (vs := [.agg (E a).toArray]) Tryd.func11 rfl Tryd.ntmps11 rfl fun w0 => ?_
  refine at_seq ?_
  refine at_region ?_
  refine at_n rfl rfl (opr_box (cs := EE [a]) rfl rfl (E_box _)) ?_
  intro g0
  refine at_d rfl rfl (opr_assign rfl rfl) ?_
  refine at_nil ?_
  refine at_then ?_
  refine at_seq ?_
  refine at_drawQ (by kernel_rfl) (by kernel_rfl) (List.cons_ne_nil _ _) ?_
  refine dr_op rfl rfl (opr_load (i := 0) rfl rfl rfl Tryd.underlying22 rfl size22 (E_length _) (EE_at (k := 0) rfl rfl rfl)) ?_
  refine dr_op rfl rfl (opr_call rfl rfl rfl Tryd.func38 (by kernel_rfl) rfl (iSqr_ct (ig := ig + 1) hG ha)) ?_
  refine dr_op rfl rfl (opr_load (i := 0) rfl rfl rfl Tryd.underlying22 rfl size22 (E_length _) (EE_at (k := 0) rfl rfl rfl)) ?_
  refine dr_op rfl rfl (opr_call rfl rfl rfl Tryd.func18 (by kernel_rfl) rfl (of_ct _)) ?_
  refine dr_op rfl rfl (opr_load (i := 0) rfl rfl rfl Tryd.underlying22 rfl size22 (E_length _) (EE_at (k := 0) rfl rfl rfl)) ?_
  refine dr_op rfl rfl (opr_call rfl rfl rfl Tryd.func18 (by kernel_rfl) rfl (of_ct _)) ?_
  refine dr_op rfl rfl (opr_call rfl rfl rfl Tryd.func37 (by kernel_rfl) rfl (sMul_ct ha ha)) ?_
  refine dr_op rfl rfl (opr_call rfl rfl rfl Tryd.func15 (by kernel_rfl) rfl (is_true rfl (modp_lt _))) ?_
  refine dr_last rfl rfl (opr_assign rfl rfl) ?_
  refine ⟨rfl, ?_⟩
  refine at_then ?_
  refine at_ret ?_
  refine done_of (res1 Tryd.results11 (res_tmp rfl)) ⟨rfl, rfl⟩ (by repeat (first | exact List.Sublist.refl _ | apply List.Sublist.cons))
theorem fnRing_ct {M : Mem} {ig Tp : Nat} (hG : M[ig]? = some ⟨0, Tp, EE [pp]⟩) {a b c : Nat} (ha : a < RR) (hb : b < RR) (hc : c < RR) : Ct Tryd.prog 12 #[.agg (E a).toArray, .agg (E b).toArray, .agg (E c).toArray] M (Det (.bool true) M) := by
  refine ct_of (vs := [.agg (E a).toArray, .agg (E b).toArray, .agg (E c).toArray]) Tryd.func12 rfl Tryd.ntmps12 rfl fun w0 => ?_
  refine at_seq ?_
  refine at_region ?_
  refine at_n rfl rfl (opr_box (cs := EE [a]) rfl rfl (E_box _)) ?_
  intro g0
  refine at_n rfl rfl (opr_box (cs := EE [b]) rfl rfl (E_box _)) ?_
  intro g1
  refine at_n rfl rfl (opr_box (cs := EE [c]) rfl rfl (E_box _)) ?_
  intro g2
  refine at_d rfl rfl (opr_assign rfl rfl) ?_
  refine at_nil ?_
  refine at_then ?_
  refine at_seq ?_
  refine at_drawQ (by kernel_rfl) (by kernel_rfl) (List.cons_ne_nil _ _) ?_
  refine dr_op rfl rfl (opr_load (i := 2) rfl rfl rfl Tryd.underlying22 rfl size22 (E_length _) (EE_at (k := 0) rfl rfl rfl)) ?_
  refine dr_op rfl rfl (opr_load (i := 1) rfl rfl rfl Tryd.underlying22 rfl size22 (E_length _) (EE_at (k := 0) rfl rfl rfl)) ?_
  refine dr_op rfl rfl (opr_call rfl rfl rfl Tryd.func33 (by kernel_rfl) rfl (iAdd_ct (ig := ig + 3) hG ha hb)) ?_
  refine dr_op rfl rfl (opr_load (i := 1) rfl rfl rfl Tryd.underlying22 rfl size22 (E_length _) (EE_at (k := 0) rfl rfl rfl)) ?_
  refine dr_op rfl rfl (opr_load (i := 2) rfl rfl rfl Tryd.underlying22 rfl size22 (E_length _) (EE_at (k := 0) rfl rfl rfl)) ?_
  refine dr_op rfl rfl (opr_call rfl rfl rfl Tryd.func33 (by kernel_rfl) rfl (iAdd_ct (ig := ig + 3) hG hb ha)) ?_
  refine dr_op rfl rfl (opr_eqlT rfl rfl rfl Tryd.underlying22 Tryd.underlying5 size5 (by kernel_rfl) (ring_add ha hb) (modp_lt _)) ?_
  refine dr_op rfl rfl (opr_move rfl rfl) ?_
  refine dr_op rfl rfl (opr_load (i := 2) rfl rfl rfl Tryd.underlying22 rfl size22 (E_length _) (EE_at (k := 0) rfl rfl rfl)) ?_
  refine dr_op rfl rfl (opr_load (i := 1) rfl rfl rfl Tryd.underlying22 rfl size22 (E_length _) (EE_at (k := 0) rfl rfl rfl)) ?_
  refine dr_op rfl rfl (opr_call rfl rfl rfl Tryd.func36 (by kernel_rfl) rfl (iMul_ct (ig := ig + 3) hG ha hb)) ?_
  refine dr_op rfl rfl (opr_load (i := 1) rfl rfl rfl Tryd.underlying22 rfl size22 (E_length _) (EE_at (k := 0) rfl rfl rfl)) ?_
  refine dr_op rfl rfl (opr_load (i := 2) rfl rfl rfl Tryd.underlying22 rfl size22 (E_length _) (EE_at (k := 0) rfl rfl rfl)) ?_
  refine dr_op rfl rfl (opr_call rfl rfl rfl Tryd.func36 (by kernel_rfl) rfl (iMul_ct (ig := ig + 3) hG hb ha)) ?_
  refine dr_op rfl rfl (opr_eqlT rfl rfl rfl Tryd.underlying22 Tryd.underlying5 size5 (by kernel_rfl) ring_mul (modp_lt _)) ?_
  refine dr_op rfl rfl (opr_pickT rfl rfl rfl) ?_
  refine dr_op rfl rfl (opr_move rfl rfl) ?_
  refine dr_op rfl rfl (opr_load (i := 2) rfl rfl rfl Tryd.underlying22 rfl size22 (E_length _) (EE_at (k := 0) rfl rfl rfl)) ?_
  refine dr_op rfl rfl (opr_load (i := 1) rfl rfl rfl Tryd.underlying22 rfl size22 (E_length _) (EE_at (k := 0) rfl rfl rfl)) ?_
  refine dr_op rfl rfl (opr_call rfl rfl rfl Tryd.func33 (by kernel_rfl) rfl (iAdd_ct (ig := ig + 3) hG ha hb)) ?_
  refine dr_op rfl rfl (opr_load (i := 0) rfl rfl rfl Tryd.underlying22 rfl size22 (E_length _) (EE_at (k := 0) rfl rfl rfl)) ?_
  refine dr_op rfl rfl (opr_call rfl rfl rfl Tryd.func33 (by kernel_rfl) rfl (iAdd_ct (ig := ig + 3) hG (modp_lt _) hc)) ?_
  refine dr_op rfl rfl (opr_load (i := 2) rfl rfl rfl Tryd.underlying22 rfl size22 (E_length _) (EE_at (k := 0) rfl rfl rfl)) ?_
  refine dr_op rfl rfl (opr_load (i := 1) rfl rfl rfl Tryd.underlying22 rfl size22 (E_length _) (EE_at (k := 0) rfl rfl rfl)) ?_
  refine dr_op rfl rfl (opr_load (i := 0) rfl rfl rfl Tryd.underlying22 rfl size22 (E_length _) (EE_at (k := 0) rfl rfl rfl)) ?_
  refine dr_op rfl rfl (opr_call rfl rfl rfl Tryd.func33 (by kernel_rfl) rfl (iAdd_ct (ig := ig + 3) hG hb hc)) ?_
  refine dr_op rfl rfl (opr_call rfl rfl rfl Tryd.func33 (by kernel_rfl) rfl (iAdd_ct (ig := ig + 3) hG ha (modp_lt _))) ?_
  refine dr_op rfl rfl (opr_eqlT rfl rfl rfl Tryd.underlying22 Tryd.underlying5 size5 (by kernel_rfl) (ring_addA ha hb hc) (modp_lt _)) ?_
  refine dr_op rfl rfl (opr_pickT rfl rfl rfl) ?_
  refine dr_op rfl rfl (opr_move rfl rfl) ?_
  refine dr_op rfl rfl (opr_load (i := 2) rfl rfl rfl Tryd.underlying22 rfl size22 (E_length _) (EE_at (k := 0) rfl rfl rfl)) ?_
  refine dr_op rfl rfl (opr_load (i := 1) rfl rfl rfl Tryd.underlying22 rfl size22 (E_length _) (EE_at (k := 0) rfl rfl rfl)) ?_
  refine dr_op rfl rfl (opr_call rfl rfl rfl Tryd.func36 (by kernel_rfl) rfl (iMul_ct (ig := ig + 3) hG ha hb)) ?_
  refine dr_op rfl rfl (opr_load (i := 0) rfl rfl rfl Tryd.underlying22 rfl size22 (E_length _) (EE_at (k := 0) rfl rfl rfl)) ?_
  refine dr_op rfl rfl (opr_call rfl rfl rfl Tryd.func36 (by kernel_rfl) rfl (iMul_ct (ig := ig + 3) hG (modp_lt _) hc)) ?_
  refine dr_op rfl rfl (opr_load (i := 2) rfl rfl rfl Tryd.underlying22 rfl size22 (E_length _) (EE_at (k := 0) rfl rfl rfl)) ?_
  refine dr_op rfl rfl (opr_load (i := 1) rfl rfl rfl Tryd.underlying22 rfl size22 (E_length _) (EE_at (k := 0) rfl rfl rfl)) ?_
  refine dr_op rfl rfl (opr_load (i := 0) rfl rfl rfl Tryd.underlying22 rfl size22 (E_length _) (EE_at (k := 0) rfl rfl rfl)) ?_
  refine dr_op rfl rfl (opr_call rfl rfl rfl Tryd.func36 (by kernel_rfl) rfl (iMul_ct (ig := ig + 3) hG hb hc)) ?_
  refine dr_op rfl rfl (opr_call rfl rfl rfl Tryd.func36 (by kernel_rfl) rfl (iMul_ct (ig := ig + 3) hG ha (modp_lt _))) ?_
  refine dr_op rfl rfl (opr_eqlT rfl rfl rfl Tryd.underlying22 Tryd.underlying5 size5 (by kernel_rfl) ring_mulA (modp_lt _)) ?_
  refine dr_op rfl rfl (opr_pickT rfl rfl rfl) ?_
  refine dr_op rfl rfl (opr_move rfl rfl) ?_
  refine dr_op rfl rfl (opr_load (i := 2) rfl rfl rfl Tryd.underlying22 rfl size22 (E_length _) (EE_at (k := 0) rfl rfl rfl)) ?_
  refine dr_op rfl rfl (opr_load (i := 1) rfl rfl rfl Tryd.underlying22 rfl size22 (E_length _) (EE_at (k := 0) rfl rfl rfl)) ?_
  refine dr_op rfl rfl (opr_load (i := 0) rfl rfl rfl Tryd.underlying22 rfl size22 (E_length _) (EE_at (k := 0) rfl rfl rfl)) ?_
  refine dr_op rfl rfl (opr_call rfl rfl rfl Tryd.func33 (by kernel_rfl) rfl (iAdd_ct (ig := ig + 3) hG hb hc)) ?_
  refine dr_op rfl rfl (opr_call rfl rfl rfl Tryd.func36 (by kernel_rfl) rfl (iMul_ct (ig := ig + 3) hG ha (modp_lt _))) ?_
  refine dr_op rfl rfl (opr_load (i := 2) rfl rfl rfl Tryd.underlying22 rfl size22 (E_length _) (EE_at (k := 0) rfl rfl rfl)) ?_
  refine dr_op rfl rfl (opr_load (i := 1) rfl rfl rfl Tryd.underlying22 rfl size22 (E_length _) (EE_at (k := 0) rfl rfl rfl)) ?_
  refine dr_op rfl rfl (opr_call rfl rfl rfl Tryd.func36 (by kernel_rfl) rfl (iMul_ct (ig := ig + 3) hG ha hb)) ?_
  refine dr_op rfl rfl (opr_load (i := 2) rfl rfl rfl Tryd.underlying22 rfl size22 (E_length _) (EE_at (k := 0) rfl rfl rfl)) ?_
  refine dr_op rfl rfl (opr_load (i := 0) rfl rfl rfl Tryd.underlying22 rfl size22 (E_length _) (EE_at (k := 0) rfl rfl rfl)) ?_
  refine dr_op rfl rfl (opr_call rfl rfl rfl Tryd.func36 (by kernel_rfl) rfl (iMul_ct (ig := ig + 3) hG ha hc)) ?_
  refine dr_op rfl rfl (opr_call rfl rfl rfl Tryd.func33 (by kernel_rfl) rfl (iAdd_ct (ig := ig + 3) hG (modp_lt _) (modp_lt _))) ?_
  refine dr_op rfl rfl (opr_eqlT rfl rfl rfl Tryd.underlying22 Tryd.underlying5 size5 (by kernel_rfl) (ring_dist hb hc) (modp_lt _)) ?_
  refine dr_op rfl rfl (opr_pickT rfl rfl rfl) ?_
  refine dr_op rfl rfl (opr_move rfl rfl) ?_
  refine dr_op rfl rfl (opr_call rfl rfl rfl Tryd.func30 (by kernel_rfl) rfl (one_ct)) ?_
  refine dr_op rfl rfl (opr_call rfl rfl rfl Tryd.func30 (by kernel_rfl) rfl (one_ct)) ?_
  refine dr_op rfl rfl (opr_call rfl rfl rfl Tryd.func33 (by kernel_rfl) rfl (iAdd_ct (ig := ig + 3) hG RR_one RR_one)) ?_
  refine dr_op rfl rfl (opr_buildE rfl rfl (built_small 2) (E_small (by decide))) ?_
  refine dr_op rfl rfl (opr_eqlT rfl rfl rfl Tryd.underlying22 Tryd.underlying5 size5 (by kernel_rfl) (by decide +kernel) (by decide)) ?_
  refine dr_op rfl rfl (opr_pickT rfl rfl rfl) ?_
  refine dr_last rfl rfl (opr_assign rfl rfl) ?_
  refine ⟨rfl, ?_⟩
  refine at_then ?_
  refine at_ret ?_
  refine done_of (res1 Tryd.results12 (res_tmp rfl)) ⟨rfl, rfl⟩ (by repeat (first | exact List.Sublist.refl _ | apply List.Sublist.cons))
theorem built_two (x y : Nat) : Tryd.prog.built 27 [(0, .int .u64 (x : Int)), (1, .int .u64 (y : Int))] = some (.int .u64 (x : Int) :: .int .u64 (y : Int) :: List.replicate 26 (.int .u64 0)).toArray := by kernel_rfl
theorem N_small {c : Nat} (hc : c < 4294967296) : (Value.int .u64 ((c % 65536 : Nat) : Int) :: .int .u64 ((c / 65536 : Nat) : Int) :: List.replicate 26 (.int .u64 0)) = N c := by
  have h0 : c / 65536 / 65536 = 0 := by omega
  have h1 : c / 65536 % 65536 = c / 65536 := by omega
  have hz : ∀ n, (digs 65536 n 0).map u64V = List.replicate n (.int .u64 0) := by
    intro n
    induction n with
    | zero => rfl
    | succ n ih => rw [digs, Nat.zero_mod, Nat.zero_div, List.map_cons, ih]; rfl
  rw [N, digs, digs, h0, h1, List.map_cons, List.map_cons, hz]; rfl
theorem small_ct {M : Mem} {c : Nat} (hc : c < 4294967296) : Ct Tryd.prog 25 #[.int .i64 (c : Int)] M (Det (.agg (N c).toArray) M) := by
  refine ct_of (vs := [.int .i64 (c : Int)]) Tryd.func25 rfl Tryd.ntmps25 rfl fun w0 => ?_
  refine at_seq ?_
  refine at_region ?_
  refine at_n rfl rfl (opr_alloc rfl zero27 rfl) ?_
  intro g0
  refine at_nil ?_
  refine at_then ?_
  refine at_seq ?_
  refine at_region ?_
  refine at_d rfl rfl (opr_move rfl rfl) ?_
  refine at_d rfl rfl (opr_to64 rfl rfl Tryd.underlying3 Tryd.underlying25 (Nat.lt_trans hc (by decide))) ?_
  refine at_d rfl rfl (opr_rem64 rfl rfl rfl (by decide)) ?_
  refine at_d rfl rfl (opr_move rfl rfl) ?_
  refine at_d rfl rfl (opr_to64 rfl rfl Tryd.underlying3 Tryd.underlying25 (Nat.lt_trans hc (by decide))) ?_
  refine at_d rfl rfl (opr_quo64 rfl rfl rfl (by decide) (Nat.lt_trans hc (by decide))) ?_
  refine at_d rfl rfl (opr_buildE rfl rfl (built_two _ _) (N_small hc)) ?_
  refine at_d rfl rfl (opr_store (i := 0) rfl rfl rfl rfl rfl size27 (N_length _) (by rw [N_length]; decide) (N_flat _) N_over) ?_
  refine at_nil ?_
  refine at_then ?_
  refine at_ret ?_
  refine done_of (res1 Tryd.results25 (res_cell (i := 0) rfl rfl Tryd.underlying27 rfl size27 (N_length _) (N_at _))) ⟨rfl, rfl⟩ (by repeat (first | exact List.Sublist.refl _ | apply List.Sublist.cons))
theorem po_top {a : Nat} (ha1 : a + 1 < RR) : ¬ a % 65536 ^ 28 = ones 28 := by
  have e : ones 28 = RR - 1 := by decide +kernel
  rw [e, RR_pow, Nat.mod_eq_of_lt (by omega)]
  omega
theorem plusOne_ct {M : Mem} {a : Nat} (ha1 : a + 1 < RR) : Ct Tryd.prog 28 #[.agg (N a).toArray] M (Det (.agg (N (a + 1)).toArray) M) := by
  have ha : a < RR := by omega
  refine ct_of (vs := [.agg (N a).toArray]) Tryd.func28 rfl Tryd.ntmps28 rfl fun w0 => ?_
  refine at_seq ?_
  refine at_region ?_
  refine at_n rfl rfl (opr_box rfl rfl rfl) ?_
  intro g0
  refine at_n rfl rfl (opr_alloc rfl zero27 rfl) ?_
  intro g1
  refine at_nil ?_
  refine at_then ?_
  refine at_seq ?_
  refine at_seq ?_
  refine at_region ?_
  refine at_d rfl rfl (opr_move rfl rfl) ?_
  refine at_nil ?_
  refine at_then ?_
  refine at_block ?_
  refine at_loop (fun (x : Nat) => [(1, .pointer (some ⟨g0, 0, none⟩)), (2, .pointer (some ⟨g1, 0, none⟩)), (4, .int .i64 (x : Int))]) (fun (x : Nat) => ⟨g1, 27, N (0)⟩ :: ⟨g0, 27, N (a - ones x)⟩ :: M) (fun (x : Nat) => 28 - x) (fun (x : Nat) => x ≤ 28 ∧ a % 65536 ^ x = ones x) 0 ⟨Nat.zero_le _, Nat.mod_one _⟩ (allIn ⟨rfl, rfl, rfl, trivial⟩) (by simp only [ones_zero]; exact List.Sublist.refl _) ?_
  rintro k ⟨hk, hm⟩
  dsimp only
  refine at_seq ?_
  refine at_region ?_
  refine at_d rfl rfl (opr_lss (a := k) (b := 28) rfl rfl rfl) ?_
  refine at_nil ?_
  refine at_then ?_
  refine at_seq ?_
  refine at_cond rfl (fun ht => ?_) (fun ht => ?_)
  ·
    have hlt : k < 28 := of_decide_eq_true ht
    refine at_skip ?_
    refine at_then ?_
    refine at_seq ?_
    refine at_block ?_
    refine at_seq ?_
    refine at_region ?_
    refine at_d rfl rfl (opr_move rfl rfl) ?_
    refine at_d rfl rfl (opr_assign rfl rfl) ?_
    refine at_nil ?_
    refine at_then ?_
    refine at_seq ?_
    refine at_region ?_
    refine at_d rfl rfl (opr_move rfl rfl) ?_
    refine at_d rfl rfl (opr_indexAddr (j := k) (off' := k) rfl rfl rfl Tryd.underlying27 (by omega) size25 (by omega)) ?_
    refine at_d rfl rfl (opr_load1 (i := 1) rfl rfl rfl Tryd.underlying25 rfl (W_get ((digs_get 28 _ k hlt).trans (congrArg some (po_digit hlt ha hm))))) ?_
    refine at_d rfl rfl (opr_eq (opr_add64 rfl rfl rfl) (u64_eq (Nat.mod_eq_of_lt (Nat.lt_of_lt_of_le (Nat.succ_lt_succ (Nat.mod_lt _ (by decide))) (by decide)) : (a / 65536 ^ k % 65536 + 1) % 18446744073709551616 = _))) ?_
    refine at_d rfl rfl (opr_indexAddr (j := k) (off' := k) rfl rfl rfl Tryd.underlying27 (by omega) size25 (by omega)) ?_
    refine at_d rfl rfl (opr_store (i := 1) rfl rfl rfl rfl rfl size25 rfl (by rw [N_length]; omega) flat_one (W_put (by rw [digs_length]; omega) rfl)) ?_
    refine at_nil ?_
    refine at_then ?_
    refine at_seq ?_
    refine at_seq ?_
    refine at_region ?_
    refine at_d rfl rfl (opr_move rfl rfl) ?_
    refine at_d rfl rfl (opr_indexAddr (j := k) (off' := k) rfl rfl rfl Tryd.underlying27 (by omega) size25 (by omega)) ?_
    refine at_d rfl rfl (opr_load1 (i := 1) rfl rfl rfl Tryd.underlying25 rfl (W_get (List.getElem?_set_self (by rw [digs_length]; exact hlt)))) ?_
    refine at_d rfl rfl (opr_lss (a := a / 65536 ^ k % 65536 + 1) (b := 65536) rfl rfl rfl) ?_
    refine at_nil ?_
    refine at_then ?_
    refine at_cond rfl (fun ht2 => ?_) (fun ht2 => ?_)
    ·
      have hsm : a / 65536 ^ k % 65536 + 1 < 65536 := of_decide_eq_true ht2
      refine at_exit ?_
      refine at_then_exit ?_
      refine at_inBlock_ne rfl ?_
      refine at_then_exit ?_
      refine at_then_exit ?_
      refine at_inBlock_same ?_
      refine at_then ?_
      refine at_seq ?_
      refine at_region ?_
      refine at_d rfl rfl (opr_load (i := 1) rfl rfl rfl Tryd.underlying27 rfl size27 (N_length _) ((congrArg (fun l : List Nat => ((W l).drop 0).take 28) (po_inc hlt ha hm hsm)).trans (N_at (a + 1)))) ?_
      refine at_d rfl rfl (opr_store (i := 0) rfl rfl rfl rfl rfl size27 (N_length _) (by rw [N_length]; decide) (N_flat _) N_over) ?_
      refine at_nil ?_
      refine at_then ?_
      refine at_ret ?_
      refine done_of (res1 Tryd.results28 (res_cell (i := 0) rfl rfl Tryd.underlying27 rfl size27 (N_length _) (N_at _))) ⟨rfl, rfl⟩ (by repeat (first | exact List.Sublist.refl _ | apply List.Sublist.cons))
    ·
      have hbig : a / 65536 ^ k % 65536 = 65535 := po_big (of_decide_eq_false ht2)
      refine at_skip ?_
      refine at_then ?_
      refine at_region ?_
      refine at_d rfl rfl (opr_move rfl rfl) ?_
      refine at_d rfl rfl (opr_indexAddr (j := k) (off' := k) rfl rfl rfl Tryd.underlying27 (by omega) size25 (by omega)) ?_
      refine at_d rfl rfl (opr_store (i := 1) rfl rfl rfl rfl rfl size25 rfl (by rw [W_length, List.length_set, digs_length]; omega) flat_one (W_put (by rw [List.length_set, digs_length]; omega) (po_zero hlt ha hm hbig))) ?_
      refine at_nil ?_
      refine at_inBlock_normal ?_
      refine at_then ?_
      refine at_region ?_
      refine at_d rfl rfl (opr_addI (a := k) (b := 1) rfl rfl rfl (by omega)) ?_
      refine at_d rfl rfl (opr_move rfl rfl) ?_
      refine at_nil ?_
      exact at_round (k + 1) ⟨by omega, po_next hm hbig⟩ (by omega) (allIn ⟨rfl, rfl, rfl, trivial⟩) (List.Sublist.refl _)
  ·
    obtain rfl : k = 28 := by have := of_decide_eq_false ht; omega
    exact absurd hm (po_top ha1)
theorem built_zero : Tryd.prog.built 46 [] = some (List.replicate 56 (Value.int .u8 0)).toArray := by kernel_rfl
theorem built_eone : Tryd.prog.built 46 [(0, .int .u8 1)] = some (.int .u8 ((1 : Nat) : Int) :: List.replicate 55 (.int .u8 0)).toArray := by kernel_rfl
theorem E_zero0 : List.replicate 56 (Value.int .u8 0) = E 0 := rfl
theorem fIsZero_ct {M : Mem} {ig Tp : Nat} (hG : M[ig]? = some ⟨0, Tp, EE [pp]⟩) {iz gz Tz kz oz a : Nat} {lz : List Nat} (hz : M[iz]? = some ⟨gz, Tz, EE lz⟩) (hkz : lz[kz]? = some a) (hoz : 56 * kz = oz) (ha : a < RR) {t : Bool} (ht : decide (a % pp = 0) = t) : Ct Tryd.prog 45 #[.pointer (some ⟨gz, oz, none⟩)] M (Det (.bool t) (M.set iz ⟨gz, Tz, EE (lz.set kz (a % pp))⟩)) := by
  refine ct_of (vs := [.pointer (some ⟨gz, oz, none⟩)]) Tryd.func45 rfl Tryd.ntmps45 rfl fun w0 => ?_
  refine at_seq ?_
  refine at_region ?_
  refine at_d rfl rfl (opr_assign rfl rfl) ?_
  refine at_nil ?_
  refine at_then ?_
  refine at_seq ?_
  refine at_region ?_
  refine at_d rfl rfl (opr_move rfl rfl) ?_
  refine at_d rfl rfl (opr_call rfl rfl rfl Tryd.func56 (by kernel_rfl) rfl (modp_ct (ig := ig) (iz := iz) (kz := kz) hG hz hkz hoz ha)) ?_
  refine at_nil ?_
  refine at_then ?_
  refine at_seq ?_
  refine at_region ?_
  refine at_d rfl rfl (opr_move rfl rfl) ?_
  refine at_d rfl rfl (opr_nilCheck rfl rfl) ?_
  refine at_d rfl rfl (opr_load (i := iz) rfl rfl (get_set hz) Tryd.underlying46 rfl size46 (E_length _) (EE_at (lset (List.getElem?_eq_some_iff.1 hkz).1) hoz rfl)) ?_
  refine at_d rfl rfl (opr_buildE rfl rfl built_zero E_zero0) ?_
  refine at_d rfl rfl (opr_eqlE rfl rfl rfl Tryd.underlying46 Tryd.underlying5 size5 (by kernel_rfl) (modp_lt _) RR_zero) ?_
  refine at_d rfl rfl (opr_assign rfl rfl) ?_
  refine at_nil ?_
  refine at_then ?_
  refine at_ret ?_
  exact done_of (res1 Tryd.results45 (res_tmp (congrArg (fun b => some (Value.bool b)) ht))) ⟨rfl, rfl⟩ (List.Sublist.refl _)
theorem iIsZero_ct {M : Mem} {ig Tp : Nat} (hG : M[ig]? = some ⟨0, Tp, EE [pp]⟩) {a : Nat} (ha : a < RR) {t : Bool} (ht : decide (a % pp = 0) = t) : Ct Tryd.prog 23 #[.agg (E a).toArray] M (Det (.bool t) M) := by
  refine ct_of (vs := [.agg (E a).toArray]) Tryd.func23 rfl Tryd.ntmps23 rfl fun w0 => ?_
  refine at_seq ?_
  refine at_region ?_
  refine at_n rfl rfl (opr_box (cs := EE [a]) rfl rfl (E_box _)) ?_
  intro g0
  refine at_d rfl rfl (opr_assign rfl rfl) ?_
  refine at_nil ?_
  refine at_then ?_
  refine at_seq ?_
  refine at_region ?_
  refine at_d rfl rfl (opr_load (i := 0) rfl rfl rfl Tryd.underlying22 rfl size22 (E_length _) (EE_at (k := 0) rfl rfl rfl)) ?_
  refine at_n rfl rfl (opr_alloc rfl zero46 rfl) ?_
  intro g1
  refine at_d rfl rfl (opr_store (i := 0) rfl rfl rfl rfl rfl size46 (E_length _) (by rw [EE_length]; exact Nat.le_of_ble_eq_true rfl) (E_flat _) (EE_set (k := 0) (Nat.le_of_ble_eq_true rfl) rfl)) ?_
  refine at_nil ?_
  refine at_then ?_
  refine at_seq ?_
  refine at_region ?_
  refine at_d rfl rfl (opr_call rfl rfl rfl Tryd.func45 (by kernel_rfl) rfl (fIsZero_ct (ig := ig + 2) (iz := 0) (kz := 0) hG rfl rfl rfl ha ht)) ?_
  refine at_d rfl rfl (opr_assign rfl rfl) ?_
  refine at_nil ?_
  refine at_then ?_
  refine at_ret ?_
  refine done_of (res1 Tryd.results23 (res_tmp rfl)) ⟨rfl, rfl⟩ (by repeat (first | exact List.Sublist.refl _ | apply List.Sublist.cons))
theorem fIsOne_ct {M : Mem} {ig Tp : Nat} (hG : M[ig]? = some ⟨0, Tp, EE [pp]⟩) {iz gz Tz kz oz a : Nat} {lz : List Nat} (hz : M[iz]? = some ⟨gz, Tz, EE lz⟩) (hkz : lz[kz]? = some a) (hoz : 56 * kz = oz) (ha : a < RR) {t : Bool} (ht : decide (a % pp = 1) = t) : Ct Tryd.prog 46 #[.pointer (some ⟨gz, oz, none⟩)] M (Det (.bool t) (M.set iz ⟨gz, Tz, EE (lz.set kz (a % pp))⟩)) := by
  refine ct_of (vs := [.pointer (some ⟨gz, oz, none⟩)]) Tryd.func46 rfl Tryd.ntmps46 rfl fun w0 => ?_
  refine at_seq ?_
  refine at_region ?_
  refine at_d rfl rfl (opr_assign rfl rfl) ?_
  refine at_nil ?_
  refine at_then ?_
  refine at_seq ?_
  refine at_region ?_
  refine at_d rfl rfl (opr_move rfl rfl) ?_
  refine at_d rfl rfl (opr_call rfl rfl rfl Tryd.func56 (by kernel_rfl) rfl (modp_ct (ig := ig) (iz := iz) (kz := kz) hG hz hkz hoz ha)) ?_
  refine at_nil ?_
  refine at_then ?_
  refine at_seq ?_
  refine at_region ?_
  refine at_d rfl rfl (opr_move rfl rfl) ?_
  refine at_d rfl rfl (opr_nilCheck rfl rfl) ?_
  refine at_d rfl rfl (opr_load (i := iz) rfl rfl (get_set hz) Tryd.underlying46 rfl size46 (E_length _) (EE_at (lset (List.getElem?_eq_some_iff.1 hkz).1) hoz rfl)) ?_
  refine at_d rfl rfl (opr_buildE rfl rfl built_eone (E_small (by decide))) ?_
  refine at_d rfl rfl (opr_eqlE rfl rfl rfl Tryd.underlying46 Tryd.underlying5 size5 (by kernel_rfl) (modp_lt _) RR_one) ?_
  refine at_d rfl rfl (opr_assign rfl rfl) ?_
  refine at_nil ?_
  refine at_then ?_
  refine at_ret ?_
  exact done_of (res1 Tryd.results46 (res_tmp (congrArg (fun b => some (Value.bool b)) ht))) ⟨rfl, rfl⟩ (List.Sublist.refl _)
theorem iIsOne_ct {M : Mem} {ig Tp : Nat} (hG : M[ig]? = some ⟨0, Tp, EE [pp]⟩) {a : Nat} (ha : a < RR) {t : Bool} (ht : decide (a % pp = 1) = t) : Ct Tryd.prog 24 #[.agg (E a).toArray] M (Det (.bool t) M) := by
  refine ct_of (vs := [.agg (E a).toArray]) Tryd.func24 rfl Tryd.ntmps24 rfl fun w0 => ?_
  refine at_seq ?_
  refine at_region ?_
  refine at_n rfl rfl (opr_box (cs := EE [a]) rfl rfl (E_box _)) ?_
  intro g0
  refine at_d rfl rfl (opr_assign rfl rfl) ?_
  refine at_nil ?_
  refine at_then ?_
  refine at_seq ?_
  refine at_region ?_
  refine at_d rfl rfl (opr_load (i := 0) rfl rfl rfl Tryd.underlying22 rfl size22 (E_length _) (EE_at (k := 0) rfl rfl rfl)) ?_
  refine at_n rfl rfl (opr_alloc rfl zero46 rfl) ?_
  intro g1
  refine at_d rfl rfl (opr_store (i := 0) rfl rfl rfl rfl rfl size46 (E_length _) (by rw [EE_length]; exact Nat.le_of_ble_eq_true rfl) (E_flat _) (EE_set (k := 0) (Nat.le_of_ble_eq_true rfl) rfl)) ?_
  refine at_nil ?_
  refine at_then ?_
  refine at_seq ?_
  refine at_region ?_
  refine at_d rfl rfl (opr_call rfl rfl rfl Tryd.func46 (by kernel_rfl) rfl (fIsOne_ct (ig := ig + 2) (iz := 0) (kz := 0) hG rfl rfl rfl ha ht)) ?_
  refine at_d rfl rfl (opr_assign rfl rfl) ?_
  refine at_nil ?_
  refine at_then ?_
  refine at_ret ?_
  refine done_of (res1 Tryd.results24 (res_tmp rfl)) ⟨rfl, rfl⟩ (by repeat (first | exact List.Sublist.refl _ | apply List.Sublist.cons))
theorem fOne_ct {M : Mem} : Ct Tryd.prog 47 #[] M (Det (.agg (E 1).toArray) M) := by
  refine ct_of (vs := []) Tryd.func47 rfl Tryd.ntmps47 rfl fun w0 => ?_
  refine at_seq ?_
  refine at_region ?_
  refine at_n rfl rfl (opr_alloc rfl zero46 rfl) ?_
  intro g0
  refine at_nil ?_
  refine at_then ?_
  refine at_seq ?_
  refine at_region ?_
  refine at_d rfl rfl (opr_buildE rfl rfl built_eone (E_small (by decide))) ?_
  refine at_d rfl rfl (opr_store (i := 0) rfl rfl rfl rfl rfl size46 (E_length _) (by rw [EE_length]; exact Nat.le_of_ble_eq_true rfl) (E_flat _) (EE_set (k := 0) (Nat.le_of_ble_eq_true rfl) rfl)) ?_
  refine at_nil ?_
  refine at_then ?_
  refine at_ret ?_
  refine done_of (res1 Tryd.results47 (res_cell (i := 0) rfl rfl Tryd.underlying46 rfl size46 (E_length _) (EE_at (k := 0) rfl rfl rfl))) ⟨rfl, rfl⟩ (by repeat (first | exact List.Sublist.refl _ | apply List.Sublist.cons))
theorem iOne_ct {M : Mem} : Ct Tryd.prog 29 #[] M (Det (.agg (E 1).toArray) M) := by
  refine ct_of (vs := []) Tryd.func29 rfl Tryd.ntmps29 rfl fun w0 => ?_
  refine at_seq ?_
  refine at_region ?_
  refine at_n rfl rfl (opr_alloc rfl zero22 rfl) ?_
  intro g0
  refine at_nil ?_
  refine at_then ?_
  refine at_seq ?_
  refine at_region ?_
  refine at_d rfl rfl (opr_call rfl rfl rfl Tryd.func47 (by kernel_rfl) rfl (fOne_ct)) ?_
  refine at_d rfl rfl (opr_store (i := 0) rfl rfl rfl rfl rfl size22 (E_length _) (by rw [EE_length]; exact Nat.le_of_ble_eq_true rfl) (E_flat _) (EE_set (k := 0) (Nat.le_of_ble_eq_true rfl) rfl)) ?_
  refine at_nil ?_
  refine at_then ?_
  refine at_ret ?_
  refine done_of (res1 Tryd.results29 (res_cell (i := 0) rfl rfl Tryd.underlying22 rfl size22 (E_length _) (EE_at (k := 0) rfl rfl rfl))) ⟨rfl, rfl⟩ (by repeat (first | exact List.Sublist.refl _ | apply List.Sublist.cons))
theorem fP_ct {M : Mem} {ig Tp : Nat} (hG : M[ig]? = some ⟨0, Tp, EE [pp]⟩) : Ct Tryd.prog 48 #[] M (Det (.agg (E pp).toArray) M) := by
  refine ct_of (vs := []) Tryd.func48 rfl Tryd.ntmps48 rfl fun w0 => ?_
  refine at_seq ?_
  refine at_region ?_
  refine at_n rfl rfl (opr_alloc rfl zero46 rfl) ?_
  intro g0
  refine at_nil ?_
  refine at_then ?_
  refine at_seq ?_
  refine at_region ?_
  refine at_d rfl rfl (opr_load (i := ig + 1) rfl rfl hG Tryd.underlying46 rfl size46 (E_length _) (EE_at (k := 0) rfl rfl rfl)) ?_
  refine at_d rfl rfl (opr_store (i := 0) rfl rfl rfl rfl rfl size46 (E_length _) (by rw [EE_length]; exact Nat.le_of_ble_eq_true rfl) (E_flat _) (EE_set (k := 0) (Nat.le_of_ble_eq_true rfl) rfl)) ?_
  refine at_nil ?_
  refine at_then ?_
  refine at_ret ?_
  refine done_of (res1 Tryd.results48 (res_cell (i := 0) rfl rfl Tryd.underlying46 rfl size46 (E_length _) (EE_at (k := 0) rfl rfl rfl))) ⟨rfl, rfl⟩ (by repeat (first | exact List.Sublist.refl _ | apply List.Sublist.cons))
theorem iP_ct {M : Mem} {ig Tp : Nat} (hG : M[ig]? = some ⟨0, Tp, EE [pp]⟩) : Ct Tryd.prog 31 #[] M (Det (.agg (E pp).toArray) M) := by
  refine ct_of (vs := []) Tryd.func31 rfl Tryd.ntmps31 rfl fun w0 => ?_
  refine at_seq ?_
  refine at_region ?_
  refine at_n rfl rfl (opr_alloc rfl zero22 rfl) ?_
  intro g0
  refine at_nil ?_
  refine at_then ?_
  refine at_seq ?_
  refine at_region ?_
  refine at_d rfl rfl (opr_call rfl rfl rfl Tryd.func48 (by kernel_rfl) rfl (fP_ct (ig := ig + 1) hG)) ?_
  refine at_d rfl rfl (opr_store (i := 0) rfl rfl rfl rfl rfl size22 (E_length _) (by rw [EE_length]; exact Nat.le_of_ble_eq_true rfl) (E_flat _) (EE_set (k := 0) (Nat.le_of_ble_eq_true rfl) rfl)) ?_
  refine at_nil ?_
  refine at_then ?_
  refine at_ret ?_
  refine done_of (res1 Tryd.results31 (res_cell (i := 0) rfl rfl Tryd.underlying22 rfl size22 (E_length _) (EE_at (k := 0) rfl rfl rfl))) ⟨rfl, rfl⟩ (by repeat (first | exact List.Sublist.refl _ | apply List.Sublist.cons))
theorem built_nzero : Tryd.prog.built 27 [] = some (List.replicate 28 (Value.int .u64 0)).toArray := by kernel_rfl
theorem N_zero0 : List.replicate 28 (Value.int .u64 0) = N 0 := rfl
theorem fnTells_ct {M : Mem} {ig Tp : Nat} (hG : M[ig]? = some ⟨0, Tp, EE [pp]⟩) {a : Nat} (ha : a < RR) : Ct Tryd.prog 6 #[.agg (E a).toArray] M (Det (.bool true) M) := by
  refine ct_of (vs := [.agg (E a).toArray]) Tryd.func6 rfl Tryd.ntmps6 rfl fun w0 => ?_
  refine at_seq ?_
  refine at_region ?_
  refine at_n rfl rfl (opr_box (cs := EE [a]) rfl rfl (E_box _)) ?_
  intro g0
  refine at_d rfl rfl (opr_assign rfl rfl) ?_
  refine at_nil ?_
  refine at_then ?_
  refine at_seq ?_
  refine at_region ?_
  refine at_d rfl rfl (opr_load (i := 0) rfl rfl rfl Tryd.underlying22 rfl size22 (E_length _) (EE_at (k := 0) rfl rfl rfl)) ?_
  refine at_d rfl rfl (opr_call rfl rfl rfl Tryd.func18 (by kernel_rfl) rfl (of_ct _)) ?_
  refine at_d rfl rfl (opr_call rfl rfl rfl Tryd.func17 (by kernel_rfl) rfl (mod_ct ha)) ?_
  refine at_n rfl rfl (opr_alloc rfl zero27 rfl) ?_
  intro g1
  refine at_d rfl rfl (opr_store (i := 0) rfl rfl rfl rfl rfl size27 (N_length _) (by rw [N_length]; decide) (N_flat _) N_over) ?_
  refine at_nil ?_
  refine at_then ?_
  refine at_seq ?_
  refine at_drawQ (by kernel_rfl) (by kernel_rfl) (List.cons_ne_nil _ _) ?_
  refine dr_op rfl rfl (opr_load (i := 1) rfl rfl rfl Tryd.underlying22 rfl size22 (E_length _) (EE_at (k := 0) rfl rfl rfl)) ?_
  refine dr_op rfl rfl (opr_call rfl rfl rfl Tryd.func23 (by kernel_rfl) rfl (iIsZero_ct (ig := ig + 2) (t := decide (a % pp = 0)) hG ha rfl)) ?_
  refine dr_op rfl rfl (opr_load (i := 0) rfl rfl rfl Tryd.underlying27 rfl size27 (N_length _) (N_at _)) ?_
  refine dr_op rfl rfl (opr_buildE rfl rfl built_nzero N_zero0) ?_
  refine dr_op rfl rfl (opr_eqlN rfl rfl rfl Tryd.underlying27 Tryd.underlying25 size25 (by kernel_rfl) (modp_lt _) RR_zero) ?_
  refine dr_op rfl rfl (opr_eqlBT rfl rfl rfl Tryd.underlying4 rfl) ?_
  refine dr_op rfl rfl (opr_move rfl rfl) ?_
  refine dr_op rfl rfl (opr_load (i := 1) rfl rfl rfl Tryd.underlying22 rfl size22 (E_length _) (EE_at (k := 0) rfl rfl rfl)) ?_
  refine dr_op rfl rfl (opr_call rfl rfl rfl Tryd.func24 (by kernel_rfl) rfl (iIsOne_ct (ig := ig + 2) (t := decide (a % pp = 1)) hG ha rfl)) ?_
  refine dr_op rfl rfl (opr_load (i := 0) rfl rfl rfl Tryd.underlying27 rfl size27 (N_length _) (N_at _)) ?_
  refine dr_op rfl rfl (opr_call rfl rfl rfl Tryd.func25 (by kernel_rfl) rfl (small_ct (c := 1) (by decide))) ?_
  refine dr_op rfl rfl (opr_eqlN rfl rfl rfl Tryd.underlying27 Tryd.underlying25 size25 (by kernel_rfl) (modp_lt _) RR_one) ?_
  refine dr_op rfl rfl (opr_eqlBT rfl rfl rfl Tryd.underlying4 rfl) ?_
  refine dr_op rfl rfl (opr_pickT rfl rfl rfl) ?_
  refine dr_op rfl rfl (opr_move rfl rfl) ?_
  refine dr_op rfl rfl (opr_call rfl rfl rfl Tryd.func27 (by kernel_rfl) rfl (p_ct)) ?_
  refine dr_op rfl rfl (opr_call rfl rfl rfl Tryd.func26 (by kernel_rfl) rfl (bytes_ct _)) ?_
  refine dr_op rfl rfl (opr_call rfl rfl rfl Tryd.func23 (by kernel_rfl) rfl (iIsZero_ct (ig := ig + 2) (t := true) hG RR_pp (by decide +kernel))) ?_
  refine dr_op rfl rfl (opr_pickT rfl rfl rfl) ?_
  refine dr_op rfl rfl (opr_move rfl rfl) ?_
  refine dr_op rfl rfl (opr_call rfl rfl rfl Tryd.func27 (by kernel_rfl) rfl (p_ct)) ?_
  refine dr_op rfl rfl (opr_call rfl rfl rfl Tryd.func28 (by kernel_rfl) rfl (plusOne_ct (a := pp) (by decide))) ?_
  refine dr_op rfl rfl (opr_call rfl rfl rfl Tryd.func26 (by kernel_rfl) rfl (bytes_ct _)) ?_
  refine dr_op rfl rfl (opr_call rfl rfl rfl Tryd.func24 (by kernel_rfl) rfl (iIsOne_ct (ig := ig + 2) (t := true) hG (by decide) (by decide +kernel))) ?_
  refine dr_op rfl rfl (opr_pickT rfl rfl rfl) ?_
  refine dr_op rfl rfl (opr_move rfl rfl) ?_
  refine dr_op rfl rfl (opr_call rfl rfl rfl Tryd.func29 (by kernel_rfl) rfl (iOne_ct)) ?_
  refine dr_op rfl rfl (opr_call rfl rfl rfl Tryd.func30 (by kernel_rfl) rfl (one_ct)) ?_
  refine dr_op rfl rfl (opr_eqlT rfl rfl rfl Tryd.underlying22 Tryd.underlying5 size5 (by kernel_rfl) rfl RR_one) ?_
  refine dr_op rfl rfl (opr_pickT rfl rfl rfl) ?_
  refine dr_op rfl rfl (opr_move rfl rfl) ?_
  refine dr_op rfl rfl (opr_call rfl rfl rfl Tryd.func31 (by kernel_rfl) rfl (iP_ct (ig := ig + 2) hG)) ?_
  refine dr_op rfl rfl (opr_call rfl rfl rfl Tryd.func27 (by kernel_rfl) rfl (p_ct)) ?_
  refine dr_op rfl rfl (opr_call rfl rfl rfl Tryd.func15 (by kernel_rfl) rfl (is_true rfl RR_pp)) ?_
  refine dr_op rfl rfl (opr_pickT rfl rfl rfl) ?_
  refine dr_last rfl rfl (opr_assign rfl rfl) ?_
  refine ⟨rfl, ?_⟩
  refine at_then ?_
  refine at_ret ?_
  refine done_of (res1 Tryd.results6 (res_tmp rfl)) ⟨rfl, rfl⟩ (by repeat (first | exact List.Sublist.refl _ | apply List.Sublist.cons))
end Go.Proofs.YtjnnogmlfepenaaDoor
