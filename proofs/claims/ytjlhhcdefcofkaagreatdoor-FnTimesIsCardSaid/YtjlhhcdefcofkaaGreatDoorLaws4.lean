/- Laws of products; what tells 0 and 1. -/
import Derived.Test.YtjlhhcdefcofkaaGreatDoorLaws3
import Derived.Test.YtjlhhcdefcofkaaGreatDoorProduct
namespace Go.Proofs.YtjlhhcdefcofkaaGreatDoor
open Go
set_option maxRecDepth 100000

theorem ring_add {a b : Nat} (ha : a < RR) (hb : b < RR) : addF a b % pp = addF b a % pp := by rw [addF_mod ha hb, addF_mod hb ha, Nat.add_comm]
theorem ring_mul {a b : Nat} : a * b % pp = b * a % pp := by rw [Nat.mul_comm]
theorem ring_addA {a b c : Nat} (ha : a < RR) (hb : b < RR) (hc : c < RR) : addF (addF a b % pp) c % pp = addF a (addF b c % pp) % pp := by
  rw [addF_mod (modp_lt _) hc, addF_mod ha (modp_lt _), addF_mod ha hb, addF_mod hb hc, Nat.mod_add_mod, Nat.add_mod_mod, Nat.add_assoc]
theorem ring_mulA {a b c : Nat} : a * b % pp * c % pp = a * (b * c % pp) % pp := by
  rw [Nat.mod_mul_mod, Nat.mul_mod_mod, Nat.mul_assoc]
theorem ring_dist {a b c : Nat} (hb : b < RR) (hc : c < RR) : a * (addF b c % pp) % pp = addF (a * b % pp) (a * c % pp) % pp := by
  rw [addF_mod (modp_lt _) (modp_lt _), addF_mod hb hc, Nat.mul_mod_mod, Nat.mod_add_mod, Nat.add_mod_mod, Nat.mul_add]
theorem opr_eqlBT {P : Program} {St : Slots} {M : Mem} {o : Oper} {x y : Operand} {T T' : Nat} {p q : Bool} (ho : o.op = .binOp .eql T x y T') (hx : evalS St x = some (.bool p)) (hy : evalS St y = some (.bool q)) (hu : P.underlying T = some .bool) (h : p = q) : OpR P St M o (Det (.bool true) M) := by
  have k := opr_eqlB (M := M) ho hx hy hu
  rw [h, beq_self_eq_true] at k
  exact k
theorem digs_bump {b k n j y : Nat} (hb : 0 < b) (hj : j < k) (hn : n < b ^ k) (h : n / b ^ j % b + y < b) : (digs b k n).set j (n / b ^ j % b + y) = digs b k (n + b ^ j * y) := by
  have hg := digs_get (b := b) k n j hj
  have hv := dval_addAt (b := b) (digs b k n) j _ y hg
  rw [dval_digs, Nat.mod_eq_of_lt hn] at hv
  have hall : ∀ d ∈ (digs b k n).set j (n / b ^ j % b + y), d < b := by
    intro d hd
    rcases List.mem_or_eq_of_mem_set hd with hd | rfl
    · exact digs_lt hb k n d hd
    · exact h
  have := digs_dval _ hall
  rw [hv, List.length_set, digs_length] at this
  exact this.symm
theorem digs_drop0 {b k n j : Nat} (hb : 0 < b) (hj : j < k) (hn : n < b ^ k) : (digs b k n).set j 0 = digs b k (n - b ^ j * (n / b ^ j % b)) := by
  have hle : b ^ j * (n / b ^ j % b) ≤ n := Nat.le_trans (Nat.mul_le_mul_left _ (Nat.mod_le _ _)) (Nat.mul_div_le n _)
  have hq : (n - b ^ j * (n / b ^ j % b)) / b ^ j % b = 0 := by
    rw [Nat.sub_mul_div_of_le]
    · have e := Nat.mod_add_div (n / b ^ j) b
      have : n / b ^ j - n / b ^ j % b = b * (n / b ^ j / b) := by omega
      rw [this, Nat.mul_mod_right]
    · exact hle
  have h := digs_bump (b := b) (k := k) (n := n - b ^ j * (n / b ^ j % b)) (j := j) (y := n / b ^ j % b) hb hj (Nat.lt_of_le_of_lt (Nat.sub_le _ _) hn) (by rw [hq, Nat.zero_add]; exact Nat.mod_lt _ hb)
  rw [Nat.sub_add_cancel hle, hq, Nat.zero_add] at h
  rw [← h, List.set_set]
  apply List.ext_getElem?
  intro i
  by_cases hi : i = j
  · subst hi
    rw [List.getElem?_set_self (by rw [digs_length]; exact hj), digs_get k _ i hj, hq]
  · rw [List.getElem?_set_ne (fun e => hi e.symm)]
/-- One more: the content when the digits below k are 65535. -/
def ones (k : Nat) : Nat := 65536 ^ k - 1
theorem po_digit {a k : Nat} (_hk : k < 28) (_ha : a < RR) (h : a % 65536 ^ k = ones k) : (a - ones k) / 65536 ^ k % 65536 = a / 65536 ^ k % 65536 := by
  have h0 : 0 < 65536 ^ k := Nat.pow_pos (by decide)
  have e := Nat.mod_add_div a (65536 ^ k)
  have : a - ones k = 65536 ^ k * (a / 65536 ^ k) := by rw [← h]; omega
  rw [this, Nat.mul_div_cancel_left _ h0]
theorem po_le {a k : Nat} (h : a % 65536 ^ k = ones k) : ones k ≤ a := h ▸ Nat.mod_le _ _
theorem po_inc {a k : Nat} (hk : k < 28) (ha : a < RR) (h : a % 65536 ^ k = ones k) (hd : a / 65536 ^ k % 65536 + 1 < 65536) : (digs 65536 28 (a - ones k)).set k (a / 65536 ^ k % 65536 + 1) = digs 65536 28 (a + 1) := by
  rw [← po_digit hk ha h] at hd ⊢
  rw [digs_bump (by decide) hk (by rw [RR_pow]; omega) hd, Nat.mul_one]
  have h0 : 0 < 65536 ^ k := Nat.pow_pos (by decide)
  have := po_le h
  unfold ones at *
  congr 1
  omega
theorem po_big {a k : Nat} (hd : ¬ a / 65536 ^ k % 65536 + 1 < 65536) : a / 65536 ^ k % 65536 = 65535 := by
  have := Nat.mod_lt (a / 65536 ^ k) (show 0 < 65536 by decide)
  omega
theorem po_next {a k : Nat} (h : a % 65536 ^ k = ones k) (hd : a / 65536 ^ k % 65536 = 65535) : a % 65536 ^ (k + 1) = ones (k + 1) := by
  have h0 : 0 < 65536 ^ k := Nat.pow_pos (by decide)
  rw [Nat.pow_succ, Nat.mod_mul, h, hd]
  unfold ones
  rw [Nat.pow_succ]
  omega
theorem po_zero {a k x : Nat} (hk : k < 28) (ha : a < RR) (h : a % 65536 ^ k = ones k) (hd : a / 65536 ^ k % 65536 = 65535) : ((digs 65536 28 (a - ones k)).set k x).set k 0 = digs 65536 28 (a - ones (k + 1)) := by
  rw [List.set_set, digs_drop0 (by decide) hk (by rw [RR_pow]; omega), po_digit hk ha h, hd]
  have h0 : 0 < 65536 ^ k := Nat.pow_pos (by decide)
  unfold ones
  rw [Nat.pow_succ]
  congr 1
  omega
theorem ones_zero (a : Nat) : N (a - ones 0) = N a := by rw [ones, Nat.pow_zero, Nat.sub_self, Nat.sub_zero]
theorem built_two (x y : Nat) : Tryz.prog.built 31 [(0, .int .u64 (x : Int)), (1, .int .u64 (y : Int))] = some (.int .u64 (x : Int) :: .int .u64 (y : Int) :: List.replicate 26 (.int .u64 0)).toArray := by kernel_rfl
theorem N_small {c : Nat} (hc : c < 4294967296) : (Value.int .u64 ((c % 65536 : Nat) : Int) :: .int .u64 ((c / 65536 : Nat) : Int) :: List.replicate 26 (.int .u64 0)) = N c := by
  have h0 : c / 65536 / 65536 = 0 := by omega
  have h1 : c / 65536 % 65536 = c / 65536 := by omega
  have hz : ∀ n, (digs 65536 n 0).map u64V = List.replicate n (.int .u64 0) := by
    intro n
    induction n with
    | zero => rfl
    | succ n ih => rw [digs, Nat.zero_mod, Nat.zero_div, List.map_cons, ih]; rfl
  rw [N, digs, digs, h0, h1, List.map_cons, List.map_cons, hz]; rfl
theorem small_ct {M : Mem} {c : Nat} (hc : c < 4294967296) : Ct Tryz.prog 33 #[.int .i64 (c : Int)] M (Det (.agg (N c).toArray) M) := by
  refine ct_of (vs := [.int .i64 (c : Int)]) Tryz.func33 rfl Tryz.ntmps33 rfl fun w0 => ?_
  refine at_seq ?_
  refine at_region ?_
  refine at_n rfl rfl (opr_alloc rfl zero31 rfl) ?_
  intro g0
  refine at_nil ?_
  refine at_then ?_
  refine at_seq ?_
  refine at_region ?_
  refine at_d rfl rfl (opr_move rfl rfl) ?_
  refine at_d rfl rfl (opr_to64 rfl rfl Tryz.underlying3 Tryz.underlying29 (Nat.lt_trans hc (by decide))) ?_
  refine at_d rfl rfl (opr_rem64 rfl rfl rfl (by decide)) ?_
  refine at_d rfl rfl (opr_move rfl rfl) ?_
  refine at_d rfl rfl (opr_to64 rfl rfl Tryz.underlying3 Tryz.underlying29 (Nat.lt_trans hc (by decide))) ?_
  refine at_d rfl rfl (opr_quo64 rfl rfl rfl (by decide) (Nat.lt_trans hc (by decide))) ?_
  refine at_d rfl rfl (opr_buildE rfl rfl (built_two _ _) (N_small hc)) ?_
  refine at_d rfl rfl (opr_store (i := 0) rfl rfl rfl rfl rfl size31 (N_length _) (by rw [N_length]; decide) (N_flat _) N_over) ?_
  refine at_nil ?_
  refine at_then ?_
  refine at_ret ?_
  refine done_of (res1 Tryz.results33 (res_cell (i := 0) rfl rfl Tryz.underlying31 rfl size31 (N_length _) (N_at _))) ⟨rfl, rfl⟩ (by repeat (first | exact List.Sublist.refl _ | apply List.Sublist.cons))
theorem built_zero : Tryz.prog.built 60 [] = some (List.replicate 56 (Value.int .u8 0)).toArray := by kernel_rfl
theorem built_eone : Tryz.prog.built 60 [(0, .int .u8 1)] = some (.int .u8 ((1 : Nat) : Int) :: List.replicate 55 (.int .u8 0)).toArray := by kernel_rfl
theorem E_zero0 : List.replicate 56 (Value.int .u8 0) = E 0 := rfl
theorem fIsZero_ct {M : Mem} {ig Tp : Nat} (hG : M[ig]? = some ⟨3, Tp, EE [pp]⟩) {iz gz Tz kz oz a : Nat} {lz : List Nat} (hz : M[iz]? = some ⟨gz, Tz, EE lz⟩) (hkz : lz[kz]? = some a) (hoz : 56 * kz = oz) (ha : a < RR) {t : Bool} (ht : decide (a % pp = 0) = t) : Ct Tryz.prog 65 #[.pointer (some ⟨gz, oz, none⟩)] M (Det (.bool t) (M.set iz ⟨gz, Tz, EE (lz.set kz (a % pp))⟩)) := by
  refine ct_of (vs := [.pointer (some ⟨gz, oz, none⟩)]) Tryz.func65 rfl Tryz.ntmps65 rfl fun w0 => ?_
  refine at_seq ?_
  refine at_region ?_
  refine at_d rfl rfl (opr_assign rfl rfl) ?_
  refine at_nil ?_
  refine at_then ?_
  refine at_seq ?_
  refine at_region ?_
  refine at_d rfl rfl (opr_move rfl rfl) ?_
  refine at_d rfl rfl (opr_call rfl rfl rfl Tryz.func44 (by kernel_rfl) rfl (modp_ct (ig := ig) (iz := iz) (kz := kz) hG hz hkz hoz ha)) ?_
  refine at_nil ?_
  refine at_then ?_
  refine at_seq ?_
  refine at_region ?_
  refine at_d rfl rfl (opr_move rfl rfl) ?_
  refine at_d rfl rfl (opr_nilCheck rfl rfl) ?_
  refine at_d rfl rfl (opr_load (i := iz) rfl rfl (get_set hz) Tryz.underlying60 rfl size60 (E_length _) (EE_at (lset (List.getElem?_eq_some_iff.1 hkz).1) hoz rfl)) ?_
  refine at_d rfl rfl (opr_buildE rfl rfl built_zero E_zero0) ?_
  refine at_d rfl rfl (opr_eqlE rfl rfl rfl Tryz.underlying60 Tryz.underlying5 size5 (by kernel_rfl) (modp_lt _) RR_zero) ?_
  refine at_d rfl rfl (opr_assign rfl rfl) ?_
  refine at_nil ?_
  refine at_then ?_
  refine at_ret ?_
  exact done_of (res1 Tryz.results65 (res_tmp (congrArg (fun b => some (Value.bool b)) ht))) ⟨rfl, rfl⟩ (List.Sublist.refl _)
theorem fOne_ct {M : Mem} : Ct Tryz.prog 39 #[] M (Det (.agg (E 1).toArray) M) := by
  refine ct_of (vs := []) Tryz.func39 rfl Tryz.ntmps39 rfl fun w0 => ?_
  refine at_seq ?_
  refine at_region ?_
  refine at_n rfl rfl (opr_alloc rfl zero60 rfl) ?_
  intro g0
  refine at_nil ?_
  refine at_then ?_
  refine at_seq ?_
  refine at_region ?_
  refine at_d rfl rfl (opr_buildE rfl rfl built_eone (E_small (by decide))) ?_
  refine at_d rfl rfl (opr_store (i := 0) rfl rfl rfl rfl rfl size60 (E_length _) (by rw [EE_length]; exact Nat.le_of_ble_eq_true rfl) (E_flat _) (EE_set (k := 0) (Nat.le_of_ble_eq_true rfl) rfl)) ?_
  refine at_nil ?_
  refine at_then ?_
  refine at_ret ?_
  refine done_of (res1 Tryz.results39 (res_cell (i := 0) rfl rfl Tryz.underlying60 rfl size60 (E_length _) (EE_at (k := 0) rfl rfl rfl))) ⟨rfl, rfl⟩ (by repeat (first | exact List.Sublist.refl _ | apply List.Sublist.cons))
end Go.Proofs.YtjlhhcdefcofkaaGreatDoor
