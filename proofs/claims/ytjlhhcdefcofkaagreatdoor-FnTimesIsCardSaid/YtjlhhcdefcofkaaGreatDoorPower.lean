/- Bits and powers of the reference. -/
import Derived.Test.YtjlhhcdefcofkaaGreatDoorPow
import Derived.Test.YtjlhhcdefcofkaaGreatDoorSqrt
namespace Go.Proofs.YtjlhhcdefcofkaaGreatDoor
open Go
set_option maxRecDepth 100000

/-- Bit i of a number. -/
def bitN (a i : Nat) : Nat := a / 2 ^ i % 2
theorem bitN_or (a i : Nat) : bitN a i = 0 ∨ bitN a i = 1 := by unfold bitN; omega
theorem part_bit {x w r : Nat} (h : r < w) : x % 2 ^ w / 2 ^ r % 2 = x / 2 ^ r % 2 := by
  have e : 2 ^ w = 2 ^ r * 2 ^ (w - r) := by rw [← Nat.pow_add]; congr 1; omega
  rw [e, Nat.mod_mul_right_div_self]
  exact Nat.mod_mod_of_dvd _ ⟨2 ^ (w - r - 1), by rw [← Nat.pow_succ']; congr 1; omega⟩
theorem bit16 (a i : Nat) : (a / 65536 ^ (i / 16) % 65536 / 2 ^ (i % 16)) &&& 1 = bitN a i := by
  rw [Nat.and_one_is_mod, show (65536 : Nat) = 2 ^ 16 from rfl, part_bit (Nat.mod_lt _ (by decide)), ← Nat.pow_mul, Nat.div_div_eq_div_mul, ← Nat.pow_add, Nat.div_add_mod]; rfl
theorem bit8 (a i : Nat) : (a / 256 ^ (i / 8) % 256 / 2 ^ (i % 8)) &&& 1 = bitN a i := by
  rw [Nat.and_one_is_mod, show (256 : Nat) = 2 ^ 8 from rfl, part_bit (Nat.mod_lt _ (by decide)), ← Nat.pow_mul, Nat.div_div_eq_div_mul, ← Nat.pow_add, Nat.div_add_mod]; rfl
theorem opr_and8 {P : Program} {St : Slots} {M : Mem} {o : Oper} {x y : Operand} {T T' a b : Nat} (ho : o.op = .binOp .and T x y T') (hx : evalS St x = some (.int .u8 (a : Int))) (hy : evalS St y = some (.int .u8 (b : Int))) (ha : a < 256) (hb : b < 256) : OpR P St M o (Det (.int .u8 ((a &&& b : Nat) : Int)) M) := by
  have h := opr_binOp (P := P) (M := M) (v := .int .u8 (bits .and .u8 (a : Int) (b : Int))) ho hx hy (fun _ => rfl)
  rw [u8_and_nat a b ha hb] at h; exact h
theorem u8_eq {a b : Nat} (h : a = b) : Value.int .u8 (a : Int) = Value.int .u8 (b : Int) := congrArg (fun n : Nat => Value.int .u8 (n : Int)) h
theorem bitN_lt (a i B : Nat) (h : 2 ≤ B) : bitN a i < B := by unfold bitN; omega
theorem div_lt8 {x n : Nat} (h : x < 256) : x / 2 ^ n < 256 := Nat.lt_of_le_of_lt (Nat.div_le_self _ _) h
/-! ### Powers, bit by bit -/
noncomputable def powp (a e : Nat) : Nat := Classical.choose (⟨a ^ e % pp, rfl⟩ : ∃ y, y = a ^ e % pp)
theorem powp_eq (a e : Nat) : powp a e = a ^ e % pp := Classical.choose_spec (⟨a ^ e % pp, rfl⟩ : ∃ y, y = a ^ e % pp)
theorem powp_lt (a e : Nat) : powp a e < pp := by rw [powp_eq]; exact Nat.mod_lt _ (by decide)
theorem powp_RR (a e : Nat) : powp a e < RR := Nat.lt_trans (powp_lt a e) RR_pp
theorem powp_of {a e y : Nat} (h : Pw a e y) (hy : y < pp) : y = powp a e := by rw [powp_eq, ← h.2, Nat.mod_eq_of_lt hy]
theorem powp_inv (a : Nat) : powp a (pp - 2) = invp a := by rw [powp_eq, invp_eq]
def topn (n e k : Nat) : Nat := e / 2 ^ (n - k)
def tops (e k : Nat) : Nat := topn 448 e k
theorem topn_bit {n e k : Nat} (hk : k < n) : topn n e (k + 1) = 2 * topn n e k + bitN e (n - 1 - k) := by
  unfold topn
  have h1 : n - (k + 1) = n - 1 - k := by omega
  have h2 : n - k = n - 1 - k + 1 := by omega
  rw [h1, h2, Nat.pow_succ, ← Nat.div_div_eq_div_mul, bitN]
  omega
theorem half_bit {e k : Nat} (hk : k < 448) : tops e (k + 1) = 2 * tops e k + bitN e (447 - k) := topn_bit hk
theorem pow_bit1 {a e k y : Nat} (hk : k < 448) (hb : bitN e (447 - k) = 1) (ha : a < RR) (h : Pw a (tops e k) y) : Pw a (tops e (k + 1)) (y * y % pp * a % pp) := by
  rw [half_bit hk, hb]
  exact pw_mul (pw_sqr h (modp_lt _) (Nat.mod_mod _ _)) (pw_one ha) (modp_lt _) (Nat.mod_mod _ _)
theorem pow_bit0 {a e k y : Nat} (hk : k < 448) (hb : ¬ bitN e (447 - k) = 1) (h : Pw a (tops e k) y) : Pw a (tops e (k + 1)) (y * y % pp) := by
  have := bitN_or e (447 - k)
  rw [half_bit hk, show bitN e (447 - k) = 0 by omega, Nat.add_zero]
  exact pw_sqr h (modp_lt _) (Nat.mod_mod _ _)
theorem big_pow {w a m k n : Nat} (hw : w = a ^ m) (hn : n = m * k) : w ^ k = a ^ n := by
  subst hw
  subst hn
  rw [Nat.pow_mul]
theorem topn_zero {n e : Nat} (hn : n = 448) (h : e < RR) : topn n e 0 = 0 := by
  have h1 : 65536 ^ 28 = 2 ^ n := big_pow (m := 16) rfl (hn.trans rfl)
  rw [topn, Nat.sub_zero, ← h1]
  exact Nat.div_eq_of_lt (RR_pow ▸ h)
theorem tops_zero {e : Nat} (he : e < RR) : tops e 0 = 0 := topn_zero rfl he
theorem topn_end (n e : Nat) : topn n e n = e := by rw [topn, Nat.sub_self, Nat.pow_zero, Nat.div_one]
theorem pow_begin {a e : Nat} (he : e < RR) : Pw a (tops e 0) 1 := by
  rw [tops_zero he]
  exact ⟨RR_one, by rw [Nat.pow_zero]⟩
theorem pow_done {a e y : Nat} (h : Pw a (tops e 448) y) : Pw a e y := pw_cast h (topn_end 448 e)
theorem bit_ct {M : Mem} {a i : Nat} (hi : i < 448) : Ct Tryz.prog 21 #[.agg (N a).toArray, .int .i64 (i : Int)] M (Det (.int .u64 ((bitN a i : Nat) : Int)) M) := by
  refine ct_of (vs := [.agg (N a).toArray, .int .i64 (i : Int)]) Tryz.func21 rfl Tryz.ntmps21 rfl fun w0 => ?_
  refine at_seq ?_
  refine at_region ?_
  refine at_n rfl rfl (opr_box rfl rfl rfl) ?_
  intro g0
  refine at_d rfl rfl (opr_assign rfl rfl) ?_
  refine at_nil ?_
  refine at_then ?_
  refine at_seq ?_
  refine at_region ?_
  refine at_d rfl rfl (opr_move rfl rfl) ?_
  refine at_d rfl rfl (opr_quoI (a := i) (b := 16) rfl rfl rfl (by decide) (by omega)) ?_
  refine at_d rfl rfl (opr_indexAddr (j := i / 16) (off' := i / 16) rfl rfl rfl Tryz.underlying31 (by omega) size29 (by omega)) ?_
  refine at_d rfl rfl (opr_load1 (i := 0) rfl rfl rfl Tryz.underlying29 rfl (W_get (digs_get 28 a (i / 16) (by omega)))) ?_
  refine at_d rfl rfl (opr_move rfl rfl) ?_
  refine at_d rfl rfl (opr_remI (a := i) (b := 16) rfl rfl rfl (by decide)) ?_
  refine at_d rfl rfl (opr_shr64 (n := i % 16) rfl rfl rfl (by omega)) ?_
  refine at_d rfl rfl (opr_eq (opr_and64 (b := 1) rfl rfl rfl (Nat.lt_of_le_of_lt (Nat.div_le_self _ _) (Nat.lt_trans (Nat.mod_lt _ (by decide)) (by decide))) (by decide)) (u64_eq (bit16 a i))) ?_
  refine at_d rfl rfl (opr_assign rfl rfl) ?_
  refine at_nil ?_
  refine at_then ?_
  refine at_ret ?_
  refine done_of (res1 Tryz.results21 (res_tmp rfl)) ⟨rfl, rfl⟩ (by repeat (first | exact List.Sublist.refl _ | apply List.Sublist.cons))
end Go.Proofs.YtjlhhcdefcofkaaGreatDoor
