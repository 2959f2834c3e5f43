/- Laws of arithmetic on words: operands and results as natural numbers. -/
import Derived.Test.YtoagfplhcimghaaNum
namespace Go.Proofs.Ytoagfplhcimghaa
open Go

theorem wrap_u64 (n : Int) : IntKind.u64.wrap n = n % 18446744073709551616 := by simp [IntKind.wrap, IntKind.bits, IntKind.signed]
theorem wrap_u8 (n : Int) : IntKind.u8.wrap n = n % 256 := by simp [IntKind.wrap, IntKind.bits, IntKind.signed]
theorem wrap_u32 (n : Int) : IntKind.u32.wrap n = n % 4294967296 := by simp [IntKind.wrap, IntKind.bits, IntKind.signed]
theorem wrap_i64 (n : Int) (h0 : -9223372036854775808 ≤ n) (h : n < 9223372036854775808) : IntKind.i64.wrap n = n := by
  simp [IntKind.wrap, IntKind.bits, IntKind.signed]
  split <;> omega
theorem wrap_i32 (n : Int) (h0 : -2147483648 ≤ n) (h : n < 2147483648) : IntKind.i32.wrap n = n := by
  simp [IntKind.wrap, IntKind.bits, IntKind.signed]
  split <;> omega
theorem wrap_i8 (n : Int) (h0 : -128 ≤ n) (h : n < 128) : IntKind.i8.wrap n = n := by
  simp [IntKind.wrap, IntKind.bits, IntKind.signed]
  split <;> omega

theorem ofInt_nat (m x : Nat) : (BitVec.ofInt m (x : Int)).toNat = x % 2 ^ m := by simp

section
variable {P : Program} {St : Slots} {M : Mem} {o : Oper} {T T' : TypeId} {x y : Operand}

/-! ### uint64 -/
theorem opr_add64 {a b : Nat} (ho : o.op = .binOp .add T x y T') (hx : evalS St x = some (.int .u64 (a : Int))) (hy : evalS St y = some (.int .u64 (b : Int))) : OpR P St M o (Det (.int .u64 (((a + b) % 18446744073709551616 : Nat) : Int)) M) := by
  have h := opr_binOp (P := P) (M := M) (v := .int .u64 (IntKind.u64.wrap ((a : Int) + b))) ho hx hy (fun _ => rfl)
  rw [wrap_u64] at h
  have e : ((a : Int) + b) % 18446744073709551616 = (((a + b) % 18446744073709551616 : Nat) : Int) := by omega
  rw [e] at h; exact h
theorem opr_sub64 {a b : Nat} (ho : o.op = .binOp .sub T x y T') (hx : evalS St x = some (.int .u64 (a : Int))) (hy : evalS St y = some (.int .u64 (b : Int))) (hb : b ≤ 18446744073709551616) : OpR P St M o (Det (.int .u64 (((a + (18446744073709551616 - b)) % 18446744073709551616 : Nat) : Int)) M) := by
  have h := opr_binOp (P := P) (M := M) (v := .int .u64 (IntKind.u64.wrap ((a : Int) - b))) ho hx hy (fun _ => rfl)
  rw [wrap_u64] at h
  have e : ((a : Int) - b) % 18446744073709551616 = (((a + (18446744073709551616 - b)) % 18446744073709551616 : Nat) : Int) := by omega
  rw [e] at h; exact h
theorem opr_mul64 {a b : Nat} (ho : o.op = .binOp .mul T x y T') (hx : evalS St x = some (.int .u64 (a : Int))) (hy : evalS St y = some (.int .u64 (b : Int))) : OpR P St M o (Det (.int .u64 (((a * b) % 18446744073709551616 : Nat) : Int)) M) := by
  have h := opr_binOp (P := P) (M := M) (v := .int .u64 (IntKind.u64.wrap ((a : Int) * b))) ho hx hy (fun _ => rfl)
  rw [wrap_u64] at h
  have e : ((a : Int) * b) % 18446744073709551616 = (((a * b) % 18446744073709551616 : Nat) : Int) := by
    rw [← Int.natCast_mul]; omega
  rw [e] at h; exact h
theorem run_shl (k k' : IntKind) (a : Int) (n : Nat) (P : Program) (T : TypeId) (w : World) : (binOp .shl T (.int k a) (.int k' (n : Int))).run P w = .ok (.int k (k.wrap (a * 2 ^ (min n k.bits)))) w := by
  have h : ¬ (n : Int) < 0 := by omega
  simp only [binOp, Op.shift, h, if_false, Int.toNat_natCast, Sem.run_pure]
theorem run_shr (k k' : IntKind) (a : Int) (n : Nat) (P : Program) (T : TypeId) (w : World) : (binOp .shr T (.int k a) (.int k' (n : Int))).run P w = .ok (.int k (a.fdiv (2 ^ (min n k.bits)))) w := by
  have h : ¬ (n : Int) < 0 := by omega
  simp only [binOp, Op.shift, h, if_false, Int.toNat_natCast, Sem.run_pure]
theorem opr_shl64 {k' : IntKind} {a n : Nat} (ho : o.op = .binOp .shl T x y T') (hx : evalS St x = some (.int .u64 (a : Int))) (hy : evalS St y = some (.int k' (n : Int))) (hn : n ≤ 64) : OpR P St M o (Det (.int .u64 (((a * 2 ^ n) % 18446744073709551616 : Nat) : Int)) M) := by
  have h := opr_binOp (P := P) (M := M) ho hx hy (fun w => run_shl .u64 k' a n P T w)
  have e0 : min n (IntKind.u64.bits) = n := Nat.min_eq_left hn
  rw [wrap_u64, e0] at h
  have e : ((a : Int) * 2 ^ n) % 18446744073709551616 = (((a * 2 ^ n) % 18446744073709551616 : Nat) : Int) := by
    have e1 : (a : Int) * 2 ^ n = ((a * 2 ^ n : Nat) : Int) := by rw [Int.natCast_mul, Int.natCast_pow]; rfl
    rw [e1]; omega
  rw [e] at h; exact h
theorem fdiv_nat (a n : Nat) : (a : Int).fdiv (2 ^ n) = ((a / 2 ^ n : Nat) : Int) := by
  have h : (0 : Int) ≤ 2 ^ n := Int.pow_nonneg (by decide)
  rw [Int.fdiv_eq_ediv_of_nonneg _ h]
  push_cast
  rfl
theorem opr_shr64 {k' : IntKind} {a n : Nat} (ho : o.op = .binOp .shr T x y T') (hx : evalS St x = some (.int .u64 (a : Int))) (hy : evalS St y = some (.int k' (n : Int))) (hn : n ≤ 64) : OpR P St M o (Det (.int .u64 ((a / 2 ^ n : Nat) : Int)) M) := by
  have h := opr_binOp (P := P) (M := M) ho hx hy (fun w => run_shr .u64 k' a n P T w)
  have e0 : min n (IntKind.u64.bits) = n := Nat.min_eq_left hn
  rw [e0, fdiv_nat] at h; exact h
theorem opr_shr8 {k' : IntKind} {a n : Nat} (ho : o.op = .binOp .shr T x y T') (hx : evalS St x = some (.int .u8 (a : Int))) (hy : evalS St y = some (.int k' (n : Int))) (hn : n ≤ 8) : OpR P St M o (Det (.int .u8 ((a / 2 ^ n : Nat) : Int)) M) := by
  have h := opr_binOp (P := P) (M := M) ho hx hy (fun w => run_shr .u8 k' a n P T w)
  have e0 : min n (IntKind.u8.bits) = n := Nat.min_eq_left hn
  rw [e0, fdiv_nat] at h; exact h

theorem opr_or64 {a b : Nat} (ho : o.op = .binOp .or T x y T') (hx : evalS St x = some (.int .u64 (a : Int))) (hy : evalS St y = some (.int .u64 (b : Int))) (ha : a < 18446744073709551616) (hb : b < 18446744073709551616) : OpR P St M o (Det (.int .u64 ((a ||| b : Nat) : Int)) M) := by
  have h := opr_binOp (P := P) (M := M) (v := .int .u64 (bits .or .u64 (a : Int) (b : Int))) ho hx hy (fun _ => rfl)
  rw [u64_or_nat a b ha hb] at h; exact h
theorem opr_and64 {a b : Nat} (ho : o.op = .binOp .and T x y T') (hx : evalS St x = some (.int .u64 (a : Int))) (hy : evalS St y = some (.int .u64 (b : Int))) (ha : a < 18446744073709551616) (hb : b < 18446744073709551616) : OpR P St M o (Det (.int .u64 ((a &&& b : Nat) : Int)) M) := by
  have h := opr_binOp (P := P) (M := M) (v := .int .u64 (bits .and .u64 (a : Int) (b : Int))) ho hx hy (fun _ => rfl)
  rw [u64_and_nat a b ha hb] at h; exact h
theorem opr_xor64 {a b : Nat} (ho : o.op = .binOp .xor T x y T') (hx : evalS St x = some (.int .u64 (a : Int))) (hy : evalS St y = some (.int .u64 (b : Int))) (ha : a < 18446744073709551616) (hb : b < 18446744073709551616) : OpR P St M o (Det (.int .u64 ((a ^^^ b : Nat) : Int)) M) := by
  have h := opr_binOp (P := P) (M := M) (v := .int .u64 (bits .xor .u64 (a : Int) (b : Int))) ho hx hy (fun _ => rfl)
  rw [u64_xor_nat a b ha hb] at h; exact h
theorem opr_rem64 {a b : Nat} (ho : o.op = .binOp .rem T x y T') (hx : evalS St x = some (.int .u64 (a : Int))) (hy : evalS St y = some (.int .u64 (b : Int))) (hb : 0 < b) : OpR P St M o (Det (.int .u64 ((a % b : Nat) : Int)) M) := by
  have h0 : ¬ (b : Int) = 0 := by omega
  have h := opr_binOp (P := P) (M := M) (v := .int .u64 ((a : Int).tmod b)) ho hx hy (fun w => by simp only [binOp, Op.intDiv, h0, if_false, ne_eq, not_true_eq_false, Sem.run_pure])
  rw [Int.tmod_eq_emod_of_nonneg (by omega)] at h
  rw [← Int.natCast_emod] at h; exact h
theorem opr_quo64 {a b : Nat} (ho : o.op = .binOp .quo T x y T') (hx : evalS St x = some (.int .u64 (a : Int))) (hy : evalS St y = some (.int .u64 (b : Int))) (hb : 0 < b) (ha : a < 18446744073709551616) : OpR P St M o (Det (.int .u64 ((a / b : Nat) : Int)) M) := by
  have h0 : ¬ (b : Int) = 0 := by omega
  have h := opr_binOp (P := P) (M := M) (v := .int .u64 (IntKind.u64.wrap ((a : Int).tdiv b))) ho hx hy (fun w => by simp only [binOp, Op.intDiv, h0, if_false, ne_eq, not_true_eq_false, Sem.run_pure])
  rw [wrap_u64, Int.tdiv_eq_ediv_of_nonneg (by omega), ← Int.natCast_ediv] at h
  have : ((a / b : Nat) : Int) % 18446744073709551616 = ((a / b : Nat) : Int) := by
    have := Nat.div_le_self a b
    have := Int.natCast_nonneg (a / b)
    omega
  rw [this] at h; exact h

/-! ### comparisons of natural numbers, of whatever kind -/
theorem opr_lss {k : IntKind} {a b : Nat} (ho : o.op = .binOp .lss T x y T') (hx : evalS St x = some (.int k (a : Int))) (hy : evalS St y = some (.int k (b : Int))) : OpR P St M o (Det (.bool (decide (a < b))) M) := by
  have h := opr_binOp (P := P) (M := M) (v := .bool (decide ((a : Int) < b))) ho hx hy (fun w => by simp only [binOp, Op.intCmp, ne_eq, not_true_eq_false, if_false, Sem.run_pure])
  have e : decide ((a : Int) < b) = decide (a < b) := by congr 1; simp
  rw [e] at h; exact h
theorem opr_eql {k : IntKind} {a b : Nat} (ho : o.op = .binOp .eql T x y T') (hx : evalS St x = some (.int k (a : Int))) (hy : evalS St y = some (.int k (b : Int))) : OpR P St M o (Det (.bool (decide (a = b))) M) := by
  have h := opr_binOp (P := P) (M := M) (v := .bool ((a : Int) == b)) ho hx hy (fun w => by simp only [binOp, Op.intCmp, ne_eq, not_true_eq_false, if_false, Sem.run_pure])
  have e : ((a : Int) == b) = decide (a = b) := by rw [Bool.eq_iff_iff]; simp; omega
  rw [e] at h; exact h
theorem opr_neq {k : IntKind} {a b : Nat} (ho : o.op = .binOp .neq T x y T') (hx : evalS St x = some (.int k (a : Int))) (hy : evalS St y = some (.int k (b : Int))) : OpR P St M o (Det (.bool (decide (a ≠ b))) M) := by
  have h := opr_binOp (P := P) (M := M) (v := .bool ((a : Int) != b)) ho hx hy (fun w => by simp only [binOp, Op.intCmp, ne_eq, not_true_eq_false, if_false, Sem.run_pure])
  have e : ((a : Int) != b) = decide (a ≠ b) := by rw [Bool.eq_iff_iff]; simp; omega
  rw [e] at h; exact h
theorem opr_gtr {k : IntKind} {a b : Nat} (ho : o.op = .binOp .gtr T x y T') (hx : evalS St x = some (.int k (a : Int))) (hy : evalS St y = some (.int k (b : Int))) : OpR P St M o (Det (.bool (decide (b < a))) M) := by
  have h := opr_binOp (P := P) (M := M) (v := .bool (decide ((a : Int) > b))) ho hx hy (fun w => by simp only [binOp, Op.intCmp, ne_eq, not_true_eq_false, if_false, Sem.run_pure])
  have e : decide ((a : Int) > b) = decide (b < a) := by congr 1; simp
  rw [e] at h; exact h

/-! ### counters (int), as natural numbers; and where one goes below 0 -/
theorem opr_addI {a b : Nat} (ho : o.op = .binOp .add T x y T') (hx : evalS St x = some (.int .i64 (a : Int))) (hy : evalS St y = some (.int .i64 (b : Int))) (h : a + b < 9223372036854775808) : OpR P St M o (Det (.int .i64 ((a + b : Nat) : Int)) M) := by
  have h1 := opr_binOp (P := P) (M := M) (v := .int .i64 (IntKind.i64.wrap ((a : Int) + b))) ho hx hy (fun _ => rfl)
  rw [wrap_i64 _ (by omega) (by omega)] at h1
  exact h1
theorem opr_subI {a b : Nat} (ho : o.op = .binOp .sub T x y T') (hx : evalS St x = some (.int .i64 (a : Int))) (hy : evalS St y = some (.int .i64 (b : Int))) (h : b ≤ a) (ha : a < 9223372036854775808) : OpR P St M o (Det (.int .i64 ((a - b : Nat) : Int)) M) := by
  have h1 := opr_binOp (P := P) (M := M) (v := .int .i64 (IntKind.i64.wrap ((a : Int) - b))) ho hx hy (fun _ => rfl)
  rw [wrap_i64 _ (by omega) (by omega)] at h1
  have e : (a : Int) - b = ((a - b : Nat) : Int) := by omega
  rw [e] at h1; exact h1
theorem opr_subIZ {a b : Int} (ho : o.op = .binOp .sub T x y T') (hx : evalS St x = some (.int .i64 a)) (hy : evalS St y = some (.int .i64 b)) (h0 : -9223372036854775808 ≤ a - b) (h : a - b < 9223372036854775808) {c : Int} (hc : a - b = c) : OpR P St M o (Det (.int .i64 c) M) := by
  have h1 := opr_binOp (P := P) (M := M) (v := .int .i64 (IntKind.i64.wrap (a - b))) ho hx hy (fun _ => rfl)
  rw [wrap_i64 _ h0 h, hc] at h1
  exact h1
theorem opr_mulI {a b : Nat} (ho : o.op = .binOp .mul T x y T') (hx : evalS St x = some (.int .i64 (a : Int))) (hy : evalS St y = some (.int .i64 (b : Int))) (h : a * b < 9223372036854775808) : OpR P St M o (Det (.int .i64 ((a * b : Nat) : Int)) M) := by
  have h1 := opr_binOp (P := P) (M := M) (v := .int .i64 (IntKind.i64.wrap ((a : Int) * b))) ho hx hy (fun _ => rfl)
  have e : (a : Int) * b = ((a * b : Nat) : Int) := by push_cast; rfl
  rw [e, wrap_i64 _ (by omega) (by omega)] at h1
  exact h1
theorem opr_quoI {a b : Nat} (ho : o.op = .binOp .quo T x y T') (hx : evalS St x = some (.int .i64 (a : Int))) (hy : evalS St y = some (.int .i64 (b : Int))) (hb : 0 < b) (ha : a < 9223372036854775808) : OpR P St M o (Det (.int .i64 ((a / b : Nat) : Int)) M) := by
  have h0 : ¬ (b : Int) = 0 := by omega
  have h := opr_binOp (P := P) (M := M) (v := .int .i64 (IntKind.i64.wrap ((a : Int).tdiv b))) ho hx hy (fun w => by simp only [binOp, Op.intDiv, h0, if_false, ne_eq, not_true_eq_false, Sem.run_pure])
  have := Nat.div_le_self a b
  have := Int.natCast_nonneg (a / b)
  rw [Int.tdiv_eq_ediv_of_nonneg (by omega), ← Int.natCast_ediv, wrap_i64 _ (by omega) (by omega)] at h
  exact h
theorem opr_remI {a b : Nat} (ho : o.op = .binOp .rem T x y T') (hx : evalS St x = some (.int .i64 (a : Int))) (hy : evalS St y = some (.int .i64 (b : Int))) (hb : 0 < b) : OpR P St M o (Det (.int .i64 ((a % b : Nat) : Int)) M) := by
  have h0 : ¬ (b : Int) = 0 := by omega
  have h := opr_binOp (P := P) (M := M) (v := .int .i64 ((a : Int).tmod b)) ho hx hy (fun w => by simp only [binOp, Op.intDiv, h0, if_false, ne_eq, not_true_eq_false, Sem.run_pure])
  rw [Int.tmod_eq_emod_of_nonneg (by omega)] at h
  rw [← Int.natCast_emod] at h; exact h
theorem opr_geqZ {a : Int} (ho : o.op = .binOp .geq T x y T') (hx : evalS St x = some (.int .i64 a)) (hy : evalS St y = some (.int .i64 0)) : OpR P St M o (Det (.bool (decide (0 ≤ a))) M) := by
  have h := opr_binOp (P := P) (M := M) (v := .bool (decide (a ≥ 0))) ho hx hy (fun w => by simp only [binOp, Op.intCmp, ne_eq, not_true_eq_false, if_false, Sem.run_pure])
  exact h

/-! ### conversions -/
theorem opr_to64 {S' D : TypeId} {k : IntKind} {n : Nat} {d : TypeDesc} (ho : o.op = .convert S' D x) (hx : evalS St x = some (.int k (n : Int))) (hs : P.underlying S' = some d) (hd : P.underlying D = some (.int .u64)) (hn : n < 18446744073709551616) : OpR P St M o (Det (.int .u64 (n : Int)) M) := by
  have h := opr_convert (P := P) (M := M) ho hx hs hd
  have e : IntKind.u64.wrap (n : Int) = (n : Int) := by rw [wrap_u64]; omega
  rw [e] at h; exact h
theorem opr_to8 {S' D : TypeId} {k : IntKind} {n : Nat} {d : TypeDesc} (ho : o.op = .convert S' D x) (hx : evalS St x = some (.int k (n : Int))) (hs : P.underlying S' = some d) (hd : P.underlying D = some (.int .u8)) : OpR P St M o (Det (.int .u8 ((n % 256 : Nat) : Int)) M) := by
  have h := opr_convert (P := P) (M := M) ho hx hs hd
  have e : IntKind.u8.wrap (n : Int) = ((n % 256 : Nat) : Int) := by rw [wrap_u8]; omega
  rw [e] at h; exact h
theorem opr_toI {S' D : TypeId} {k : IntKind} {n : Nat} {d : TypeDesc} (ho : o.op = .convert S' D x) (hx : evalS St x = some (.int k (n : Int))) (hs : P.underlying S' = some d) (hd : P.underlying D = some (.int .i64)) (hn : n < 9223372036854775808) : OpR P St M o (Det (.int .i64 (n : Int)) M) := by
  have h := opr_convert (P := P) (M := M) ho hx hs hd
  have e : IntKind.i64.wrap (n : Int) = (n : Int) := by rw [wrap_i64 _ (by omega) (by omega)]
  rw [e] at h; exact h
end
end Go.Proofs.Ytoagfplhcimghaa
