/- The product of two numbers and its folding (1). -/
import Derived.Test.YtjanppnnioeifaaDoorFp
import Derived.Test.YtjanppnnioeifaaDoorSpec
import Derived.Test.YtjanppnnioeifaaDoorMul
namespace Go.Proofs.YtjanppnnioeifaaDoor
open Go
set_option maxRecDepth 100000
theorem size119 : (Tryd.prog.info? 119).map (·.size) = some 7 := by kernel_rfl
theorem zero119 : (Tryd.prog.info? 119).bind (·.zero) = some (.agg (W (List.replicate 7 0)).toArray) := by kernel_rfl
def evalP (St : Slots) : List (Nat × Operand) → Option (List (Nat × Value))
  | [] => some []
  | (i, x) :: r => match evalS St x, evalP St r with
    | some v, some vs => some ((i, v) :: vs)
    | _, _ => none
theorem evalP_map {St : Slots} {ρ : Operand → Value} (hρ : ∀ x v, evalS St x = some v → ρ x = v) : ∀ (ps : List (Nat × Operand)) (vs : List (Nat × Value)), evalP St ps = some vs → ps.map (fun p => (p.1, ρ p.2)) = vs
  | [], vs, h => by simp only [evalP, Option.some.injEq] at h; subst h; rfl
  | (i, x) :: r, vs, h => by
    unfold evalP at h
    cases hx : evalS St x with
    | none => rw [hx] at h; simp at h
    | some v =>
      cases hr : evalP St r with
      | none => rw [hx, hr] at h; simp at h
      | some us =>
        rw [hx, hr] at h
        simp only [Option.some.injEq] at h
        subst h
        rw [List.map_cons, evalP_map hρ r us hr, hρ x v hx]
theorem opr_buildP {P : Program} {St : Slots} {M : Mem} {o : Oper} {T : TypeId} {ps : List (Nat × Operand)} {vs : List (Nat × Value)} {cs : List Value} (ho : o.op = .build T ps.toArray) (hps : evalP St ps = some vs) (hb : P.built T vs = some cs.toArray) : OpR P St M o (Det (.agg cs.toArray) M) :=
  opr_build ho (fun _ hρ => evalP_map hρ ps vs hps) hb
theorem words7_digs (a : Nat) : [a / 256 ^ (8 * 0) % 18446744073709551616, a / 256 ^ (8 * 1) % 18446744073709551616, a / 256 ^ (8 * 2) % 18446744073709551616, a / 256 ^ (8 * 3) % 18446744073709551616, a / 256 ^ (8 * 4) % 18446744073709551616, a / 256 ^ (8 * 5) % 18446744073709551616, a / 256 ^ (8 * 6) % 18446744073709551616] = digs 18446744073709551616 7 a := by
  have q : ∀ j, (256 : Nat) ^ (8 * j) = 18446744073709551616 ^ j := fun j => by rw [show (18446744073709551616 : Nat) = 256 ^ 8 from rfl, ← Nat.pow_mul]
  apply List.ext_getElem?
  intro j
  simp only [q]
  by_cases hj : j < 7
  · rw [digs_get 7 a j hj]
    have : j = 0 ∨ j = 1 ∨ j = 2 ∨ j = 3 ∨ j = 4 ∨ j = 5 ∨ j = 6 := by omega
    rcases this with rfl | rfl | rfl | rfl | rfl | rfl | rfl <;> rfl
  · rw [List.getElem?_eq_none (by simp; omega), List.getElem?_eq_none (by rw [digs_length]; omega)]
theorem zz_first {w : Nat} (hw : w < 18446744073709551616) : (List.replicate 7 0).set 0 w = digs 18446744073709551616 7 w := by
  simp [digs, Nat.mod_eq_of_lt hw, Nat.div_eq_of_lt hw]
theorem shift7 {z a b c d e f g : Nat} : dval 18446744073709551616 [z, a, b, c, d, e, f] + RR * g = z + 18446744073709551616 * dval 18446744073709551616 [a, b, c, d, e, f, g] := by
  simp only [dval, RR]
  omega
theorem tail7 {l a b c d e f : Nat} : dval 18446744073709551616 [l, a, b, c, d, e, f] = l + 18446744073709551616 * dval 18446744073709551616 [a, b, c, d, e, f, 0] := by
  simp only [dval]
theorem pow7 : (18446744073709551616 : Nat) ^ 7 = RR := by decide +kernel
def Mul64R (x y : Nat) (M : Mem) : Value → Mem → Prop := fun v M' => ∃ h l : Nat, v = .tuple #[.int .u64 (h : Int), .int .u64 (l : Int)] ∧ l + 18446744073709551616 * h = x * y ∧ l < 18446744073709551616 ∧ h < 18446744073709551616 ∧ M' = M
theorem mulR_of {x y : Nat} {M : Mem} {v : Value} {M' : Mem} (hx : x < 18446744073709551616) (hy : y < 18446744073709551616) (h : Det (.tuple #[.int .u64 ((x * y / 18446744073709551616 : Nat) : Int), .int .u64 ((x * y % 18446744073709551616 : Nat) : Int)]) M v M') : Mul64R x y M v M' := by
  obtain ⟨rfl, rfl⟩ := h
  refine ⟨_, _, rfl, Nat.mod_add_div _ _, Nat.mod_lt _ (by decide), ?_, rfl⟩
  rw [Nat.div_lt_iff_lt_mul (by decide)]
  exact Nat.mul_lt_mul'' hx hy
theorem mul64_det {M : Mem} {x y : Nat} (hx : x < 18446744073709551616) (hy : y < 18446744073709551616) : Ct Tryd.prog 105 #[.int .u64 (x : Int), .int .u64 (y : Int)] M (Det (.tuple #[.int .u64 ((x * y / 18446744073709551616 : Nat) : Int), .int .u64 ((x * y % 18446744073709551616 : Nat) : Int)]) M) := by
  refine ct_of (vs := [.int .u64 (x : Int), .int .u64 (y : Int)]) Tryd.func105 rfl Tryd.ntmps105 rfl fun w0 => ?_
  refine at_seq ?_
  refine at_region ?_
  refine at_d rfl rfl (opr_assign rfl rfl) ?_
  refine at_d rfl rfl (opr_assign rfl rfl) ?_
  refine at_nil ?_
  refine at_then ?_
  refine at_seq ?_
  refine at_region ?_
  refine at_d rfl rfl (opr_move rfl rfl) ?_
  refine at_d rfl rfl (opr_eq (opr_and64 rfl rfl rfl hx (by decide)) (u64_eq (and_lo x))) ?_
  refine at_d rfl rfl (opr_assign rfl rfl) ?_
  refine at_nil ?_
  refine at_then ?_
  refine at_seq ?_
  refine at_region ?_
  refine at_d rfl rfl (opr_move rfl rfl) ?_
  refine at_d rfl rfl (opr_eq (opr_shr64 rfl rfl rfl (by decide)) (u64_eq ((rfl : _ = x / 4294967296)))) ?_
  refine at_d rfl rfl (opr_assign rfl rfl) ?_
  refine at_nil ?_
  refine at_then ?_
  refine at_seq ?_
  refine at_region ?_
  refine at_d rfl rfl (opr_move rfl rfl) ?_
  refine at_d rfl rfl (opr_eq (opr_and64 rfl rfl rfl hy (by decide)) (u64_eq (and_lo y))) ?_
  refine at_d rfl rfl (opr_assign rfl rfl) ?_
  refine at_nil ?_
  refine at_then ?_
  refine at_seq ?_
  refine at_region ?_
  refine at_d rfl rfl (opr_move rfl rfl) ?_
  refine at_d rfl rfl (opr_eq (opr_shr64 rfl rfl rfl (by decide)) (u64_eq ((rfl : _ = y / 4294967296)))) ?_
  refine at_d rfl rfl (opr_assign rfl rfl) ?_
  refine at_nil ?_
  refine at_then ?_
  refine at_seq ?_
  refine at_region ?_
  refine at_d rfl rfl (opr_move rfl rfl) ?_
  refine at_d rfl rfl (opr_move rfl rfl) ?_
  refine at_d rfl rfl (opr_eq (opr_mul64 rfl rfl rfl) (u64_eq (mul_small (lo_lt x) (lo_lt y)))) ?_
  refine at_d rfl rfl (opr_assign rfl rfl) ?_
  refine at_nil ?_
  refine at_then ?_
  refine at_seq ?_
  refine at_region ?_
  refine at_d rfl rfl (opr_move rfl rfl) ?_
  refine at_d rfl rfl (opr_move rfl rfl) ?_
  refine at_d rfl rfl (opr_mul64 rfl rfl rfl) ?_
  refine at_d rfl rfl (opr_move rfl rfl) ?_
  refine at_d rfl rfl (opr_eq (opr_shr64 rfl rfl rfl (by decide)) (u64_eq ((rfl : _ = x % 4294967296 * (y % 4294967296) / 4294967296)))) ?_
  refine at_d rfl rfl (opr_eq (opr_add64 rfl rfl rfl) (u64_eq (mt_eq hx))) ?_
  refine at_d rfl rfl (opr_assign rfl rfl) ?_
  refine at_nil ?_
  refine at_then ?_
  refine at_seq ?_
  refine at_region ?_
  refine at_d rfl rfl (opr_move rfl rfl) ?_
  refine at_d rfl rfl (opr_eq (opr_and64 rfl rfl rfl (mt_lt hx) (by decide)) (u64_eq (and_lo (mt x y)))) ?_
  refine at_d rfl rfl (opr_assign rfl rfl) ?_
  refine at_nil ?_
  refine at_then ?_
  refine at_seq ?_
  refine at_region ?_
  refine at_d rfl rfl (opr_move rfl rfl) ?_
  refine at_d rfl rfl (opr_eq (opr_shr64 rfl rfl rfl (by decide)) (u64_eq ((rfl : _ = mt x y / 4294967296)))) ?_
  refine at_d rfl rfl (opr_assign rfl rfl) ?_
  refine at_nil ?_
  refine at_then ?_
  refine at_seq ?_
  refine at_region ?_
  refine at_d rfl rfl (opr_move rfl rfl) ?_
  refine at_d rfl rfl (opr_move rfl rfl) ?_
  refine at_d rfl rfl (opr_move rfl rfl) ?_
  refine at_d rfl rfl (opr_mul64 rfl rfl rfl) ?_
  refine at_d rfl rfl (opr_eq (opr_add64 rfl rfl rfl) (u64_eq (mw_eq hy))) ?_
  refine at_d rfl rfl (opr_assign rfl rfl) ?_
  refine at_nil ?_
  refine at_then ?_
  refine at_seq ?_
  refine at_region ?_
  refine at_d rfl rfl (opr_move rfl rfl) ?_
  refine at_d rfl rfl (opr_move rfl rfl) ?_
  refine at_d rfl rfl (opr_mul64 rfl rfl rfl) ?_
  refine at_d rfl rfl (opr_move rfl rfl) ?_
  refine at_d rfl rfl (opr_add64 rfl rfl rfl) ?_
  refine at_d rfl rfl (opr_move rfl rfl) ?_
  refine at_d rfl rfl (opr_eq (opr_shr64 rfl rfl rfl (by decide)) (u64_eq ((rfl : _ = mw x y / 4294967296)))) ?_
  refine at_d rfl rfl (opr_eq (opr_add64 rfl rfl rfl) (u64_eq (mhi_eq hx hy))) ?_
  refine at_d rfl rfl (opr_assign rfl rfl) ?_
  refine at_nil ?_
  refine at_then ?_
  refine at_seq ?_
  refine at_region ?_
  refine at_d rfl rfl (opr_move rfl rfl) ?_
  refine at_d rfl rfl (opr_move rfl rfl) ?_
  refine at_d rfl rfl (opr_mul64 rfl rfl rfl) ?_
  refine at_d rfl rfl (opr_assign rfl rfl) ?_
  refine at_nil ?_
  refine at_then ?_
  refine at_ret ?_
  exact done_of (res2 Tryd.results105 (res_tmp rfl) (res_tmp rfl)) ⟨rfl, rfl⟩ (List.Sublist.refl _)
theorem mul64_ct {M : Mem} {x y : Nat} (hx : x < 18446744073709551616) (hy : y < 18446744073709551616) : Ct Tryd.prog 105 #[.int .u64 (x : Int), .int .u64 (y : Int)] M (Mul64R x y M) := (mul64_det hx hy).mono fun _ _ h => mulR_of hx hy h

end Go.Proofs.YtjanppnnioeifaaDoor
