/- Prod1, Prod2, Prod3, in one text. -/
import Derived.Test.YtjlhhcdefcofkaaGreatDoorFp
import Derived.Test.YtjlhhcdefcofkaaGreatDoorSpec
import Derived.Test.YtjlhhcdefcofkaaGreatDoorMul
/- The product of two numbers and its folding (1). -/
namespace Go.Proofs.YtjlhhcdefcofkaaGreatDoor
open Go
set_option maxRecDepth 100000
theorem size116 : (Tryz.prog.info? 116).map (·.size) = some 7 := by kernel_rfl
theorem zero116 : (Tryz.prog.info? 116).bind (·.zero) = some (.agg (W (List.replicate 7 0)).toArray) := by kernel_rfl
def evalP (St : Slots) : List (Nat × Operand) → Option (List (Nat × Value))
  | [] => some []
  | (i, x) :: r => match evalS St x, evalP St r with
    | some v, some vs => some ((i, v) :: vs)
    | _, _ => none
theorem evalP_map {St : Slots} {ρ : Operand → Value} (hρ : ∀ x v, evalS St x = some v → ρ x = v) : ∀ (ps : List (Nat × Operand)) (vs : List (Nat × Value)), evalP St ps = some vs → ps.map (fun p => (p.1, ρ p.2)) = vs
  | [], vs, h => by simp only [evalP, Option.some.injEq] at h; subst h; rfl
  | (i, x) :: r, vs, h => by
    unfold evalP at h
    cases hx : evalS St x with
    | none => rw [hx] at h; simp at h
    | some v =>
      cases hr : evalP St r with
      | none => rw [hx, hr] at h; simp at h
      | some us =>
        rw [hx, hr] at h
        simp only [Option.some.injEq] at h
        subst h
        rw [List.map_cons, evalP_map hρ r us hr, hρ x v hx]
theorem opr_buildP {P : Program} {St : Slots} {M : Mem} {o : Oper} {T : TypeId} {ps : List (Nat × Operand)} {vs : List (Nat × Value)} {cs : List Value} (ho : o.op = .build T ps.toArray) (hps : evalP St ps = some vs) (hb : P.built T vs = some cs.toArray) : OpR P St M o (Det (.agg cs.toArray) M) :=
  opr_build ho (fun _ hρ => evalP_map hρ ps vs hps) hb
theorem words7_digs (a : Nat) : [a / 256 ^ (8 * 0) % 18446744073709551616, a / 256 ^ (8 * 1) % 18446744073709551616, a / 256 ^ (8 * 2) % 18446744073709551616, a / 256 ^ (8 * 3) % 18446744073709551616, a / 256 ^ (8 * 4) % 18446744073709551616, a / 256 ^ (8 * 5) % 18446744073709551616, a / 256 ^ (8 * 6) % 18446744073709551616] = digs 18446744073709551616 7 a := by
  have q : ∀ j, (256 : Nat) ^ (8 * j) = 18446744073709551616 ^ j := fun j => by rw [show (18446744073709551616 : Nat) = 256 ^ 8 from rfl, ← Nat.pow_mul]
  apply List.ext_getElem?
  intro j
  simp only [q]
  by_cases hj : j < 7
  · rw [digs_get 7 a j hj]
    have : j = 0 ∨ j = 1 ∨ j = 2 ∨ j = 3 ∨ j = 4 ∨ j = 5 ∨ j = 6 := by omega
    rcases this with rfl | rfl | rfl | rfl | rfl | rfl | rfl <;> rfl
  · rw [List.getElem?_eq_none (by simp; omega), List.getElem?_eq_none (by rw [digs_length]; omega)]
theorem zz_first {w : Nat} (hw : w < 18446744073709551616) : (List.replicate 7 0).set 0 w = digs 18446744073709551616 7 w := by
  simp [digs, Nat.mod_eq_of_lt hw, Nat.div_eq_of_lt hw]
theorem shift7 {z a b c d e f g : Nat} : dval 18446744073709551616 [z, a, b, c, d, e, f] + RR * g = z + 18446744073709551616 * dval 18446744073709551616 [a, b, c, d, e, f, g] := by
  simp only [dval, RR]
  omega
theorem tail7 {l a b c d e f : Nat} : dval 18446744073709551616 [l, a, b, c, d, e, f] = l + 18446744073709551616 * dval 18446744073709551616 [a, b, c, d, e, f, 0] := by
  simp only [dval]
theorem pow7 : (18446744073709551616 : Nat) ^ 7 = RR := by decide +kernel
def Mul64R (x y : Nat) (M : Mem) : Value → Mem → Prop := fun v M' => ∃ h l : Nat, v = .tuple #[.int .u64 (h : Int), .int .u64 (l : Int)] ∧ l + 18446744073709551616 * h = x * y ∧ l < 18446744073709551616 ∧ h < 18446744073709551616 ∧ M' = M
theorem mulR_of {x y : Nat} {M : Mem} {v : Value} {M' : Mem} (hx : x < 18446744073709551616) (hy : y < 18446744073709551616) (h : Det (.tuple #[.int .u64 ((x * y / 18446744073709551616 : Nat) : Int), .int .u64 ((x * y % 18446744073709551616 : Nat) : Int)]) M v M') : Mul64R x y M v M' := by
  obtain ⟨rfl, rfl⟩ := h
  refine ⟨_, _, rfl, Nat.mod_add_div _ _, Nat.mod_lt _ (by decide), ?_, rfl⟩
  rw [Nat.div_lt_iff_lt_mul (by decide)]
  exact Nat.mul_lt_mul'' hx hy
theorem mul64_det {M : Mem} {x y : Nat} (hx : x < 18446744073709551616) (hy : y < 18446744073709551616) : Ct Tryz.prog 91 #[.int .u64 (x : Int), .int .u64 (y : Int)] M (Det (.tuple #[.int .u64 ((x * y / 18446744073709551616 : Nat) : Int), .int .u64 ((x * y % 18446744073709551616 : Nat) : Int)]) M) := by
  refine ct_of (vs := [.int .u64 (x : Int), .int .u64 (y : Int)]) Tryz.func91 rfl Tryz.ntmps91 rfl fun w0 => ?_
  refine at_seq ?_
  refine at_region ?_
  refine at_d rfl rfl (opr_assign rfl rfl) ?_
  refine at_d rfl rfl (opr_assign rfl rfl) ?_
  refine at_nil ?_
  refine at_then ?_
  refine at_seq ?_
  refine at_region ?_
  refine at_d rfl rfl (opr_move rfl rfl) ?_
  refine at_d rfl rfl (opr_eq (opr_and64 rfl rfl rfl hx (by decide)) (u64_eq (and_lo x))) ?_
  refine at_d rfl rfl (opr_assign rfl rfl) ?_
  refine at_nil ?_
  refine at_then ?_
  refine at_seq ?_
  refine at_region ?_
  refine at_d rfl rfl (opr_move rfl rfl) ?_
  refine at_d rfl rfl (opr_eq (opr_shr64 rfl rfl rfl (by decide)) (u64_eq ((rfl : _ = x / 4294967296)))) ?_
  refine at_d rfl rfl (opr_assign rfl rfl) ?_
  refine at_nil ?_
  refine at_then ?_
  refine at_seq ?_
  refine at_region ?_
  refine at_d rfl rfl (opr_move rfl rfl) ?_
  refine at_d rfl rfl (opr_eq (opr_and64 rfl rfl rfl hy (by decide)) (u64_eq (and_lo y))) ?_
  refine at_d rfl rfl (opr_assign rfl rfl) ?_
  refine at_nil ?_
  refine at_then ?_
  refine at_seq ?_
  refine at_region ?_
  refine at_d rfl rfl (opr_move rfl rfl) ?_
  refine at_d rfl rfl (opr_eq (opr_shr64 rfl rfl rfl (by decide)) (u64_eq ((rfl : _ = y / 4294967296)))) ?_
  refine at_d rfl rfl (opr_assign rfl rfl) ?_
  refine at_nil ?_
  refine at_then ?_
  refine at_seq ?_
  refine at_region ?_
  refine at_d rfl rfl (opr_move rfl rfl) ?_
  refine at_d rfl rfl (opr_move rfl rfl) ?_
  refine at_d rfl rfl (opr_eq (opr_mul64 rfl rfl rfl) (u64_eq (mul_small (lo_lt x) (lo_lt y)))) ?_
  refine at_d rfl rfl (opr_assign rfl rfl) ?_
  refine at_nil ?_
  refine at_then ?_
  refine at_seq ?_
  refine at_region ?_
  refine at_d rfl rfl (opr_move rfl rfl) ?_
  refine at_d rfl rfl (opr_move rfl rfl) ?_
  refine at_d rfl rfl (opr_mul64 rfl rfl rfl) ?_
  refine at_d rfl rfl (opr_move rfl rfl) ?_
  refine at_d rfl rfl (opr_eq (opr_shr64 rfl rfl rfl (by decide)) (u64_eq ((rfl : _ = x % 4294967296 * (y % 4294967296) / 4294967296)))) ?_
  refine at_d rfl rfl (opr_eq (opr_add64 rfl rfl rfl) (u64_eq (mt_eq hx))) ?_
  refine at_d rfl rfl (opr_assign rfl rfl) ?_
  refine at_nil ?_
  refine at_then ?_
  refine at_seq ?_
  refine at_region ?_
  refine at_d rfl rfl (opr_move rfl rfl) ?_
  refine at_d rfl rfl (opr_eq (opr_and64 rfl rfl rfl (mt_lt hx) (by decide)) (u64_eq (and_lo (mt x y)))) ?_
  refine at_d rfl rfl (opr_assign rfl rfl) ?_
  refine at_nil ?_
  refine at_then ?_
  refine at_seq ?_
  refine at_region ?_
  refine at_d rfl rfl (opr_move rfl rfl) ?_
  refine at_d rfl rfl (opr_eq (opr_shr64 rfl rfl rfl (by decide)) (u64_eq ((rfl : _ = mt x y / 4294967296)))) ?_
  refine at_d rfl rfl (opr_assign rfl rfl) ?_
  refine at_nil ?_
  refine at_then ?_
  refine at_seq ?_
  refine at_region ?_
  refine at_d rfl rfl (opr_move rfl rfl) ?_
  refine at_d rfl rfl (opr_move rfl rfl) ?_
  refine at_d rfl rfl (opr_move rfl rfl) ?_
  refine at_d rfl rfl (opr_mul64 rfl rfl rfl) ?_
  refine at_d rfl rfl (opr_eq (opr_add64 rfl rfl rfl) (u64_eq (mw_eq hy))) ?_
  refine at_d rfl rfl (opr_assign rfl rfl) ?_
  refine at_nil ?_
  refine at_then ?_
  refine at_seq ?_
  refine at_region ?_
  refine at_d rfl rfl (opr_move rfl rfl) ?_
  refine at_d rfl rfl (opr_move rfl rfl) ?_
  refine at_d rfl rfl (opr_mul64 rfl rfl rfl) ?_
  refine at_d rfl rfl (opr_move rfl rfl) ?_
  refine at_d rfl rfl (opr_add64 rfl rfl rfl) ?_
  refine at_d rfl rfl (opr_move rfl rfl) ?_
  refine at_d rfl rfl (opr_eq (opr_shr64 rfl rfl rfl (by decide)) (u64_eq ((rfl : _ = mw x y / 4294967296)))) ?_
  refine at_d rfl rfl (opr_eq (opr_add64 rfl rfl rfl) (u64_eq (mhi_eq hx hy))) ?_
  refine at_d rfl rfl (opr_assign rfl rfl) ?_
  refine at_nil ?_
  refine at_then ?_
  refine at_seq ?_
  refine at_region ?_
  refine at_d rfl rfl (opr_move rfl rfl) ?_
  refine at_d rfl rfl (opr_move rfl rfl) ?_
  refine at_d rfl rfl (opr_mul64 rfl rfl rfl) ?_
  refine at_d rfl rfl (opr_assign rfl rfl) ?_
  refine at_nil ?_
  refine at_then ?_
  refine at_ret ?_
  exact done_of (res2 Tryz.results91 (res_tmp rfl) (res_tmp rfl)) ⟨rfl, rfl⟩ (List.Sublist.refl _)
theorem mul64_ct {M : Mem} {x y : Nat} (hx : x < 18446744073709551616) (hy : y < 18446744073709551616) : Ct Tryz.prog 91 #[.int .u64 (x : Int), .int .u64 (y : Int)] M (Mul64R x y M) := (mul64_det hx hy).mono fun _ _ h => mulR_of hx hy h

end Go.Proofs.YtjlhhcdefcofkaaGreatDoor

/- The product of two numbers and its folding (2). -/
namespace Go.Proofs.YtjlhhcdefcofkaaGreatDoor
open Go
set_option maxRecDepth 100000


theorem red64_ct {M : Mem} {iz il ih gz gl gh Tz Tl Th kz oz l0 l1 l2 l3 l4 l5 l6 h0 h1 h2 h3 h4 h5 h6 : Nat} {lz : List Nat} (hz : M[iz]? = some ⟨gz, Tz, EE lz⟩) (hkz : kz < lz.length) (hoz : 56 * kz = oz) (hl : M[il]? = some ⟨gl, Tl, W [l0, l1, l2, l3, l4, l5, l6]⟩) (hh : M[ih]? = some ⟨gh, Th, W [h0, h1, h2, h3, h4, h5, h6]⟩) (hl0 : l0 < 18446744073709551616) (hl1 : l1 < 18446744073709551616) (hl2 : l2 < 18446744073709551616) (hl3 : l3 < 18446744073709551616) (hl4 : l4 < 18446744073709551616) (hl5 : l5 < 18446744073709551616) (hl6 : l6 < 18446744073709551616) (hh0 : h0 < 18446744073709551616) (hh1 : h1 < 18446744073709551616) (hh2 : h2 < 18446744073709551616) (hh3 : h3 < 18446744073709551616) (hh4 : h4 < 18446744073709551616) (hh5 : h5 < 18446744073709551616) (hh6 : h6 < 18446744073709551616) :
    Ct Tryz.prog 103 #[.pointer (some ⟨gz, oz, none⟩), .pointer (some ⟨gl, 0, none⟩), .pointer (some ⟨gh, 0, none⟩)] M (fun v M' => ∃ r, r < RR ∧ r % pp = (dval 18446744073709551616 [l0, l1, l2, l3, l4, l5, l6] + RR * dval 18446744073709551616 [h0, h1, h2, h3, h4, h5, h6]) % pp ∧ v = .tuple #[] ∧ M' = M.set iz ⟨gz, Tz, EE (lz.set kz r)⟩) := by
  have hle : oz + 56 ≤ (EE lz).length := by rw [EE_length]; omega
  refine ct_of (vs := [.pointer (some ⟨gz, oz, none⟩), .pointer (some ⟨gl, 0, none⟩), .pointer (some ⟨gh, 0, none⟩)]) Tryz.func103 rfl Tryz.ntmps103 rfl fun w0 => ?_
  refine at_seq ?_
  refine at_region ?_
  refine at_d rfl rfl (opr_move rfl rfl) ?_
  refine at_d rfl rfl (opr_nilCheck rfl rfl) ?_
  refine at_d rfl rfl (opr_indexAddr (j := 0) rfl rfl rfl Tryz.underlying116 (by decide) size29 rfl) ?_
  refine at_d rfl rfl (opr_load1 (i := ih) rfl rfl hh Tryz.underlying29 rfl rfl) ?_
  refine at_d rfl rfl (opr_assign rfl rfl) ?_
  refine at_nil ?_
  refine at_then ?_
  refine at_seq ?_
  refine at_region ?_
  refine at_d rfl rfl (opr_move rfl rfl) ?_
  refine at_d rfl rfl (opr_nilCheck rfl rfl) ?_
  refine at_d rfl rfl (opr_indexAddr (j := 1) rfl rfl rfl Tryz.underlying116 (by decide) size29 rfl) ?_
  refine at_d rfl rfl (opr_load1 (i := ih) rfl rfl hh Tryz.underlying29 rfl rfl) ?_
  refine at_d rfl rfl (opr_assign rfl rfl) ?_
  refine at_nil ?_
  refine at_then ?_
  refine at_seq ?_
  refine at_region ?_
  refine at_d rfl rfl (opr_move rfl rfl) ?_
  refine at_d rfl rfl (opr_nilCheck rfl rfl) ?_
  refine at_d rfl rfl (opr_indexAddr (j := 2) rfl rfl rfl Tryz.underlying116 (by decide) size29 rfl) ?_
  refine at_d rfl rfl (opr_load1 (i := ih) rfl rfl hh Tryz.underlying29 rfl rfl) ?_
  refine at_d rfl rfl (opr_assign rfl rfl) ?_
  refine at_nil ?_
  refine at_then ?_
  refine at_seq ?_
  refine at_draw (by kernel_rfl) (by kernel_rfl) (by kernel_rfl) (List.cons_ne_nil _ _) ?_
  refine dr_op rfl rfl (opr_move rfl rfl) ?_
  refine dr_op rfl rfl (opr_nilCheck rfl rfl) ?_
  refine dr_op rfl rfl (opr_indexAddr (j := 3) rfl rfl rfl Tryz.underlying116 (by decide) size29 rfl) ?_
  refine dr_op rfl rfl (opr_load1 (i := ih) rfl rfl hh Tryz.underlying29 rfl rfl) ?_
  refine dr_op rfl rfl (opr_and64 rfl rfl rfl hh3 (by decide)) ?_
  refine dr_op rfl rfl (opr_shl64 rfl rfl rfl (by decide)) ?_
  refine dr_op rfl rfl (opr_move rfl rfl) ?_
  refine dr_op rfl rfl (opr_nilCheck rfl rfl) ?_
  refine dr_op rfl rfl (opr_indexAddr (j := 3) rfl rfl rfl Tryz.underlying116 (by decide) size29 rfl) ?_
  refine dr_op rfl rfl (opr_load1 (i := ih) rfl rfl hh Tryz.underlying29 rfl rfl) ?_
  refine dr_op rfl rfl (opr_and64 rfl rfl rfl hh3 (by decide)) ?_
  refine dr_op rfl rfl (opr_eq (opr_or64 rfl rfl rfl (Nat.mod_lt _ (by decide)) (Nat.and_lt_two_pow (n := 64) _ (by decide))) (u64_eq (k3_eq hh3))) ?_
  refine dr_last rfl rfl (opr_assign rfl rfl) ?_
  refine at_then ?_
  refine at_seq ?_
  refine at_draw (by kernel_rfl) (by kernel_rfl) (by kernel_rfl) (List.cons_ne_nil _ _) ?_
  refine dr_op rfl rfl (opr_move rfl rfl) ?_
  refine dr_op rfl rfl (opr_nilCheck rfl rfl) ?_
  refine dr_op rfl rfl (opr_indexAddr (j := 3) rfl rfl rfl Tryz.underlying116 (by decide) size29 rfl) ?_
  refine dr_op rfl rfl (opr_load1 (i := ih) rfl rfl hh Tryz.underlying29 rfl rfl) ?_
  refine dr_op rfl rfl (opr_shr64 rfl rfl rfl (by decide)) ?_
  refine dr_op rfl rfl (opr_move rfl rfl) ?_
  refine dr_op rfl rfl (opr_nilCheck rfl rfl) ?_
  refine dr_op rfl rfl (opr_indexAddr (j := 4) rfl rfl rfl Tryz.underlying116 (by decide) size29 rfl) ?_
  refine dr_op rfl rfl (opr_load1 (i := ih) rfl rfl hh Tryz.underlying29 rfl rfl) ?_
  refine dr_op rfl rfl (opr_shl64 rfl rfl rfl (by decide)) ?_
  refine dr_op rfl rfl (opr_eq (opr_or64 rfl rfl rfl (Nat.lt_of_le_of_lt (Nat.div_le_self _ _) hh3) (Nat.mod_lt _ (by decide))) (u64_eq (k4_eq hh3))) ?_
  refine dr_last rfl rfl (opr_assign rfl rfl) ?_
  refine at_then ?_
  refine at_seq ?_
  refine at_draw (by kernel_rfl) (by kernel_rfl) (by kernel_rfl) (List.cons_ne_nil _ _) ?_
  refine dr_op rfl rfl (opr_move rfl rfl) ?_
  refine dr_op rfl rfl (opr_nilCheck rfl rfl) ?_
  refine dr_op rfl rfl (opr_indexAddr (j := 4) rfl rfl rfl Tryz.underlying116 (by decide) size29 rfl) ?_
  refine dr_op rfl rfl (opr_load1 (i := ih) rfl rfl hh Tryz.underlying29 rfl rfl) ?_
  refine dr_op rfl rfl (opr_shr64 rfl rfl rfl (by decide)) ?_
  refine dr_op rfl rfl (opr_move rfl rfl) ?_
  refine dr_op rfl rfl (opr_nilCheck rfl rfl) ?_
  refine dr_op rfl rfl (opr_indexAddr (j := 5) rfl rfl rfl Tryz.underlying116 (by decide) size29 rfl) ?_
  refine dr_op rfl rfl (opr_load1 (i := ih) rfl rfl hh Tryz.underlying29 rfl rfl) ?_
  refine dr_op rfl rfl (opr_shl64 rfl rfl rfl (by decide)) ?_
  refine dr_op rfl rfl (opr_eq (opr_or64 rfl rfl rfl (Nat.lt_of_le_of_lt (Nat.div_le_self _ _) hh4) (Nat.mod_lt _ (by decide))) (u64_eq (k4_eq hh4))) ?_
  refine dr_last rfl rfl (opr_assign rfl rfl) ?_
  refine at_then ?_
  refine at_seq ?_
  refine at_draw (by kernel_rfl) (by kernel_rfl) (by kernel_rfl) (List.cons_ne_nil _ _) ?_
  refine dr_op rfl rfl (opr_move rfl rfl) ?_
  refine dr_op rfl rfl (opr_nilCheck rfl rfl) ?_
  refine dr_op rfl rfl (opr_indexAddr (j := 5) rfl rfl rfl Tryz.underlying116 (by decide) size29 rfl) ?_
  refine dr_op rfl rfl (opr_load1 (i := ih) rfl rfl hh Tryz.underlying29 rfl rfl) ?_
  refine dr_op rfl rfl (opr_shr64 rfl rfl rfl (by decide)) ?_
  refine dr_op rfl rfl (opr_move rfl rfl) ?_
  refine dr_op rfl rfl (opr_nilCheck rfl rfl) ?_
  refine dr_op rfl rfl (opr_indexAddr (j := 6) rfl rfl rfl Tryz.underlying116 (by decide) size29 rfl) ?_
  refine dr_op rfl rfl (opr_load1 (i := ih) rfl rfl hh Tryz.underlying29 rfl rfl) ?_
  refine dr_op rfl rfl (opr_shl64 rfl rfl rfl (by decide)) ?_
  refine dr_op rfl rfl (opr_eq (opr_or64 rfl rfl rfl (Nat.lt_of_le_of_lt (Nat.div_le_self _ _) hh5) (Nat.mod_lt _ (by decide))) (u64_eq (k4_eq hh5))) ?_
  refine dr_last rfl rfl (opr_assign rfl rfl) ?_
  refine at_then ?_
  refine at_seq ?_
  refine at_region ?_
  refine at_d rfl rfl (opr_move rfl rfl) ?_
  refine at_d rfl rfl (opr_nilCheck rfl rfl) ?_
  refine at_d rfl rfl (opr_indexAddr (j := 6) rfl rfl rfl Tryz.underlying116 (by decide) size29 rfl) ?_
  refine at_d rfl rfl (opr_load1 (i := ih) rfl rfl hh Tryz.underlying29 rfl rfl) ?_
  refine at_d rfl rfl (opr_eq (opr_shr64 rfl rfl rfl (by decide)) (u64_eq ((rfl : _ = h6 / 9223372036854775808)))) ?_
  refine at_d rfl rfl (opr_assign rfl rfl) ?_
  refine at_nil ?_
  refine at_then ?_
  refine at_seq ?_
  refine at_region ?_
  refine at_d rfl rfl (opr_move rfl rfl) ?_
  refine at_d rfl rfl (opr_move rfl rfl) ?_
  refine at_d rfl rfl (opr_nilCheck rfl rfl) ?_
  refine at_d rfl rfl (opr_indexAddr (j := 0) rfl rfl rfl Tryz.underlying116 (by decide) size29 rfl) ?_
  refine at_d rfl rfl (opr_load1 (i := il) rfl rfl hl Tryz.underlying29 rfl rfl) ?_
  refine at_c rfl rfl (opr_Add64 rfl rfl rfl (by decide) hh0 hl0) ?_
  rintro _ _ ⟨s0, k0, rfl, e0, l0_, m0, rfl⟩
  refine at_d rfl rfl (opr_move rfl rfl) ?_
  refine at_d rfl rfl (opr_extract rfl rfl rfl) ?_
  refine at_d rfl rfl (opr_extract rfl rfl rfl) ?_
  refine at_d rfl rfl (opr_assign rfl rfl) ?_
  refine at_d rfl rfl (opr_assign rfl rfl) ?_
  refine at_nil ?_
  refine at_then ?_
  refine at_seq ?_
  refine at_region ?_
  refine at_d rfl rfl (opr_move rfl rfl) ?_
  refine at_d rfl rfl (opr_move rfl rfl) ?_
  refine at_d rfl rfl (opr_nilCheck rfl rfl) ?_
  refine at_d rfl rfl (opr_indexAddr (j := 1) rfl rfl rfl Tryz.underlying116 (by decide) size29 rfl) ?_
  refine at_d rfl rfl (opr_load1 (i := il) rfl rfl hl Tryz.underlying29 rfl rfl) ?_
  refine at_d rfl rfl (opr_move rfl rfl) ?_
  refine at_c rfl rfl (opr_Add64 rfl rfl rfl m0 hh1 hl1) ?_
  rintro _ _ ⟨s1, k1, rfl, e1, l1_, m1, rfl⟩
  refine at_d rfl rfl (opr_move rfl rfl) ?_
  refine at_d rfl rfl (opr_extract rfl rfl rfl) ?_
  refine at_d rfl rfl (opr_extract rfl rfl rfl) ?_
  refine at_d rfl rfl (opr_assign rfl rfl) ?_
  refine at_d rfl rfl (opr_assign rfl rfl) ?_
  refine at_nil ?_
  refine at_then ?_
  refine at_seq ?_
  refine at_region ?_
  refine at_d rfl rfl (opr_move rfl rfl) ?_
  refine at_d rfl rfl (opr_move rfl rfl) ?_
  refine at_d rfl rfl (opr_nilCheck rfl rfl) ?_
  refine at_d rfl rfl (opr_indexAddr (j := 2) rfl rfl rfl Tryz.underlying116 (by decide) size29 rfl) ?_
  refine at_d rfl rfl (opr_load1 (i := il) rfl rfl hl Tryz.underlying29 rfl rfl) ?_
  refine at_d rfl rfl (opr_move rfl rfl) ?_
  refine at_c rfl rfl (opr_Add64 rfl rfl rfl m1 hh2 hl2) ?_
  rintro _ _ ⟨s2, k2, rfl, e2, l2_, m2, rfl⟩
  refine at_d rfl rfl (opr_move rfl rfl) ?_
  refine at_d rfl rfl (opr_extract rfl rfl rfl) ?_
  refine at_d rfl rfl (opr_extract rfl rfl rfl) ?_
  refine at_d rfl rfl (opr_assign rfl rfl) ?_
  refine at_d rfl rfl (opr_assign rfl rfl) ?_
  refine at_nil ?_
  refine at_then ?_
  refine at_seq ?_
  refine at_region ?_
  refine at_d rfl rfl (opr_move rfl rfl) ?_
  refine at_d rfl rfl (opr_move rfl rfl) ?_
  refine at_d rfl rfl (opr_nilCheck rfl rfl) ?_
  refine at_d rfl rfl (opr_indexAddr (j := 3) rfl rfl rfl Tryz.underlying116 (by decide) size29 rfl) ?_
  refine at_d rfl rfl (opr_load1 (i := il) rfl rfl hl Tryz.underlying29 rfl rfl) ?_
  refine at_d rfl rfl (opr_move rfl rfl) ?_
  refine at_c rfl rfl (opr_Add64 rfl rfl rfl m2 k3_lt hl3) ?_
  rintro _ _ ⟨s3, k3, rfl, e3, l3_, m3, rfl⟩
  refine at_d rfl rfl (opr_move rfl rfl) ?_
  refine at_d rfl rfl (opr_extract rfl rfl rfl) ?_
  refine at_d rfl rfl (opr_extract rfl rfl rfl) ?_
  refine at_d rfl rfl (opr_assign rfl rfl) ?_
  refine at_d rfl rfl (opr_assign rfl rfl) ?_
  refine at_nil ?_
  refine at_then ?_
  refine at_seq ?_
  refine at_region ?_
  refine at_d rfl rfl (opr_move rfl rfl) ?_
  refine at_d rfl rfl (opr_move rfl rfl) ?_
  refine at_d rfl rfl (opr_nilCheck rfl rfl) ?_
  refine at_d rfl rfl (opr_indexAddr (j := 4) rfl rfl rfl Tryz.underlying116 (by decide) size29 rfl) ?_
  refine at_d rfl rfl (opr_load1 (i := il) rfl rfl hl Tryz.underlying29 rfl rfl) ?_
  refine at_d rfl rfl (opr_move rfl rfl) ?_
  refine at_c rfl rfl (opr_Add64 rfl rfl rfl m3 (k4_lt hh3) hl4) ?_
  rintro _ _ ⟨s4, k4, rfl, e4, l4_, m4, rfl⟩
  refine at_d rfl rfl (opr_move rfl rfl) ?_
  refine at_d rfl rfl (opr_extract rfl rfl rfl) ?_
  refine at_d rfl rfl (opr_extract rfl rfl rfl) ?_
  refine at_d rfl rfl (opr_assign rfl rfl) ?_
  refine at_d rfl rfl (opr_assign rfl rfl) ?_
  refine at_nil ?_
  refine at_then ?_
  refine at_seq ?_
  refine at_region ?_
  refine at_d rfl rfl (opr_move rfl rfl) ?_
  refine at_d rfl rfl (opr_move rfl rfl) ?_
  refine at_d rfl rfl (opr_nilCheck rfl rfl) ?_
  refine at_d rfl rfl (opr_indexAddr (j := 5) rfl rfl rfl Tryz.underlying116 (by decide) size29 rfl) ?_
  refine at_d rfl rfl (opr_load1 (i := il) rfl rfl hl Tryz.underlying29 rfl rfl) ?_
  refine at_d rfl rfl (opr_move rfl rfl) ?_
  refine at_c rfl rfl (opr_Add64 rfl rfl rfl m4 (k4_lt hh4) hl5) ?_
  rintro _ _ ⟨s5, k5, rfl, e5, l5_, m5, rfl⟩
  refine at_d rfl rfl (opr_move rfl rfl) ?_
  refine at_d rfl rfl (opr_extract rfl rfl rfl) ?_
  refine at_d rfl rfl (opr_extract rfl rfl rfl) ?_
  refine at_d rfl rfl (opr_assign rfl rfl) ?_
  refine at_d rfl rfl (opr_assign rfl rfl) ?_
  refine at_nil ?_
  refine at_then ?_
  refine at_seq ?_
  refine at_region ?_
  refine at_d rfl rfl (opr_move rfl rfl) ?_
  refine at_d rfl rfl (opr_move rfl rfl) ?_
  refine at_d rfl rfl (opr_nilCheck rfl rfl) ?_
  refine at_d rfl rfl (opr_indexAddr (j := 6) rfl rfl rfl Tryz.underlying116 (by decide) size29 rfl) ?_
  refine at_d rfl rfl (opr_load1 (i := il) rfl rfl hl Tryz.underlying29 rfl rfl) ?_
  refine at_d rfl rfl (opr_move rfl rfl) ?_
  refine at_c rfl rfl (opr_Add64 rfl rfl rfl m5 (k4_lt hh5) hl6) ?_
  rintro _ _ ⟨s6, k6, rfl, e6, l6_, m6, rfl⟩
  refine at_d rfl rfl (opr_move rfl rfl) ?_
  refine at_d rfl rfl (opr_extract rfl rfl rfl) ?_
  refine at_d rfl rfl (opr_extract rfl rfl rfl) ?_
  refine at_d rfl rfl (opr_assign rfl rfl) ?_
  refine at_d rfl rfl (opr_assign rfl rfl) ?_
  refine at_nil ?_
  refine at_then ?_
  refine at_seq ?_
  refine at_region ?_
  refine at_d rfl rfl (opr_move rfl rfl) ?_
  refine at_d rfl rfl (opr_move rfl rfl) ?_
  refine at_c rfl rfl (opr_Add64 rfl rfl rfl m6 (k7_lt hh6) (by decide)) ?_
  rintro _ _ ⟨s7, k7, rfl, e7, l7_, m7, rfl⟩
  refine at_d rfl rfl (opr_move rfl rfl) ?_
  refine at_d rfl rfl (opr_extract rfl rfl rfl) ?_
  refine at_d rfl rfl (opr_extract rfl rfl rfl) ?_
  refine at_d rfl rfl (opr_assign rfl rfl) ?_
  refine at_d rfl rfl (opr_assign rfl rfl) ?_
  refine at_nil ?_
  refine at_then ?_
  refine at_seq ?_
  refine at_draw (by kernel_rfl) (by kernel_rfl) (by kernel_rfl) (List.cons_ne_nil _ _) ?_
  refine dr_op rfl rfl (opr_move rfl rfl) ?_
  refine dr_op rfl rfl (opr_nilCheck rfl rfl) ?_
  refine dr_op rfl rfl (opr_indexAddr (j := 3) rfl rfl rfl Tryz.underlying116 (by decide) size29 rfl) ?_
  refine dr_op rfl rfl (opr_load1 (i := ih) rfl rfl hh Tryz.underlying29 rfl rfl) ?_
  refine dr_op rfl rfl (opr_shr64 rfl rfl rfl (by decide)) ?_
  refine dr_op rfl rfl (opr_move rfl rfl) ?_
  refine dr_op rfl rfl (opr_nilCheck rfl rfl) ?_
  refine dr_op rfl rfl (opr_indexAddr (j := 4) rfl rfl rfl Tryz.underlying116 (by decide) size29 rfl) ?_
  refine dr_op rfl rfl (opr_load1 (i := ih) rfl rfl hh Tryz.underlying29 rfl rfl) ?_
  refine dr_op rfl rfl (opr_shl64 rfl rfl rfl (by decide)) ?_
  refine dr_op rfl rfl (opr_eq (opr_or64 rfl rfl rfl (Nat.lt_of_le_of_lt (Nat.div_le_self _ _) hh3) (Nat.mod_lt _ (by decide))) (u64_eq (q_eq hh3))) ?_
  refine dr_last rfl rfl (opr_assign rfl rfl) ?_
  refine at_then ?_
  refine at_seq ?_
  refine at_draw (by kernel_rfl) (by kernel_rfl) (by kernel_rfl) (List.cons_ne_nil _ _) ?_
  refine dr_op rfl rfl (opr_move rfl rfl) ?_
  refine dr_op rfl rfl (opr_nilCheck rfl rfl) ?_
  refine dr_op rfl rfl (opr_indexAddr (j := 4) rfl rfl rfl Tryz.underlying116 (by decide) size29 rfl) ?_
  refine dr_op rfl rfl (opr_load1 (i := ih) rfl rfl hh Tryz.underlying29 rfl rfl) ?_
  refine dr_op rfl rfl (opr_shr64 rfl rfl rfl (by decide)) ?_
  refine dr_op rfl rfl (opr_move rfl rfl) ?_
  refine dr_op rfl rfl (opr_nilCheck rfl rfl) ?_
  refine dr_op rfl rfl (opr_indexAddr (j := 5) rfl rfl rfl Tryz.underlying116 (by decide) size29 rfl) ?_
  refine dr_op rfl rfl (opr_load1 (i := ih) rfl rfl hh Tryz.underlying29 rfl rfl) ?_
  refine dr_op rfl rfl (opr_shl64 rfl rfl rfl (by decide)) ?_
  refine dr_op rfl rfl (opr_eq (opr_or64 rfl rfl rfl (Nat.lt_of_le_of_lt (Nat.div_le_self _ _) hh4) (Nat.mod_lt _ (by decide))) (u64_eq (q_eq hh4))) ?_
  refine dr_last rfl rfl (opr_assign rfl rfl) ?_
  refine at_then ?_
  refine at_seq ?_
  refine at_draw (by kernel_rfl) (by kernel_rfl) (by kernel_rfl) (List.cons_ne_nil _ _) ?_
  refine dr_op rfl rfl (opr_move rfl rfl) ?_
  refine dr_op rfl rfl (opr_nilCheck rfl rfl) ?_
  refine dr_op rfl rfl (opr_indexAddr (j := 5) rfl rfl rfl Tryz.underlying116 (by decide) size29 rfl) ?_
  refine dr_op rfl rfl (opr_load1 (i := ih) rfl rfl hh Tryz.underlying29 rfl rfl) ?_
  refine dr_op rfl rfl (opr_shr64 rfl rfl rfl (by decide)) ?_
  refine dr_op rfl rfl (opr_move rfl rfl) ?_
  refine dr_op rfl rfl (opr_nilCheck rfl rfl) ?_
  refine dr_op rfl rfl (opr_indexAddr (j := 6) rfl rfl rfl Tryz.underlying116 (by decide) size29 rfl) ?_
  refine dr_op rfl rfl (opr_load1 (i := ih) rfl rfl hh Tryz.underlying29 rfl rfl) ?_
  refine dr_op rfl rfl (opr_shl64 rfl rfl rfl (by decide)) ?_
  refine dr_op rfl rfl (opr_eq (opr_or64 rfl rfl rfl (Nat.lt_of_le_of_lt (Nat.div_le_self _ _) hh5) (Nat.mod_lt _ (by decide))) (u64_eq (q_eq hh5))) ?_
  refine dr_last rfl rfl (opr_assign rfl rfl) ?_
  refine at_then ?_
  refine at_seq ?_
  refine at_draw (by kernel_rfl) (by kernel_rfl) (by kernel_rfl) (List.cons_ne_nil _ _) ?_
  refine dr_op rfl rfl (opr_move rfl rfl) ?_
  refine dr_op rfl rfl (opr_nilCheck rfl rfl) ?_
  refine dr_op rfl rfl (opr_indexAddr (j := 6) rfl rfl rfl Tryz.underlying116 (by decide) size29 rfl) ?_
  refine dr_op rfl rfl (opr_load1 (i := ih) rfl rfl hh Tryz.underlying29 rfl rfl) ?_
  refine dr_op rfl rfl (opr_shr64 rfl rfl rfl (by decide)) ?_
  refine dr_op rfl rfl (opr_move rfl rfl) ?_
  refine dr_op rfl rfl (opr_nilCheck rfl rfl) ?_
  refine dr_op rfl rfl (opr_indexAddr (j := 0) rfl rfl rfl Tryz.underlying116 (by decide) size29 rfl) ?_
  refine dr_op rfl rfl (opr_load1 (i := ih) rfl rfl hh Tryz.underlying29 rfl rfl) ?_
  refine dr_op rfl rfl (opr_shl64 rfl rfl rfl (by decide)) ?_
  refine dr_op rfl rfl (opr_eq (opr_or64 rfl rfl rfl (Nat.lt_of_le_of_lt (Nat.div_le_self _ _) hh6) (Nat.mod_lt _ (by decide))) (u64_eq (q_eq hh6))) ?_
  refine dr_last rfl rfl (opr_assign rfl rfl) ?_
  refine at_then ?_
  refine at_seq ?_
  refine at_draw (by kernel_rfl) (by kernel_rfl) (by kernel_rfl) (List.cons_ne_nil _ _) ?_
  refine dr_op rfl rfl (opr_move rfl rfl) ?_
  refine dr_op rfl rfl (opr_nilCheck rfl rfl) ?_
  refine dr_op rfl rfl (opr_indexAddr (j := 0) rfl rfl rfl Tryz.underlying116 (by decide) size29 rfl) ?_
  refine dr_op rfl rfl (opr_load1 (i := ih) rfl rfl hh Tryz.underlying29 rfl rfl) ?_
  refine dr_op rfl rfl (opr_shr64 rfl rfl rfl (by decide)) ?_
  refine dr_op rfl rfl (opr_move rfl rfl) ?_
  refine dr_op rfl rfl (opr_nilCheck rfl rfl) ?_
  refine dr_op rfl rfl (opr_indexAddr (j := 1) rfl rfl rfl Tryz.underlying116 (by decide) size29 rfl) ?_
  refine dr_op rfl rfl (opr_load1 (i := ih) rfl rfl hh Tryz.underlying29 rfl rfl) ?_
  refine dr_op rfl rfl (opr_shl64 rfl rfl rfl (by decide)) ?_
  refine dr_op rfl rfl (opr_eq (opr_or64 rfl rfl rfl (Nat.lt_of_le_of_lt (Nat.div_le_self _ _) hh0) (Nat.mod_lt _ (by decide))) (u64_eq (q_eq hh0))) ?_
  refine dr_last rfl rfl (opr_assign rfl rfl) ?_
  refine at_then ?_
  refine at_seq ?_
  refine at_draw (by kernel_rfl) (by kernel_rfl) (by kernel_rfl) (List.cons_ne_nil _ _) ?_
  refine dr_op rfl rfl (opr_move rfl rfl) ?_
  refine dr_op rfl rfl (opr_nilCheck rfl rfl) ?_
  refine dr_op rfl rfl (opr_indexAddr (j := 1) rfl rfl rfl Tryz.underlying116 (by decide) size29 rfl) ?_
  refine dr_op rfl rfl (opr_load1 (i := ih) rfl rfl hh Tryz.underlying29 rfl rfl) ?_
  refine dr_op rfl rfl (opr_shr64 rfl rfl rfl (by decide)) ?_
  refine dr_op rfl rfl (opr_move rfl rfl) ?_
  refine dr_op rfl rfl (opr_nilCheck rfl rfl) ?_
  refine dr_op rfl rfl (opr_indexAddr (j := 2) rfl rfl rfl Tryz.underlying116 (by decide) size29 rfl) ?_
  refine dr_op rfl rfl (opr_load1 (i := ih) rfl rfl hh Tryz.underlying29 rfl rfl) ?_
  refine dr_op rfl rfl (opr_shl64 rfl rfl rfl (by decide)) ?_
  refine dr_op rfl rfl (opr_eq (opr_or64 rfl rfl rfl (Nat.lt_of_le_of_lt (Nat.div_le_self _ _) hh1) (Nat.mod_lt _ (by decide))) (u64_eq (q_eq hh1))) ?_
  refine dr_last rfl rfl (opr_assign rfl rfl) ?_
  refine at_then ?_
  refine at_seq ?_
  refine at_draw (by kernel_rfl) (by kernel_rfl) (by kernel_rfl) (List.cons_ne_nil _ _) ?_
  refine dr_op rfl rfl (opr_move rfl rfl) ?_
  refine dr_op rfl rfl (opr_nilCheck rfl rfl) ?_
  refine dr_op rfl rfl (opr_indexAddr (j := 2) rfl rfl rfl Tryz.underlying116 (by decide) size29 rfl) ?_
  refine dr_op rfl rfl (opr_load1 (i := ih) rfl rfl hh Tryz.underlying29 rfl rfl) ?_
  refine dr_op rfl rfl (opr_shr64 rfl rfl rfl (by decide)) ?_
  refine dr_op rfl rfl (opr_move rfl rfl) ?_
  refine dr_op rfl rfl (opr_nilCheck rfl rfl) ?_
  refine dr_op rfl rfl (opr_indexAddr (j := 3) rfl rfl rfl Tryz.underlying116 (by decide) size29 rfl) ?_
  refine dr_op rfl rfl (opr_load1 (i := ih) rfl rfl hh Tryz.underlying29 rfl rfl) ?_
  refine dr_op rfl rfl (opr_shl64 rfl rfl rfl (by decide)) ?_
  refine dr_op rfl rfl (opr_eq (opr_or64 rfl rfl rfl (Nat.lt_of_le_of_lt (Nat.div_le_self _ _) hh2) (Nat.mod_lt _ (by decide))) (u64_eq (q_eq hh2))) ?_
  refine dr_last rfl rfl (opr_assign rfl rfl) ?_
  refine at_then ?_
  refine at_seq ?_
  refine at_region ?_
  refine at_d rfl rfl (opr_move rfl rfl) ?_
  refine at_d rfl rfl (opr_move rfl rfl) ?_
  refine at_c rfl rfl (opr_Add64 rfl rfl rfl (by decide) l0_ (q_lt hh3)) ?_
  rintro _ _ ⟨s8, k8, rfl, e8, l8_, m8, rfl⟩
  refine at_d rfl rfl (opr_move rfl rfl) ?_
  refine at_d rfl rfl (opr_extract rfl rfl rfl) ?_
  refine at_d rfl rfl (opr_extract rfl rfl rfl) ?_
  refine at_d rfl rfl (opr_assign rfl rfl) ?_
  refine at_d rfl rfl (opr_assign rfl rfl) ?_
  refine at_nil ?_
  refine at_then ?_
  refine at_seq ?_
  refine at_region ?_
  refine at_d rfl rfl (opr_move rfl rfl) ?_
  refine at_d rfl rfl (opr_move rfl rfl) ?_
  refine at_d rfl rfl (opr_move rfl rfl) ?_
  refine at_c rfl rfl (opr_Add64 rfl rfl rfl m8 l1_ (q_lt hh4)) ?_
  rintro _ _ ⟨s9, k9, rfl, e9, l9_, m9, rfl⟩
  refine at_d rfl rfl (opr_move rfl rfl) ?_
  refine at_d rfl rfl (opr_extract rfl rfl rfl) ?_
  refine at_d rfl rfl (opr_extract rfl rfl rfl) ?_
  refine at_d rfl rfl (opr_assign rfl rfl) ?_
  refine at_d rfl rfl (opr_assign rfl rfl) ?_
  refine at_nil ?_
  refine at_then ?_
  refine at_seq ?_
  refine at_region ?_
  refine at_d rfl rfl (opr_move rfl rfl) ?_
  refine at_d rfl rfl (opr_move rfl rfl) ?_
  refine at_d rfl rfl (opr_move rfl rfl) ?_
  refine at_c rfl rfl (opr_Add64 rfl rfl rfl m9 l2_ (q_lt hh5)) ?_
  rintro _ _ ⟨s10, k10, rfl, e10, l10_, m10, rfl⟩
  refine at_d rfl rfl (opr_move rfl rfl) ?_
  refine at_d rfl rfl (opr_extract rfl rfl rfl) ?_
  refine at_d rfl rfl (opr_extract rfl rfl rfl) ?_
  refine at_d rfl rfl (opr_assign rfl rfl) ?_
  refine at_d rfl rfl (opr_assign rfl rfl) ?_
  refine at_nil ?_
  refine at_then ?_
  refine at_seq ?_
  refine at_region ?_
  refine at_d rfl rfl (opr_move rfl rfl) ?_
  refine at_d rfl rfl (opr_move rfl rfl) ?_
  refine at_d rfl rfl (opr_move rfl rfl) ?_
  refine at_c rfl rfl (opr_Add64 rfl rfl rfl m10 l3_ (q_lt hh6)) ?_
  rintro _ _ ⟨s11, k11, rfl, e11, l11_, m11, rfl⟩
  refine at_d rfl rfl (opr_move rfl rfl) ?_
  refine at_d rfl rfl (opr_extract rfl rfl rfl) ?_
  refine at_d rfl rfl (opr_extract rfl rfl rfl) ?_
  refine at_d rfl rfl (opr_assign rfl rfl) ?_
  refine at_d rfl rfl (opr_assign rfl rfl) ?_
  refine at_nil ?_
  refine at_then ?_
  refine at_seq ?_
  refine at_region ?_
  refine at_d rfl rfl (opr_move rfl rfl) ?_
  refine at_d rfl rfl (opr_move rfl rfl) ?_
  refine at_d rfl rfl (opr_move rfl rfl) ?_
  refine at_c rfl rfl (opr_Add64 rfl rfl rfl m11 l4_ (q_lt hh0)) ?_
  rintro _ _ ⟨s12, k12, rfl, e12, l12_, m12, rfl⟩
  refine at_d rfl rfl (opr_move rfl rfl) ?_
  refine at_d rfl rfl (opr_extract rfl rfl rfl) ?_
  refine at_d rfl rfl (opr_extract rfl rfl rfl) ?_
  refine at_d rfl rfl (opr_assign rfl rfl) ?_
  refine at_d rfl rfl (opr_assign rfl rfl) ?_
  refine at_nil ?_
  refine at_then ?_
  refine at_seq ?_
  refine at_region ?_
  refine at_d rfl rfl (opr_move rfl rfl) ?_
  refine at_d rfl rfl (opr_move rfl rfl) ?_
  refine at_d rfl rfl (opr_move rfl rfl) ?_
  refine at_c rfl rfl (opr_Add64 rfl rfl rfl m12 l5_ (q_lt hh1)) ?_
  rintro _ _ ⟨s13, k13, rfl, e13, l13_, m13, rfl⟩
  refine at_d rfl rfl (opr_move rfl rfl) ?_
  refine at_d rfl rfl (opr_extract rfl rfl rfl) ?_
  refine at_d rfl rfl (opr_extract rfl rfl rfl) ?_
  refine at_d rfl rfl (opr_assign rfl rfl) ?_
  refine at_d rfl rfl (opr_assign rfl rfl) ?_
  refine at_nil ?_
  refine at_then ?_
  refine at_seq ?_
  refine at_region ?_
  refine at_d rfl rfl (opr_move rfl rfl) ?_
  refine at_d rfl rfl (opr_move rfl rfl) ?_
  refine at_d rfl rfl (opr_move rfl rfl) ?_
  refine at_c rfl rfl (opr_Add64 rfl rfl rfl m13 l6_ (q_lt hh2)) ?_
  rintro _ _ ⟨s14, k14, rfl, e14, l14_, m14, rfl⟩
  refine at_d rfl rfl (opr_move rfl rfl) ?_
  refine at_d rfl rfl (opr_extract rfl rfl rfl) ?_
  refine at_d rfl rfl (opr_extract rfl rfl rfl) ?_
  refine at_d rfl rfl (opr_assign rfl rfl) ?_
  refine at_d rfl rfl (opr_assign rfl rfl) ?_
  refine at_nil ?_
  refine at_then ?_
  refine at_seq ?_
  refine at_region ?_
  refine at_d rfl rfl (opr_move rfl rfl) ?_
  refine at_d rfl rfl (opr_move rfl rfl) ?_
  refine at_c rfl rfl (opr_Add64 rfl rfl rfl m14 l7_ (by decide)) ?_
  rintro _ _ ⟨s15, k15, rfl, e15, l15_, m15, rfl⟩
  refine at_d rfl rfl (opr_move rfl rfl) ?_
  refine at_d rfl rfl (opr_extract rfl rfl rfl) ?_
  refine at_d rfl rfl (opr_extract rfl rfl rfl) ?_
  refine at_d rfl rfl (opr_assign rfl rfl) ?_
  refine at_nil ?_
  refine at_then ?_
  refine at_seq ?_
  refine at_region ?_
  refine at_d rfl rfl (opr_move rfl rfl) ?_
  refine at_d rfl rfl (opr_move rfl rfl) ?_
  refine at_c rfl rfl (opr_Add64 rfl rfl rfl (by decide) l8_ l15_) ?_
  rintro _ _ ⟨s16, k16, rfl, e16, l16_, m16, rfl⟩
  refine at_d rfl rfl (opr_move rfl rfl) ?_
  refine at_d rfl rfl (opr_extract rfl rfl rfl) ?_
  refine at_d rfl rfl (opr_extract rfl rfl rfl) ?_
  refine at_d rfl rfl (opr_assign rfl rfl) ?_
  refine at_d rfl rfl (opr_assign rfl rfl) ?_
  refine at_nil ?_
  refine at_then ?_
  refine at_seq ?_
  refine at_region ?_
  refine at_d rfl rfl (opr_move rfl rfl) ?_
  refine at_d rfl rfl (opr_move rfl rfl) ?_
  refine at_c rfl rfl (opr_Add64 rfl rfl rfl m16 l9_ (by decide)) ?_
  rintro _ _ ⟨s17, k17, rfl, e17, l17_, m17, rfl⟩
  refine at_d rfl rfl (opr_move rfl rfl) ?_
  refine at_d rfl rfl (opr_extract rfl rfl rfl) ?_
  refine at_d rfl rfl (opr_extract rfl rfl rfl) ?_
  refine at_d rfl rfl (opr_assign rfl rfl) ?_
  refine at_d rfl rfl (opr_assign rfl rfl) ?_
  refine at_nil ?_
  refine at_then ?_
  refine at_seq ?_
  refine at_region ?_
  refine at_d rfl rfl (opr_move rfl rfl) ?_
  refine at_d rfl rfl (opr_move rfl rfl) ?_
  refine at_c rfl rfl (opr_Add64 rfl rfl rfl m17 l10_ (by decide)) ?_
  rintro _ _ ⟨s18, k18, rfl, e18, l18_, m18, rfl⟩
  refine at_d rfl rfl (opr_move rfl rfl) ?_
  refine at_d rfl rfl (opr_extract rfl rfl rfl) ?_
  refine at_d rfl rfl (opr_extract rfl rfl rfl) ?_
  refine at_d rfl rfl (opr_assign rfl rfl) ?_
  refine at_d rfl rfl (opr_assign rfl rfl) ?_
  refine at_nil ?_
  refine at_then ?_
  refine at_seq ?_
  refine at_region ?_
  refine at_d rfl rfl (opr_move rfl rfl) ?_
  refine at_d rfl rfl (opr_move rfl rfl) ?_
  refine at_d rfl rfl (opr_shl64 rfl rfl rfl (by decide)) ?_
  refine at_d rfl rfl (opr_move rfl rfl) ?_
  refine at_c rfl rfl (opr_Add64 rfl rfl rfl m18 l11_ (Nat.mod_lt _ (by decide))) ?_
  rintro _ _ ⟨s19, k19, rfl, e19, l19_, m19, rfl⟩
  refine at_d rfl rfl (opr_move rfl rfl) ?_
  refine at_d rfl rfl (opr_extract rfl rfl rfl) ?_
  refine at_d rfl rfl (opr_extract rfl rfl rfl) ?_
  refine at_d rfl rfl (opr_assign rfl rfl) ?_
  refine at_d rfl rfl (opr_assign rfl rfl) ?_
  refine at_nil ?_
  refine at_then ?_
  refine at_seq ?_
  refine at_region ?_
  refine at_d rfl rfl (opr_move rfl rfl) ?_
  refine at_d rfl rfl (opr_move rfl rfl) ?_
  refine at_c rfl rfl (opr_Add64 rfl rfl rfl m19 l12_ (by decide)) ?_
  rintro _ _ ⟨s20, k20, rfl, e20, l20_, m20, rfl⟩
  refine at_d rfl rfl (opr_move rfl rfl) ?_
  refine at_d rfl rfl (opr_extract rfl rfl rfl) ?_
  refine at_d rfl rfl (opr_extract rfl rfl rfl) ?_
  refine at_d rfl rfl (opr_assign rfl rfl) ?_
  refine at_d rfl rfl (opr_assign rfl rfl) ?_
  refine at_nil ?_
  refine at_then ?_
  refine at_seq ?_
  refine at_region ?_
  refine at_d rfl rfl (opr_move rfl rfl) ?_
  refine at_d rfl rfl (opr_move rfl rfl) ?_
  refine at_c rfl rfl (opr_Add64 rfl rfl rfl m20 l13_ (by decide)) ?_
  rintro _ _ ⟨s21, k21, rfl, e21, l21_, m21, rfl⟩
  refine at_d rfl rfl (opr_move rfl rfl) ?_
  refine at_d rfl rfl (opr_extract rfl rfl rfl) ?_
  refine at_d rfl rfl (opr_extract rfl rfl rfl) ?_
  refine at_d rfl rfl (opr_assign rfl rfl) ?_
  refine at_d rfl rfl (opr_assign rfl rfl) ?_
  refine at_nil ?_
  refine at_then ?_
  refine at_seq ?_
  refine at_region ?_
  refine at_d rfl rfl (opr_move rfl rfl) ?_
  refine at_d rfl rfl (opr_move rfl rfl) ?_
  refine at_c rfl rfl (opr_Add64 rfl rfl rfl m21 l14_ (by decide)) ?_
  rintro _ _ ⟨s22, k22, rfl, e22, l22_, m22, rfl⟩
  refine at_d rfl rfl (opr_move rfl rfl) ?_
  refine at_d rfl rfl (opr_extract rfl rfl rfl) ?_
  refine at_d rfl rfl (opr_extract rfl rfl rfl) ?_
  refine at_d rfl rfl (opr_assign rfl rfl) ?_
  refine at_d rfl rfl (opr_assign rfl rfl) ?_
  refine at_nil ?_
  refine at_then ?_
  refine at_seq ?_
  refine at_region ?_
  refine at_d rfl rfl (opr_move rfl rfl) ?_
  refine at_d rfl rfl (opr_move rfl rfl) ?_
  refine at_c rfl rfl (opr_Add64 rfl rfl rfl (by decide) l16_ (Nat.lt_of_le_of_lt m22 (by decide))) ?_
  rintro _ _ ⟨s23, k23, rfl, e23, l23_, m23, rfl⟩
  refine at_d rfl rfl (opr_move rfl rfl) ?_
  refine at_d rfl rfl (opr_extract rfl rfl rfl) ?_
  refine at_d rfl rfl (opr_extract rfl rfl rfl) ?_
  refine at_d rfl rfl (opr_assign rfl rfl) ?_
  refine at_d rfl rfl (opr_assign rfl rfl) ?_
  refine at_nil ?_
  refine at_then ?_
  refine at_seq ?_
  refine at_region ?_
  refine at_d rfl rfl (opr_move rfl rfl) ?_
  refine at_d rfl rfl (opr_move rfl rfl) ?_
  refine at_c rfl rfl (opr_Add64 rfl rfl rfl m23 l17_ (by decide)) ?_
  rintro _ _ ⟨s24, k24, rfl, e24, l24_, m24, rfl⟩
  refine at_d rfl rfl (opr_move rfl rfl) ?_
  refine at_d rfl rfl (opr_extract rfl rfl rfl) ?_
  refine at_d rfl rfl (opr_extract rfl rfl rfl) ?_
  refine at_d rfl rfl (opr_assign rfl rfl) ?_
  refine at_d rfl rfl (opr_assign rfl rfl) ?_
  refine at_nil ?_
  refine at_then ?_
  refine at_seq ?_
  refine at_region ?_
  refine at_d rfl rfl (opr_move rfl rfl) ?_
  refine at_d rfl rfl (opr_move rfl rfl) ?_
  refine at_c rfl rfl (opr_Add64 rfl rfl rfl m24 l18_ (by decide)) ?_
  rintro _ _ ⟨s25, k25, rfl, e25, l25_, m25, rfl⟩
  refine at_d rfl rfl (opr_move rfl rfl) ?_
  refine at_d rfl rfl (opr_extract rfl rfl rfl) ?_
  refine at_d rfl rfl (opr_extract rfl rfl rfl) ?_
  refine at_d rfl rfl (opr_assign rfl rfl) ?_
  refine at_d rfl rfl (opr_assign rfl rfl) ?_
  refine at_nil ?_
  refine at_then ?_
  refine at_seq ?_
  refine at_region ?_
  refine at_d rfl rfl (opr_move rfl rfl) ?_
  refine at_d rfl rfl (opr_move rfl rfl) ?_
  refine at_d rfl rfl (opr_shl64 rfl rfl rfl (by decide)) ?_
  refine at_d rfl rfl (opr_move rfl rfl) ?_
  refine at_c rfl rfl (opr_Add64 rfl rfl rfl m25 l19_ (Nat.mod_lt _ (by decide))) ?_
  rintro _ _ ⟨s26, k26, rfl, e26, l26_, m26, rfl⟩
  refine at_d rfl rfl (opr_move rfl rfl) ?_
  refine at_d rfl rfl (opr_extract rfl rfl rfl) ?_
  refine at_d rfl rfl (opr_extract rfl rfl rfl) ?_
  refine at_d rfl rfl (opr_assign rfl rfl) ?_
  refine at_d rfl rfl (opr_assign rfl rfl) ?_
  refine at_nil ?_
  refine at_then ?_
  refine at_seq ?_
  refine at_region ?_
  refine at_d rfl rfl (opr_move rfl rfl) ?_
  refine at_d rfl rfl (opr_move rfl rfl) ?_
  refine at_c rfl rfl (opr_Add64 rfl rfl rfl m26 l20_ (by decide)) ?_
  rintro _ _ ⟨s27, k27, rfl, e27, l27_, m27, rfl⟩
  refine at_d rfl rfl (opr_move rfl rfl) ?_
  refine at_d rfl rfl (opr_extract rfl rfl rfl) ?_
  refine at_d rfl rfl (opr_extract rfl rfl rfl) ?_
  refine at_d rfl rfl (opr_assign rfl rfl) ?_
  refine at_d rfl rfl (opr_assign rfl rfl) ?_
  refine at_nil ?_
  refine at_then ?_
  refine at_seq ?_
  refine at_region ?_
  refine at_d rfl rfl (opr_move rfl rfl) ?_
  refine at_d rfl rfl (opr_move rfl rfl) ?_
  refine at_c rfl rfl (opr_Add64 rfl rfl rfl m27 l21_ (by decide)) ?_
  rintro _ _ ⟨s28, k28, rfl, e28, l28_, m28, rfl⟩
  refine at_d rfl rfl (opr_move rfl rfl) ?_
  refine at_d rfl rfl (opr_extract rfl rfl rfl) ?_
  refine at_d rfl rfl (opr_extract rfl rfl rfl) ?_
  refine at_d rfl rfl (opr_assign rfl rfl) ?_
  refine at_d rfl rfl (opr_assign rfl rfl) ?_
  refine at_nil ?_
  refine at_then ?_
  refine at_seq ?_
  refine at_region ?_
  refine at_d rfl rfl (opr_move rfl rfl) ?_
  refine at_d rfl rfl (opr_move rfl rfl) ?_
  refine at_c rfl rfl (opr_Add64 rfl rfl rfl m28 l22_ (by decide)) ?_
  rintro _ _ ⟨s29, k29, rfl, e29, l29_, m29, rfl⟩
  refine at_d rfl rfl (opr_move rfl rfl) ?_
  refine at_d rfl rfl (opr_extract rfl rfl rfl) ?_
  refine at_d rfl rfl (opr_extract rfl rfl rfl) ?_
  refine at_d rfl rfl (opr_assign rfl rfl) ?_
  refine at_nil ?_
  refine at_then ?_
  refine at_seq ?_
  refine at_draw (by kernel_rfl) (by kernel_rfl) (by kernel_rfl) (List.cons_ne_nil _ _) ?_
  refine dr_op rfl rfl (opr_load0 rfl rfl Tryz.underlying131 rfl size131) ?_
  refine dr_op rfl rfl (opr_move rfl rfl) ?_
  refine dr_op rfl rfl (opr_nilCheck rfl rfl) ?_
  refine dr_op rfl rfl (opr_slice (a := 0) (b := 8) (off' := oz) rfl rfl rfl rfl Tryz.underlying60 (by decide) (by decide) (by decide) size5 rfl) ?_
  refine dr_op rfl rfl (opr_move rfl rfl) ?_
  refine dr_last rfl rfl (opr_call rfl rfl rfl Tryz.func95 (by kernel_rfl) rfl (putUint64_ct hz (Nat.le_trans (by omega) hle) l23_ (by decide))) ?_
  refine at_then ?_
  refine at_seq ?_
  refine at_draw (by kernel_rfl) (by kernel_rfl) (by kernel_rfl) (List.cons_ne_nil _ _) ?_
  refine dr_op rfl rfl (opr_load0 rfl rfl Tryz.underlying131 rfl size131) ?_
  refine dr_op rfl rfl (opr_move rfl rfl) ?_
  refine dr_op rfl rfl (opr_nilCheck rfl rfl) ?_
  refine dr_op rfl rfl (opr_slice (a := 8) (b := 16) (off' := oz + 8) rfl rfl rfl rfl Tryz.underlying60 (by decide) (by decide) (by decide) size5 rfl) ?_
  refine dr_op rfl rfl (opr_move rfl rfl) ?_
  refine dr_last rfl rfl (opr_call rfl rfl rfl Tryz.func95 (by kernel_rfl) rfl (putUint64_ct (get_set hz) (Nat.le_trans (by omega) (ple hle (by omega))) l24_ (by decide))) ?_
  refine at_then ?_
  refine at_seq ?_
  refine at_draw (by kernel_rfl) (by kernel_rfl) (by kernel_rfl) (List.cons_ne_nil _ _) ?_
  refine dr_op rfl rfl (opr_load0 rfl rfl Tryz.underlying131 rfl size131) ?_
  refine dr_op rfl rfl (opr_move rfl rfl) ?_
  refine dr_op rfl rfl (opr_nilCheck rfl rfl) ?_
  refine dr_op rfl rfl (opr_slice (a := 16) (b := 24) (off' := oz + 16) rfl rfl rfl rfl Tryz.underlying60 (by decide) (by decide) (by decide) size5 rfl) ?_
  refine dr_op rfl rfl (opr_move rfl rfl) ?_
  refine dr_last rfl rfl (opr_call rfl rfl rfl Tryz.func95 (by kernel_rfl) rfl (putUint64_ct (get_set (get_set hz)) (Nat.le_trans (by omega) (ple (ple hle (by omega)) (by omega))) l25_ (by decide))) ?_
  refine at_then ?_
  refine at_seq ?_
  refine at_draw (by kernel_rfl) (by kernel_rfl) (by kernel_rfl) (List.cons_ne_nil _ _) ?_
  refine dr_op rfl rfl (opr_load0 rfl rfl Tryz.underlying131 rfl size131) ?_
  refine dr_op rfl rfl (opr_move rfl rfl) ?_
  refine dr_op rfl rfl (opr_nilCheck rfl rfl) ?_
  refine dr_op rfl rfl (opr_slice (a := 24) (b := 32) (off' := oz + 24) rfl rfl rfl rfl Tryz.underlying60 (by decide) (by decide) (by decide) size5 rfl) ?_
  refine dr_op rfl rfl (opr_move rfl rfl) ?_
  refine dr_last rfl rfl (opr_call rfl rfl rfl Tryz.func95 (by kernel_rfl) rfl (putUint64_ct (get_set (get_set (get_set hz))) (Nat.le_trans (by omega) (ple (ple (ple hle (by omega)) (by omega)) (by omega))) l26_ (by decide))) ?_
  refine at_then ?_
  refine at_seq ?_
  refine at_draw (by kernel_rfl) (by kernel_rfl) (by kernel_rfl) (List.cons_ne_nil _ _) ?_
  refine dr_op rfl rfl (opr_load0 rfl rfl Tryz.underlying131 rfl size131) ?_
  refine dr_op rfl rfl (opr_move rfl rfl) ?_
  refine dr_op rfl rfl (opr_nilCheck rfl rfl) ?_
  refine dr_op rfl rfl (opr_slice (a := 32) (b := 40) (off' := oz + 32) rfl rfl rfl rfl Tryz.underlying60 (by decide) (by decide) (by decide) size5 rfl) ?_
  refine dr_op rfl rfl (opr_move rfl rfl) ?_
  refine dr_last rfl rfl (opr_call rfl rfl rfl Tryz.func95 (by kernel_rfl) rfl (putUint64_ct (get_set (get_set (get_set (get_set hz)))) (Nat.le_trans (by omega) (ple (ple (ple (ple hle (by omega)) (by omega)) (by omega)) (by omega))) l27_ (by decide))) ?_
  refine at_then ?_
  refine at_seq ?_
  refine at_draw (by kernel_rfl) (by kernel_rfl) (by kernel_rfl) (List.cons_ne_nil _ _) ?_
  refine dr_op rfl rfl (opr_load0 rfl rfl Tryz.underlying131 rfl size131) ?_
  refine dr_op rfl rfl (opr_move rfl rfl) ?_
  refine dr_op rfl rfl (opr_nilCheck rfl rfl) ?_
  refine dr_op rfl rfl (opr_slice (a := 40) (b := 48) (off' := oz + 40) rfl rfl rfl rfl Tryz.underlying60 (by decide) (by decide) (by decide) size5 rfl) ?_
  refine dr_op rfl rfl (opr_move rfl rfl) ?_
  refine dr_last rfl rfl (opr_call rfl rfl rfl Tryz.func95 (by kernel_rfl) rfl (putUint64_ct (get_set (get_set (get_set (get_set (get_set hz))))) (Nat.le_trans (by omega) (ple (ple (ple (ple (ple hle (by omega)) (by omega)) (by omega)) (by omega)) (by omega))) l28_ (by decide))) ?_
  refine at_then ?_
  refine at_draw (by kernel_rfl) (by kernel_rfl) (by kernel_rfl) (List.cons_ne_nil _ _) ?_
  refine dr_op rfl rfl (opr_load0 rfl rfl Tryz.underlying131 rfl size131) ?_
  refine dr_op rfl rfl (opr_move rfl rfl) ?_
  refine dr_op rfl rfl (opr_nilCheck rfl rfl) ?_
  refine dr_op rfl rfl (opr_slice (a := 48) (b := 56) (off' := oz + 48) rfl rfl rfl rfl Tryz.underlying60 (by decide) (by decide) (by decide) size5 rfl) ?_
  refine dr_op rfl rfl (opr_move rfl rfl) ?_
  refine dr_last rfl rfl (opr_call rfl rfl rfl Tryz.func95 (by kernel_rfl) rfl (putUint64_ct (get_set (get_set (get_set (get_set (get_set (get_set hz)))))) (Nat.le_trans (by omega) (ple (ple (ple (ple (ple (ple hle (by omega)) (by omega)) (by omega)) (by omega)) (by omega)) (by omega))) l29_ (by decide))) ?_
  refine done_of (res0 rfl) ⟨_, dval7_lt l23_ l24_ l25_ l26_ l27_ l28_ l29_, ?_, rfl, put7 hkz hoz l23_ l24_ l25_ l26_ l27_ l28_ l29_⟩ (List.Sublist.refl _)
  have f1 := add_chain e0 e1 e2 e3 e4 e5 e6
  have f2 := add_chain e8 e9 e10 e11 e12 e13 e14
  have f3 := add_chain e16 e17 e18 e19 e20 e21 e22
  have f4 := add_chain e23 e24 e25 e26 e27 e28 e29
  have hk7 := k7_le hh6
  rw [fold3_words (m7_le m6 m14 hk7 e7 e15)] at f3
  rw [fold_words m22] at f4
  rw [fold_H (h0 := h0) (h1 := h1) (h2 := h2) (h3 := h3)]
  exact red_folds (dval7_lt hl0 hl1 hl2 hl3 hl4 hl5 hl6) (dval7_lt l0_ l1_ l2_ l3_ l4_ l5_ l6_) (dval7_lt l8_ l9_ l10_ l11_ l12_ l13_ l14_) (dval7_lt l16_ l17_ l18_ l19_ l20_ l21_ l22_) (dval7_lt l23_ l24_ l25_ l26_ l27_ l28_ l29_) fold_K fold_Q f1 f2 m6 m14 hk7 e7 e15 f3 m22 f4 m29

end Go.Proofs.YtjlhhcdefcofkaaGreatDoor

/- The product of two numbers and its folding (3). -/
namespace Go.Proofs.YtjlhhcdefcofkaaGreatDoor
open Go
set_option maxRecDepth 100000


theorem built7 (a b c d e f g : Nat) : Tryz.prog.built 116 [(0, .int .u64 (a : Int)), (1, .int .u64 (b : Int)), (2, .int .u64 (c : Int)), (3, .int .u64 (d : Int)), (4, .int .u64 (e : Int)), (5, .int .u64 (f : Int)), (6, .int .u64 (g : Int))] = some (W [a, b, c, d, e, f, g]).toArray := by kernel_rfl
theorem mu7 {k : Nat} (h : k < 7) : 7 - (k + 1) < 7 - k := by omega
theorem seven_lt {a b c d e f g : Nat} (ha : a < 18446744073709551616) (hb : b < 18446744073709551616) (hc : c < 18446744073709551616) (hd : d < 18446744073709551616) (he : e < 18446744073709551616) (hf : f < 18446744073709551616) (hg : g < 18446744073709551616) : ∀ x ∈ [a, b, c, d, e, f, g], x < 18446744073709551616 := by
  intro x hx
  simp only [List.mem_cons, List.not_mem_nil, or_false] at hx
  rcases hx with rfl | rfl | rfl | rfl | rfl | rfl | rfl <;> assumption
theorem step_lt {Z s q : Nat} (hZ : Z < q) (hs : s < 18446744073709551616) : Z + q * s < q * 18446744073709551616 := by
  have : q * s ≤ q * 18446744073709551615 := Nat.mul_le_mul_left _ (by omega)
  omega
theorem first_acc {w A a b : Nat} (h : w + 18446744073709551616 * A = a * (b / 18446744073709551616 ^ 0 % 18446744073709551616)) : w + 18446744073709551616 ^ 1 * A = a * (b % 18446744073709551616 ^ 1) := by
  simpa using h
theorem dval_as_lt {l : List Nat} (hl : l.length = 7) (h : ∀ d ∈ l, d < 18446744073709551616) : dval 18446744073709551616 l < RR := by
  have := dval_lt l h
  rw [hl, pow7] at this
  exact this
theorem mul_end {Z A a b r : Nat} (hb : b < RR) (hZ : Z < 18446744073709551616 ^ 7) (h : Z + 18446744073709551616 ^ 7 * A = a * (b % 18446744073709551616 ^ 7)) (hr : r % pp = (dval 18446744073709551616 (digs 18446744073709551616 7 Z) + RR * A) % pp) : r % pp = a * b % pp := by
  rw [dval_digs, Nat.mod_eq_of_lt hZ] at hr
  rw [pow7, Nat.mod_eq_of_lt hb] at h
  rw [hr, h]
theorem mulGeneric_ct {M : Mem} {iz ix iy gz gx gy Tz Tx Ty kz kx ky oz ox oy a b : Nat} {lz lx ly : List Nat} (hz : M[iz]? = some ⟨gz, Tz, EE lz⟩) (hkz : kz < lz.length) (hoz : 56 * kz = oz) (hx : M[ix]? = some ⟨gx, Tx, EE lx⟩) (hkx : lx[kx]? = some a) (hox : 56 * kx = ox) (hy : M[iy]? = some ⟨gy, Ty, EE ly⟩) (hky : ly[ky]? = some b) (hoy : 56 * ky = oy) (ha : a < RR) (hb : b < RR) :
    Ct Tryz.prog 89 #[.pointer (some ⟨gz, oz, none⟩), .pointer (some ⟨gx, ox, none⟩), .pointer (some ⟨gy, oy, none⟩)] M (fun v M' => ∃ r, r < RR ∧ r % pp = a * b % pp ∧ v = .tuple #[] ∧ M' = M.set iz ⟨gz, Tz, EE (lz.set kz r)⟩) := by
  refine ct_of (vs := [.pointer (some ⟨gz, oz, none⟩), .pointer (some ⟨gx, ox, none⟩), .pointer (some ⟨gy, oy, none⟩)]) Tryz.func89 rfl Tryz.ntmps89 rfl fun w0 => ?_
  refine at_seq ?_
  refine at_draw (by kernel_rfl) (by kernel_rfl) (by kernel_rfl) (List.cons_ne_nil _ _) ?_
  refine dr_op rfl rfl (opr_load0 rfl rfl Tryz.underlying131 rfl size131) ?_
  refine dr_op rfl rfl (opr_move rfl rfl) ?_
  refine dr_op rfl rfl (opr_nilCheck rfl rfl) ?_
  refine dr_op rfl rfl (opr_slice (a := 0) (b := 8) (off' := ox) rfl rfl rfl rfl Tryz.underlying60 (by decide) (by decide) (by decide) size5 rfl) ?_
  refine dr_op rfl rfl (opr_call rfl rfl rfl Tryz.func90 (by kernel_rfl) rfl (uint64_ct (x := a / 256 ^ (8 * 0)) hx (EE_word hkx (i := 0) (by decide) (by omega)) (by decide))) ?_
  refine dr_last rfl rfl (opr_assign rfl rfl) ?_
  refine at_then ?_
  refine at_seq ?_
  refine at_draw (by kernel_rfl) (by kernel_rfl) (by kernel_rfl) (List.cons_ne_nil _ _) ?_
  refine dr_op rfl rfl (opr_load0 rfl rfl Tryz.underlying131 rfl size131) ?_
  refine dr_op rfl rfl (opr_move rfl rfl) ?_
  refine dr_op rfl rfl (opr_nilCheck rfl rfl) ?_
  refine dr_op rfl rfl (opr_slice (a := 8) (b := 16) (off' := ox + 8) rfl rfl rfl rfl Tryz.underlying60 (by decide) (by decide) (by decide) size5 rfl) ?_
  refine dr_op rfl rfl (opr_call rfl rfl rfl Tryz.func90 (by kernel_rfl) rfl (uint64_ct (x := a / 256 ^ (8 * 1)) hx (EE_word hkx (i := 1) (by decide) (by omega)) (by decide))) ?_
  refine dr_last rfl rfl (opr_assign rfl rfl) ?_
  refine at_then ?_
  refine at_seq ?_
  refine at_draw (by kernel_rfl) (by kernel_rfl) (by kernel_rfl) (List.cons_ne_nil _ _) ?_
  refine dr_op rfl rfl (opr_load0 rfl rfl Tryz.underlying131 rfl size131) ?_
  refine dr_op rfl rfl (opr_move rfl rfl) ?_
  refine dr_op rfl rfl (opr_nilCheck rfl rfl) ?_
  refine dr_op rfl rfl (opr_slice (a := 16) (b := 24) (off' := ox + 16) rfl rfl rfl rfl Tryz.underlying60 (by decide) (by decide) (by decide) size5 rfl) ?_
  refine dr_op rfl rfl (opr_call rfl rfl rfl Tryz.func90 (by kernel_rfl) rfl (uint64_ct (x := a / 256 ^ (8 * 2)) hx (EE_word hkx (i := 2) (by decide) (by omega)) (by decide))) ?_
  refine dr_last rfl rfl (opr_assign rfl rfl) ?_
  refine at_then ?_
  refine at_seq ?_
  refine at_draw (by kernel_rfl) (by kernel_rfl) (by kernel_rfl) (List.cons_ne_nil _ _) ?_
  refine dr_op rfl rfl (opr_load0 rfl rfl Tryz.underlying131 rfl size131) ?_
  refine dr_op rfl rfl (opr_move rfl rfl) ?_
  refine dr_op rfl rfl (opr_nilCheck rfl rfl) ?_
  refine dr_op rfl rfl (opr_slice (a := 24) (b := 32) (off' := ox + 24) rfl rfl rfl rfl Tryz.underlying60 (by decide) (by decide) (by decide) size5 rfl) ?_
  refine dr_op rfl rfl (opr_call rfl rfl rfl Tryz.func90 (by kernel_rfl) rfl (uint64_ct (x := a / 256 ^ (8 * 3)) hx (EE_word hkx (i := 3) (by decide) (by omega)) (by decide))) ?_
  refine dr_last rfl rfl (opr_assign rfl rfl) ?_
  refine at_then ?_
  refine at_seq ?_
  refine at_draw (by kernel_rfl) (by kernel_rfl) (by kernel_rfl) (List.cons_ne_nil _ _) ?_
  refine dr_op rfl rfl (opr_load0 rfl rfl Tryz.underlying131 rfl size131) ?_
  refine dr_op rfl rfl (opr_move rfl rfl) ?_
  refine dr_op rfl rfl (opr_nilCheck rfl rfl) ?_
  refine dr_op rfl rfl (opr_slice (a := 32) (b := 40) (off' := ox + 32) rfl rfl rfl rfl Tryz.underlying60 (by decide) (by decide) (by decide) size5 rfl) ?_
  refine dr_op rfl rfl (opr_call rfl rfl rfl Tryz.func90 (by kernel_rfl) rfl (uint64_ct (x := a / 256 ^ (8 * 4)) hx (EE_word hkx (i := 4) (by decide) (by omega)) (by decide))) ?_
  refine dr_last rfl rfl (opr_assign rfl rfl) ?_
  refine at_then ?_
  refine at_seq ?_
  refine at_draw (by kernel_rfl) (by kernel_rfl) (by kernel_rfl) (List.cons_ne_nil _ _) ?_
  refine dr_op rfl rfl (opr_load0 rfl rfl Tryz.underlying131 rfl size131) ?_
  refine dr_op rfl rfl (opr_move rfl rfl) ?_
  refine dr_op rfl rfl (opr_nilCheck rfl rfl) ?_
  refine dr_op rfl rfl (opr_slice (a := 40) (b := 48) (off' := ox + 40) rfl rfl rfl rfl Tryz.underlying60 (by decide) (by decide) (by decide) size5 rfl) ?_
  refine dr_op rfl rfl (opr_call rfl rfl rfl Tryz.func90 (by kernel_rfl) rfl (uint64_ct (x := a / 256 ^ (8 * 5)) hx (EE_word hkx (i := 5) (by decide) (by omega)) (by decide))) ?_
  refine dr_last rfl rfl (opr_assign rfl rfl) ?_
  refine at_then ?_
  refine at_seq ?_
  refine at_draw (by kernel_rfl) (by kernel_rfl) (by kernel_rfl) (List.cons_ne_nil _ _) ?_
  refine dr_op rfl rfl (opr_load0 rfl rfl Tryz.underlying131 rfl size131) ?_
  refine dr_op rfl rfl (opr_move rfl rfl) ?_
  refine dr_op rfl rfl (opr_nilCheck rfl rfl) ?_
  refine dr_op rfl rfl (opr_slice (a := 48) (b := 56) (off' := ox + 48) rfl rfl rfl rfl Tryz.underlying60 (by decide) (by decide) (by decide) size5 rfl) ?_
  refine dr_op rfl rfl (opr_call rfl rfl rfl Tryz.func90 (by kernel_rfl) rfl (uint64_ct (x := a / 256 ^ (8 * 6)) hx (EE_word hkx (i := 6) (by decide) (by omega)) (by decide))) ?_
  refine dr_last rfl rfl (opr_assign rfl rfl) ?_
  refine at_then ?_
  refine at_seq ?_
  refine at_draw (by kernel_rfl) (by kernel_rfl) (by kernel_rfl) (List.cons_ne_nil _ _) ?_
  refine dr_op rfl rfl (opr_load0 rfl rfl Tryz.underlying131 rfl size131) ?_
  refine dr_op rfl rfl (opr_move rfl rfl) ?_
  refine dr_op rfl rfl (opr_nilCheck rfl rfl) ?_
  refine dr_op rfl rfl (opr_slice (a := 0) (b := 8) (off' := oy) rfl rfl rfl rfl Tryz.underlying60 (by decide) (by decide) (by decide) size5 rfl) ?_
  refine dr_op rfl rfl (opr_call rfl rfl rfl Tryz.func90 (by kernel_rfl) rfl (uint64_ct (x := b / 256 ^ (8 * 0)) hy (EE_word hky (i := 0) (by decide) (by omega)) (by decide))) ?_
  refine dr_last rfl rfl (opr_assign rfl rfl) ?_
  refine at_then ?_
  refine at_seq ?_
  refine at_draw (by kernel_rfl) (by kernel_rfl) (by kernel_rfl) (List.cons_ne_nil _ _) ?_
  refine dr_op rfl rfl (opr_load0 rfl rfl Tryz.underlying131 rfl size131) ?_
  refine dr_op rfl rfl (opr_move rfl rfl) ?_
  refine dr_op rfl rfl (opr_nilCheck rfl rfl) ?_
  refine dr_op rfl rfl (opr_slice (a := 8) (b := 16) (off' := oy + 8) rfl rfl rfl rfl Tryz.underlying60 (by decide) (by decide) (by decide) size5 rfl) ?_
  refine dr_op rfl rfl (opr_call rfl rfl rfl Tryz.func90 (by kernel_rfl) rfl (uint64_ct (x := b / 256 ^ (8 * 1)) hy (EE_word hky (i := 1) (by decide) (by omega)) (by decide))) ?_
  refine dr_last rfl rfl (opr_assign rfl rfl) ?_
  refine at_then ?_
  refine at_seq ?_
  refine at_draw (by kernel_rfl) (by kernel_rfl) (by kernel_rfl) (List.cons_ne_nil _ _) ?_
  refine dr_op rfl rfl (opr_load0 rfl rfl Tryz.underlying131 rfl size131) ?_
  refine dr_op rfl rfl (opr_move rfl rfl) ?_
  refine dr_op rfl rfl (opr_nilCheck rfl rfl) ?_
  refine dr_op rfl rfl (opr_slice (a := 16) (b := 24) (off' := oy + 16) rfl rfl rfl rfl Tryz.underlying60 (by decide) (by decide) (by decide) size5 rfl) ?_
  refine dr_op rfl rfl (opr_call rfl rfl rfl Tryz.func90 (by kernel_rfl) rfl (uint64_ct (x := b / 256 ^ (8 * 2)) hy (EE_word hky (i := 2) (by decide) (by omega)) (by decide))) ?_
  refine dr_last rfl rfl (opr_assign rfl rfl) ?_
  refine at_then ?_
  refine at_seq ?_
  refine at_draw (by kernel_rfl) (by kernel_rfl) (by kernel_rfl) (List.cons_ne_nil _ _) ?_
  refine dr_op rfl rfl (opr_load0 rfl rfl Tryz.underlying131 rfl size131) ?_
  refine dr_op rfl rfl (opr_move rfl rfl) ?_
  refine dr_op rfl rfl (opr_nilCheck rfl rfl) ?_
  refine dr_op rfl rfl (opr_slice (a := 24) (b := 32) (off' := oy + 24) rfl rfl rfl rfl Tryz.underlying60 (by decide) (by decide) (by decide) size5 rfl) ?_
  refine dr_op rfl rfl (opr_call rfl rfl rfl Tryz.func90 (by kernel_rfl) rfl (uint64_ct (x := b / 256 ^ (8 * 3)) hy (EE_word hky (i := 3) (by decide) (by omega)) (by decide))) ?_
  refine dr_last rfl rfl (opr_assign rfl rfl) ?_
  refine at_then ?_
  refine at_seq ?_
  refine at_draw (by kernel_rfl) (by kernel_rfl) (by kernel_rfl) (List.cons_ne_nil _ _) ?_
  refine dr_op rfl rfl (opr_load0 rfl rfl Tryz.underlying131 rfl size131) ?_
  refine dr_op rfl rfl (opr_move rfl rfl) ?_
  refine dr_op rfl rfl (opr_nilCheck rfl rfl) ?_
  refine dr_op rfl rfl (opr_slice (a := 32) (b := 40) (off' := oy + 32) rfl rfl rfl rfl Tryz.underlying60 (by decide) (by decide) (by decide) size5 rfl) ?_
  refine dr_op rfl rfl (opr_call rfl rfl rfl Tryz.func90 (by kernel_rfl) rfl (uint64_ct (x := b / 256 ^ (8 * 4)) hy (EE_word hky (i := 4) (by decide) (by omega)) (by decide))) ?_
  refine dr_last rfl rfl (opr_assign rfl rfl) ?_
  refine at_then ?_
  refine at_seq ?_
  refine at_draw (by kernel_rfl) (by kernel_rfl) (by kernel_rfl) (List.cons_ne_nil _ _) ?_
  refine dr_op rfl rfl (opr_load0 rfl rfl Tryz.underlying131 rfl size131) ?_
  refine dr_op rfl rfl (opr_move rfl rfl) ?_
  refine dr_op rfl rfl (opr_nilCheck rfl rfl) ?_
  refine dr_op rfl rfl (opr_slice (a := 40) (b := 48) (off' := oy + 40) rfl rfl rfl rfl Tryz.underlying60 (by decide) (by decide) (by decide) size5 rfl) ?_
  refine dr_op rfl rfl (opr_call rfl rfl rfl Tryz.func90 (by kernel_rfl) rfl (uint64_ct (x := b / 256 ^ (8 * 5)) hy (EE_word hky (i := 5) (by decide) (by omega)) (by decide))) ?_
  refine dr_last rfl rfl (opr_assign rfl rfl) ?_
  refine at_then ?_
  refine at_seq ?_
  refine at_draw (by kernel_rfl) (by kernel_rfl) (by kernel_rfl) (List.cons_ne_nil _ _) ?_
  refine dr_op rfl rfl (opr_load0 rfl rfl Tryz.underlying131 rfl size131) ?_
  refine dr_op rfl rfl (opr_move rfl rfl) ?_
  refine dr_op rfl rfl (opr_nilCheck rfl rfl) ?_
  refine dr_op rfl rfl (opr_slice (a := 48) (b := 56) (off' := oy + 48) rfl rfl rfl rfl Tryz.underlying60 (by decide) (by decide) (by decide) size5 rfl) ?_
  refine dr_op rfl rfl (opr_call rfl rfl rfl Tryz.func90 (by kernel_rfl) rfl (uint64_ct (x := b / 256 ^ (8 * 6)) hy (EE_word hky (i := 6) (by decide) (by omega)) (by decide))) ?_
  refine dr_last rfl rfl (opr_assign rfl rfl) ?_
  refine at_then ?_
  refine at_seq ?_
  refine at_region ?_
  refine at_d rfl rfl (opr_move rfl rfl) ?_
  refine at_d rfl rfl (opr_move rfl rfl) ?_
  refine at_d rfl rfl (opr_move rfl rfl) ?_
  refine at_d rfl rfl (opr_move rfl rfl) ?_
  refine at_d rfl rfl (opr_move rfl rfl) ?_
  refine at_d rfl rfl (opr_move rfl rfl) ?_
  refine at_d rfl rfl (opr_move rfl rfl) ?_
  refine at_d rfl rfl (opr_buildP rfl rfl (built7 ..)) ?_
  refine at_n rfl rfl (opr_alloc rfl zero116 rfl) ?_
  intro g0
  refine at_d rfl rfl (opr_store (i := 0) rfl rfl rfl rfl rfl size116 rfl (Nat.le_of_ble_eq_true rfl) (W_flat _) ((W_over rfl).trans (congrArg W (words7_digs b)))) ?_
  refine at_nil ?_
  refine at_then ?_
  refine at_seq ?_
  refine at_region ?_
  refine at_d rfl rfl (opr_build0 rfl zero116 rfl Tryz.underlying116 size29) ?_
  refine at_n rfl rfl (opr_alloc rfl zero116 rfl) ?_
  intro g1
  refine at_d rfl rfl (opr_store (i := 0) rfl rfl rfl rfl rfl size116 rfl (Nat.le_of_ble_eq_true rfl) (W_flat _) (W_over rfl)) ?_
  refine at_nil ?_
  refine at_then ?_
  refine at_seq ?_
  refine at_region ?_
  refine at_d rfl rfl (opr_indexAddr (j := 0) rfl rfl rfl Tryz.underlying116 (by decide) size29 rfl) ?_
  refine at_d rfl rfl (opr_load1 (i := 1) rfl rfl rfl Tryz.underlying29 rfl (W_get (digs_get 7 b 0 (by decide)))) ?_
  refine at_d rfl rfl (opr_assign rfl rfl) ?_
  refine at_nil ?_
  refine at_then ?_
  refine at_seq ?_
  refine at_region ?_
  refine at_d rfl rfl (opr_move rfl rfl) ?_
  refine at_d rfl rfl (opr_move rfl rfl) ?_
  refine at_c rfl rfl (opr_call rfl rfl rfl Tryz.func91 (by kernel_rfl) rfl (mul64_ct (Nat.mod_lt _ (by decide)) (Nat.mod_lt _ (by decide)))) ?_
  rintro _ _ ⟨h0, w0, rfl, q0, wl0, hl0, rfl⟩
  refine at_d rfl rfl (opr_move rfl rfl) ?_
  refine at_d rfl rfl (opr_extract rfl rfl rfl) ?_
  refine at_d rfl rfl (opr_extract rfl rfl rfl) ?_
  refine at_d rfl rfl (opr_assign rfl rfl) ?_
  refine at_d rfl rfl (opr_assign rfl rfl) ?_
  refine at_nil ?_
  refine at_then ?_
  refine at_seq ?_
  refine at_region ?_
  refine at_d rfl rfl (opr_move rfl rfl) ?_
  refine at_d rfl rfl (opr_move rfl rfl) ?_
  refine at_c rfl rfl (opr_call rfl rfl rfl Tryz.func91 (by kernel_rfl) rfl (mul64_ct (Nat.mod_lt _ (by decide)) (Nat.mod_lt _ (by decide)))) ?_
  rintro _ _ ⟨h1, w1, rfl, q1, wl1, hl1, rfl⟩
  refine at_d rfl rfl (opr_move rfl rfl) ?_
  refine at_d rfl rfl (opr_extract rfl rfl rfl) ?_
  refine at_d rfl rfl (opr_extract rfl rfl rfl) ?_
  refine at_d rfl rfl (opr_assign rfl rfl) ?_
  refine at_d rfl rfl (opr_assign rfl rfl) ?_
  refine at_nil ?_
  refine at_then ?_
  refine at_seq ?_
  refine at_region ?_
  refine at_d rfl rfl (opr_move rfl rfl) ?_
  refine at_d rfl rfl (opr_move rfl rfl) ?_
  refine at_c rfl rfl (opr_call rfl rfl rfl Tryz.func91 (by kernel_rfl) rfl (mul64_ct (Nat.mod_lt _ (by decide)) (Nat.mod_lt _ (by decide)))) ?_
  rintro _ _ ⟨h2, w2, rfl, q2, wl2, hl2, rfl⟩
  refine at_d rfl rfl (opr_move rfl rfl) ?_
  refine at_d rfl rfl (opr_extract rfl rfl rfl) ?_
  refine at_d rfl rfl (opr_extract rfl rfl rfl) ?_
  refine at_d rfl rfl (opr_assign rfl rfl) ?_
  refine at_d rfl rfl (opr_assign rfl rfl) ?_
  refine at_nil ?_
  refine at_then ?_
  refine at_seq ?_
  refine at_region ?_
  refine at_d rfl rfl (opr_move rfl rfl) ?_
  refine at_d rfl rfl (opr_move rfl rfl) ?_
  refine at_c rfl rfl (opr_call rfl rfl rfl Tryz.func91 (by kernel_rfl) rfl (mul64_ct (Nat.mod_lt _ (by decide)) (Nat.mod_lt _ (by decide)))) ?_
  rintro _ _ ⟨h3, w3, rfl, q3, wl3, hl3, rfl⟩
  refine at_d rfl rfl (opr_move rfl rfl) ?_
  refine at_d rfl rfl (opr_extract rfl rfl rfl) ?_
  refine at_d rfl rfl (opr_extract rfl rfl rfl) ?_
  refine at_d rfl rfl (opr_assign rfl rfl) ?_
  refine at_d rfl rfl (opr_assign rfl rfl) ?_
  refine at_nil ?_
  refine at_then ?_
  refine at_seq ?_
  refine at_region ?_
  refine at_d rfl rfl (opr_move rfl rfl) ?_
  refine at_d rfl rfl (opr_move rfl rfl) ?_
  refine at_c rfl rfl (opr_call rfl rfl rfl Tryz.func91 (by kernel_rfl) rfl (mul64_ct (Nat.mod_lt _ (by decide)) (Nat.mod_lt _ (by decide)))) ?_
  rintro _ _ ⟨h4, w4, rfl, q4, wl4, hl4, rfl⟩
  refine at_d rfl rfl (opr_move rfl rfl) ?_
  refine at_d rfl rfl (opr_extract rfl rfl rfl) ?_
  refine at_d rfl rfl (opr_extract rfl rfl rfl) ?_
  refine at_d rfl rfl (opr_assign rfl rfl) ?_
  refine at_d rfl rfl (opr_assign rfl rfl) ?_
  refine at_nil ?_
  refine at_then ?_
  refine at_seq ?_
  refine at_region ?_
  refine at_d rfl rfl (opr_move rfl rfl) ?_
  refine at_d rfl rfl (opr_move rfl rfl) ?_
  refine at_c rfl rfl (opr_call rfl rfl rfl Tryz.func91 (by kernel_rfl) rfl (mul64_ct (Nat.mod_lt _ (by decide)) (Nat.mod_lt _ (by decide)))) ?_
  rintro _ _ ⟨h5, w5, rfl, q5, wl5, hl5, rfl⟩
  refine at_d rfl rfl (opr_move rfl rfl) ?_
  refine at_d rfl rfl (opr_extract rfl rfl rfl) ?_
  refine at_d rfl rfl (opr_extract rfl rfl rfl) ?_
  refine at_d rfl rfl (opr_assign rfl rfl) ?_
  refine at_d rfl rfl (opr_assign rfl rfl) ?_
  refine at_nil ?_
  refine at_then ?_
  refine at_seq ?_
  refine at_region ?_
  refine at_d rfl rfl (opr_move rfl rfl) ?_
  refine at_d rfl rfl (opr_move rfl rfl) ?_
  refine at_c rfl rfl (opr_call rfl rfl rfl Tryz.func91 (by kernel_rfl) rfl (mul64_ct (Nat.mod_lt _ (by decide)) (Nat.mod_lt _ (by decide)))) ?_
  rintro _ _ ⟨h6, w6, rfl, q6, wl6, hl6, rfl⟩
  refine at_d rfl rfl (opr_move rfl rfl) ?_
  refine at_d rfl rfl (opr_extract rfl rfl rfl) ?_
  refine at_d rfl rfl (opr_extract rfl rfl rfl) ?_
  refine at_d rfl rfl (opr_assign rfl rfl) ?_
  refine at_d rfl rfl (opr_assign rfl rfl) ?_
  refine at_nil ?_
  refine at_then ?_
  refine at_seq ?_
  refine at_region ?_
  refine at_d rfl rfl (opr_move rfl rfl) ?_
  refine at_d rfl rfl (opr_indexAddr (j := 0) rfl rfl rfl Tryz.underlying116 (by decide) size29 rfl) ?_
  refine at_d rfl rfl (opr_store (i := 0) rfl rfl rfl rfl rfl size29 rfl (Nat.le_of_ble_eq_true rfl) flat_one (W_put (by decide) (zz_first wl0))) ?_
  refine at_nil ?_
  refine at_then ?_
  refine at_seq ?_
  refine at_region ?_
  refine at_d rfl rfl (opr_move rfl rfl) ?_
  refine at_d rfl rfl (opr_move rfl rfl) ?_
  refine at_c rfl rfl (opr_Add64 rfl rfl rfl (by decide) hl0 wl1) ?_
  rintro _ _ ⟨s0, k0, rfl, e0, l0_, m0, rfl⟩
  refine at_d rfl rfl (opr_move rfl rfl) ?_
  refine at_d rfl rfl (opr_extract rfl rfl rfl) ?_
  refine at_d rfl rfl (opr_extract rfl rfl rfl) ?_
  refine at_d rfl rfl (opr_assign rfl rfl) ?_
  refine at_d rfl rfl (opr_assign rfl rfl) ?_
  refine at_nil ?_
  refine at_then ?_
  refine at_seq ?_
  refine at_region ?_
  refine at_d rfl rfl (opr_move rfl rfl) ?_
  refine at_d rfl rfl (opr_move rfl rfl) ?_
  refine at_d rfl rfl (opr_move rfl rfl) ?_
  refine at_c rfl rfl (opr_Add64 rfl rfl rfl m0 hl1 wl2) ?_
  rintro _ _ ⟨s1, k1, rfl, e1, l1_, m1, rfl⟩
  refine at_d rfl rfl (opr_move rfl rfl) ?_
  refine at_d rfl rfl (opr_extract rfl rfl rfl) ?_
  refine at_d rfl rfl (opr_extract rfl rfl rfl) ?_
  refine at_d rfl rfl (opr_assign rfl rfl) ?_
  refine at_d rfl rfl (opr_assign rfl rfl) ?_
  refine at_nil ?_
  refine at_then ?_
  refine at_seq ?_
  refine at_region ?_
  refine at_d rfl rfl (opr_move rfl rfl) ?_
  refine at_d rfl rfl (opr_move rfl rfl) ?_
  refine at_d rfl rfl (opr_move rfl rfl) ?_
  refine at_c rfl rfl (opr_Add64 rfl rfl rfl m1 hl2 wl3) ?_
  rintro _ _ ⟨s2, k2, rfl, e2, l2_, m2, rfl⟩
  refine at_d rfl rfl (opr_move rfl rfl) ?_
  refine at_d rfl rfl (opr_extract rfl rfl rfl) ?_
  refine at_d rfl rfl (opr_extract rfl rfl rfl) ?_
  refine at_d rfl rfl (opr_assign rfl rfl) ?_
  refine at_d rfl rfl (opr_assign rfl rfl) ?_
  refine at_nil ?_
  refine at_then ?_
  refine at_seq ?_
  refine at_region ?_
  refine at_d rfl rfl (opr_move rfl rfl) ?_
  refine at_d rfl rfl (opr_move rfl rfl) ?_
  refine at_d rfl rfl (opr_move rfl rfl) ?_
  refine at_c rfl rfl (opr_Add64 rfl rfl rfl m2 hl3 wl4) ?_
  rintro _ _ ⟨s3, k3, rfl, e3, l3_, m3, rfl⟩
  refine at_d rfl rfl (opr_move rfl rfl) ?_
  refine at_d rfl rfl (opr_extract rfl rfl rfl) ?_
  refine at_d rfl rfl (opr_extract rfl rfl rfl) ?_
  refine at_d rfl rfl (opr_assign rfl rfl) ?_
  refine at_d rfl rfl (opr_assign rfl rfl) ?_
  refine at_nil ?_
  refine at_then ?_
  refine at_seq ?_
  refine at_region ?_
  refine at_d rfl rfl (opr_move rfl rfl) ?_
  refine at_d rfl rfl (opr_move rfl rfl) ?_
  refine at_d rfl rfl (opr_move rfl rfl) ?_
  refine at_c rfl rfl (opr_Add64 rfl rfl rfl m3 hl4 wl5) ?_
  rintro _ _ ⟨s4, k4, rfl, e4, l4_, m4, rfl⟩
  refine at_d rfl rfl (opr_move rfl rfl) ?_
  refine at_d rfl rfl (opr_extract rfl rfl rfl) ?_
  refine at_d rfl rfl (opr_extract rfl rfl rfl) ?_
  refine at_d rfl rfl (opr_assign rfl rfl) ?_
  refine at_d rfl rfl (opr_assign rfl rfl) ?_
  refine at_nil ?_
  refine at_then ?_
  refine at_seq ?_
  refine at_region ?_
  refine at_d rfl rfl (opr_move rfl rfl) ?_
  refine at_d rfl rfl (opr_move rfl rfl) ?_
  refine at_d rfl rfl (opr_move rfl rfl) ?_
  refine at_c rfl rfl (opr_Add64 rfl rfl rfl m4 hl5 wl6) ?_
  rintro _ _ ⟨s5, k5, rfl, e5, l5_, m5, rfl⟩
  refine at_d rfl rfl (opr_move rfl rfl) ?_
  refine at_d rfl rfl (opr_extract rfl rfl rfl) ?_
  refine at_d rfl rfl (opr_extract rfl rfl rfl) ?_
  refine at_d rfl rfl (opr_assign rfl rfl) ?_
  refine at_d rfl rfl (opr_assign rfl rfl) ?_
  refine at_nil ?_
  refine at_then ?_
  refine at_seq ?_
  refine at_region ?_
  refine at_d rfl rfl (opr_move rfl rfl) ?_
  refine at_d rfl rfl (opr_move rfl rfl) ?_
  refine at_c rfl rfl (opr_Add64 rfl rfl rfl m5 hl6 (by decide)) ?_
  rintro _ _ ⟨s6, k6, rfl, e6, l6_, m6, rfl⟩
  refine at_d rfl rfl (opr_move rfl rfl) ?_
  refine at_d rfl rfl (opr_extract rfl rfl rfl) ?_
  refine at_d rfl rfl (opr_extract rfl rfl rfl) ?_
  refine at_d rfl rfl (opr_assign rfl rfl) ?_
  refine at_d rfl rfl (opr_assign rfl rfl) ?_
  refine at_nil ?_
  refine at_then ?_
  refine at_seq ?_
  refine at_seq ?_
  refine at_region ?_
  refine at_d rfl rfl (opr_assign rfl rfl) ?_
  refine at_nil ?_
  refine at_then ?_
  refine at_block ?_
  have f1 := add_chain e0 e1 e2 e3 e4 e5 e6
  have r1 := mul_row q0 q1 q2 q3 q4 q5 q6
  rw [words7 ha, tail7] at r1
  have fr := first_row (Nat.mod_lt _ (by decide)) ha f1 r1
  refine at_loop3 (fun (x : Nat) (y : Nat) (z : List Nat) => [(0, .pointer (some ⟨gz, oz, none⟩)), (6, .int .u64 ((a / 256 ^ (8 * 0) % 18446744073709551616 : Nat) : Int)), (7, .int .u64 ((a / 256 ^ (8 * 1) % 18446744073709551616 : Nat) : Int)), (8, .int .u64 ((a / 256 ^ (8 * 2) % 18446744073709551616 : Nat) : Int)), (9, .int .u64 ((a / 256 ^ (8 * 3) % 18446744073709551616 : Nat) : Int)), (10, .int .u64 ((a / 256 ^ (8 * 4) % 18446744073709551616 : Nat) : Int)), (11, .int .u64 ((a / 256 ^ (8 * 5) % 18446744073709551616 : Nat) : Int)), (12, .int .u64 ((a / 256 ^ (8 * 6) % 18446744073709551616 : Nat) : Int)), (20, .pointer (some ⟨g0, 0, none⟩)), (21, .pointer (some ⟨g1, 0, none⟩)), (37, .int .u64 ((z.getD 0 0 : Nat) : Int)), (39, .int .u64 ((z.getD 1 0 : Nat) : Int)), (41, .int .u64 ((z.getD 2 0 : Nat) : Int)), (43, .int .u64 ((z.getD 3 0 : Nat) : Int)), (45, .int .u64 ((z.getD 4 0 : Nat) : Int)), (47, .int .u64 ((z.getD 5 0 : Nat) : Int)), (49, .int .u64 ((z.getD 6 0 : Nat) : Int)), (51, .int .i64 (x : Int))]) (fun (x : Nat) (y : Nat) (z : List Nat) => ⟨g1, 116, W (digs 18446744073709551616 7 y)⟩ :: ⟨g0, 116, W (digs 18446744073709551616 7 b)⟩ :: M) (fun (x : Nat) (y : Nat) (z : List Nat) => 7 - x) (fun (x : Nat) (y : Nat) (z : List Nat) => 1 ≤ x ∧ x ≤ 7 ∧ y < 18446744073709551616 ^ x ∧ z.length = 7 ∧ (∀ d ∈ z, d < 18446744073709551616) ∧ y + 18446744073709551616 ^ x * dval 18446744073709551616 z = a * (b % 18446744073709551616 ^ x)) 1 w0 [s0, s1, s2, s3, s4, s5, s6] ⟨by decide, by decide, by rw [Nat.pow_one]; exact wl0, rfl, seven_lt l0_ l1_ l2_ l3_ l4_ l5_ l6_, first_acc fr.2⟩ (allIn ⟨rfl, rfl, rfl, rfl, rfl, rfl, rfl, rfl, rfl, rfl, rfl, rfl, rfl, rfl, rfl, rfl, rfl, rfl, trivial⟩) (List.Sublist.refl _) ?_
  rintro k Z av ⟨hk1, hk7, hZ, hlen, hb', hI⟩
  dsimp only
  refine at_seq ?_
  refine at_seq ?_
  refine at_region ?_
  refine at_d rfl rfl (opr_move rfl rfl) ?_
  refine at_d rfl rfl (opr_lss (a := k) (b := 7) rfl rfl rfl) ?_
  refine at_nil ?_
  refine at_then ?_
  refine at_cond rfl (fun ht => ?_) (fun ht => ?_)
  ·
    have hlt : k < 7 := of_decide_eq_true ht
    have hA := dval_as_lt hlen hb'
    refine at_skip ?_
    refine at_then ?_
    refine at_seq ?_
    refine at_block ?_
    refine at_seq ?_
    refine at_region ?_
    refine at_d rfl rfl (opr_move rfl rfl) ?_
    refine at_d rfl rfl (opr_indexAddr (j := k) (off' := k) rfl rfl rfl Tryz.underlying116 hlt size29 (by rw [Nat.mul_one, Nat.zero_add])) ?_
    refine at_d rfl rfl (opr_load1 (i := 1) rfl rfl rfl Tryz.underlying29 rfl (W_get (digs_get 7 b k hlt))) ?_
    refine at_d rfl rfl (opr_assign rfl rfl) ?_
    refine at_nil ?_
    refine at_then ?_
    refine at_seq ?_
    refine at_region ?_
    refine at_d rfl rfl (opr_move rfl rfl) ?_
    refine at_d rfl rfl (opr_move rfl rfl) ?_
    refine at_c rfl rfl (opr_call rfl rfl rfl Tryz.func91 (by kernel_rfl) rfl (mul64_ct (Nat.mod_lt _ (by decide)) (Nat.mod_lt _ (by decide)))) ?_
    rintro _ _ ⟨h7, w7, rfl, q7, wl7, hl7, rfl⟩
    refine at_d rfl rfl (opr_move rfl rfl) ?_
    refine at_d rfl rfl (opr_extract rfl rfl rfl) ?_
    refine at_d rfl rfl (opr_extract rfl rfl rfl) ?_
    refine at_d rfl rfl (opr_assign rfl rfl) ?_
    refine at_d rfl rfl (opr_assign rfl rfl) ?_
    refine at_nil ?_
    refine at_then ?_
    refine at_seq ?_
    refine at_region ?_
    refine at_d rfl rfl (opr_move rfl rfl) ?_
    refine at_d rfl rfl (opr_move rfl rfl) ?_
    refine at_c rfl rfl (opr_call rfl rfl rfl Tryz.func91 (by kernel_rfl) rfl (mul64_ct (Nat.mod_lt _ (by decide)) (Nat.mod_lt _ (by decide)))) ?_
    rintro _ _ ⟨h8, w8, rfl, q8, wl8, hl8, rfl⟩
    refine at_d rfl rfl (opr_move rfl rfl) ?_
    refine at_d rfl rfl (opr_extract rfl rfl rfl) ?_
    refine at_d rfl rfl (opr_extract rfl rfl rfl) ?_
    refine at_d rfl rfl (opr_assign rfl rfl) ?_
    refine at_d rfl rfl (opr_assign rfl rfl) ?_
    refine at_nil ?_
    refine at_then ?_
    refine at_seq ?_
    refine at_region ?_
    refine at_d rfl rfl (opr_move rfl rfl) ?_
    refine at_d rfl rfl (opr_move rfl rfl) ?_
    refine at_c rfl rfl (opr_call rfl rfl rfl Tryz.func91 (by kernel_rfl) rfl (mul64_ct (Nat.mod_lt _ (by decide)) (Nat.mod_lt _ (by decide)))) ?_
    rintro _ _ ⟨h9, w9, rfl, q9, wl9, hl9, rfl⟩
    refine at_d rfl rfl (opr_move rfl rfl) ?_
    refine at_d rfl rfl (opr_extract rfl rfl rfl) ?_
    refine at_d rfl rfl (opr_extract rfl rfl rfl) ?_
    refine at_d rfl rfl (opr_assign rfl rfl) ?_
    refine at_d rfl rfl (opr_assign rfl rfl) ?_
    refine at_nil ?_
    refine at_then ?_
    refine at_seq ?_
    refine at_region ?_
    refine at_d rfl rfl (opr_move rfl rfl) ?_
    refine at_d rfl rfl (opr_move rfl rfl) ?_
    refine at_c rfl rfl (opr_call rfl rfl rfl Tryz.func91 (by kernel_rfl) rfl (mul64_ct (Nat.mod_lt _ (by decide)) (Nat.mod_lt _ (by decide)))) ?_
    rintro _ _ ⟨h10, w10, rfl, q10, wl10, hl10, rfl⟩
    refine at_d rfl rfl (opr_move rfl rfl) ?_
    refine at_d rfl rfl (opr_extract rfl rfl rfl) ?_
    refine at_d rfl rfl (opr_extract rfl rfl rfl) ?_
    refine at_d rfl rfl (opr_assign rfl rfl) ?_
    refine at_d rfl rfl (opr_assign rfl rfl) ?_
    refine at_nil ?_
    refine at_then ?_
    refine at_seq ?_
    refine at_region ?_
    refine at_d rfl rfl (opr_move rfl rfl) ?_
    refine at_d rfl rfl (opr_move rfl rfl) ?_
    refine at_c rfl rfl (opr_call rfl rfl rfl Tryz.func91 (by kernel_rfl) rfl (mul64_ct (Nat.mod_lt _ (by decide)) (Nat.mod_lt _ (by decide)))) ?_
    rintro _ _ ⟨h11, w11, rfl, q11, wl11, hl11, rfl⟩
    refine at_d rfl rfl (opr_move rfl rfl) ?_
    refine at_d rfl rfl (opr_extract rfl rfl rfl) ?_
    refine at_d rfl rfl (opr_extract rfl rfl rfl) ?_
    refine at_d rfl rfl (opr_assign rfl rfl) ?_
    refine at_d rfl rfl (opr_assign rfl rfl) ?_
    refine at_nil ?_
    refine at_then ?_
    refine at_seq ?_
    refine at_region ?_
    refine at_d rfl rfl (opr_move rfl rfl) ?_
    refine at_d rfl rfl (opr_move rfl rfl) ?_
    refine at_c rfl rfl (opr_call rfl rfl rfl Tryz.func91 (by kernel_rfl) rfl (mul64_ct (Nat.mod_lt _ (by decide)) (Nat.mod_lt _ (by decide)))) ?_
    rintro _ _ ⟨h12, w12, rfl, q12, wl12, hl12, rfl⟩
    refine at_d rfl rfl (opr_move rfl rfl) ?_
    refine at_d rfl rfl (opr_extract rfl rfl rfl) ?_
    refine at_d rfl rfl (opr_extract rfl rfl rfl) ?_
    refine at_d rfl rfl (opr_assign rfl rfl) ?_
    refine at_d rfl rfl (opr_assign rfl rfl) ?_
    refine at_nil ?_
    refine at_then ?_
    refine at_seq ?_
    refine at_region ?_
    refine at_d rfl rfl (opr_move rfl rfl) ?_
    refine at_d rfl rfl (opr_move rfl rfl) ?_
    refine at_c rfl rfl (opr_call rfl rfl rfl Tryz.func91 (by kernel_rfl) rfl (mul64_ct (Nat.mod_lt _ (by decide)) (Nat.mod_lt _ (by decide)))) ?_
    rintro _ _ ⟨h13, w13, rfl, q13, wl13, hl13, rfl⟩
    refine at_d rfl rfl (opr_move rfl rfl) ?_
    refine at_d rfl rfl (opr_extract rfl rfl rfl) ?_
    refine at_d rfl rfl (opr_extract rfl rfl rfl) ?_
    refine at_d rfl rfl (opr_assign rfl rfl) ?_
    refine at_d rfl rfl (opr_assign rfl rfl) ?_
    refine at_nil ?_
    refine at_then ?_
    refine at_seq ?_
    refine at_region ?_
    refine at_d rfl rfl (opr_move rfl rfl) ?_
    refine at_d rfl rfl (opr_move rfl rfl) ?_
    refine at_d rfl rfl (opr_move rfl rfl) ?_
    refine at_c rfl rfl (opr_Add64 rfl rfl rfl (by decide) (getD_lt (by decide) hb' 0) wl7) ?_
    rintro _ _ ⟨s7, k7, rfl, e7, l7_, m7, rfl⟩
    refine at_d rfl rfl (opr_move rfl rfl) ?_
    refine at_d rfl rfl (opr_extract rfl rfl rfl) ?_
    refine at_d rfl rfl (opr_extract rfl rfl rfl) ?_
    refine at_d rfl rfl (opr_indexAddr (j := k) (off' := k) rfl rfl rfl Tryz.underlying116 hlt size29 (by rw [Nat.mul_one, Nat.zero_add])) ?_
    refine at_d rfl rfl (opr_store (i := 0) rfl rfl rfl rfl rfl size29 rfl (by rw [W_length, digs_length]; exact hlt) flat_one (W_put (by rw [digs_length]; exact hlt) (digs_put 7 k Z s7 hlt hZ l7_))) ?_
    refine at_d rfl rfl (opr_assign rfl rfl) ?_
    refine at_nil ?_
    refine at_then ?_
    refine at_seq ?_
    refine at_region ?_
    refine at_d rfl rfl (opr_move rfl rfl) ?_
    refine at_d rfl rfl (opr_move rfl rfl) ?_
    refine at_d rfl rfl (opr_move rfl rfl) ?_
    refine at_c rfl rfl (opr_Add64 rfl rfl rfl m7 (getD_lt (by decide) hb' 1) wl8) ?_
    rintro _ _ ⟨s8, k8, rfl, e8, l8_, m8, rfl⟩
    refine at_d rfl rfl (opr_move rfl rfl) ?_
    refine at_d rfl rfl (opr_extract rfl rfl rfl) ?_
    refine at_d rfl rfl (opr_extract rfl rfl rfl) ?_
    refine at_d rfl rfl (opr_assign rfl rfl) ?_
    refine at_d rfl rfl (opr_assign rfl rfl) ?_
    refine at_nil ?_
    refine at_then ?_
    refine at_seq ?_
    refine at_region ?_
    refine at_d rfl rfl (opr_move rfl rfl) ?_
    refine at_d rfl rfl (opr_move rfl rfl) ?_
    refine at_d rfl rfl (opr_move rfl rfl) ?_
    refine at_c rfl rfl (opr_Add64 rfl rfl rfl m8 (getD_lt (by decide) hb' 2) wl9) ?_
    rintro _ _ ⟨s9, k9, rfl, e9, l9_, m9, rfl⟩
    refine at_d rfl rfl (opr_move rfl rfl) ?_
    refine at_d rfl rfl (opr_extract rfl rfl rfl) ?_
    refine at_d rfl rfl (opr_extract rfl rfl rfl) ?_
    refine at_d rfl rfl (opr_assign rfl rfl) ?_
    refine at_d rfl rfl (opr_assign rfl rfl) ?_
    refine at_nil ?_
    refine at_then ?_
    refine at_seq ?_
    refine at_region ?_
    refine at_d rfl rfl (opr_move rfl rfl) ?_
    refine at_d rfl rfl (opr_move rfl rfl) ?_
    refine at_d rfl rfl (opr_move rfl rfl) ?_
    refine at_c rfl rfl (opr_Add64 rfl rfl rfl m9 (getD_lt (by decide) hb' 3) wl10) ?_
    rintro _ _ ⟨s10, k10, rfl, e10, l10_, m10, rfl⟩
    refine at_d rfl rfl (opr_move rfl rfl) ?_
    refine at_d rfl rfl (opr_extract rfl rfl rfl) ?_
    refine at_d rfl rfl (opr_extract rfl rfl rfl) ?_
    refine at_d rfl rfl (opr_assign rfl rfl) ?_
    refine at_d rfl rfl (opr_assign rfl rfl) ?_
    refine at_nil ?_
    refine at_then ?_
    refine at_seq ?_
    refine at_region ?_
    refine at_d rfl rfl (opr_move rfl rfl) ?_
    refine at_d rfl rfl (opr_move rfl rfl) ?_
    refine at_d rfl rfl (opr_move rfl rfl) ?_
    refine at_c rfl rfl (opr_Add64 rfl rfl rfl m10 (getD_lt (by decide) hb' 4) wl11) ?_
    rintro _ _ ⟨s11, k11, rfl, e11, l11_, m11, rfl⟩
    refine at_d rfl rfl (opr_move rfl rfl) ?_
    refine at_d rfl rfl (opr_extract rfl rfl rfl) ?_
    refine at_d rfl rfl (opr_extract rfl rfl rfl) ?_
    refine at_d rfl rfl (opr_assign rfl rfl) ?_
    refine at_d rfl rfl (opr_assign rfl rfl) ?_
    refine at_nil ?_
    refine at_then ?_
    refine at_seq ?_
    refine at_region ?_
    refine at_d rfl rfl (opr_move rfl rfl) ?_
    refine at_d rfl rfl (opr_move rfl rfl) ?_
    refine at_d rfl rfl (opr_move rfl rfl) ?_
    refine at_c rfl rfl (opr_Add64 rfl rfl rfl m11 (getD_lt (by decide) hb' 5) wl12) ?_
    rintro _ _ ⟨s12, k12, rfl, e12, l12_, m12, rfl⟩
    refine at_d rfl rfl (opr_move rfl rfl) ?_
    refine at_d rfl rfl (opr_extract rfl rfl rfl) ?_
    refine at_d rfl rfl (opr_extract rfl rfl rfl) ?_
    refine at_d rfl rfl (opr_assign rfl rfl) ?_
    refine at_d rfl rfl (opr_assign rfl rfl) ?_
    refine at_nil ?_
    refine at_then ?_
    refine at_seq ?_
    refine at_region ?_
    refine at_d rfl rfl (opr_move rfl rfl) ?_
    refine at_d rfl rfl (opr_move rfl rfl) ?_
    refine at_d rfl rfl (opr_move rfl rfl) ?_
    refine at_c rfl rfl (opr_Add64 rfl rfl rfl m12 (getD_lt (by decide) hb' 6) wl13) ?_
    rintro _ _ ⟨s13, k13, rfl, e13, l13_, m13, rfl⟩
    refine at_d rfl rfl (opr_move rfl rfl) ?_
    refine at_d rfl rfl (opr_extract rfl rfl rfl) ?_
    refine at_d rfl rfl (opr_extract rfl rfl rfl) ?_
    refine at_d rfl rfl (opr_assign rfl rfl) ?_
    refine at_d rfl rfl (opr_assign rfl rfl) ?_
    refine at_nil ?_
    refine at_then ?_
    refine at_seq ?_
    refine at_region ?_
    refine at_d rfl rfl (opr_move rfl rfl) ?_
    refine at_d rfl rfl (opr_move rfl rfl) ?_
    refine at_c rfl rfl (opr_Add64 rfl rfl rfl (by decide) l8_ hl7) ?_
    rintro _ _ ⟨s14, k14, rfl, e14, l14_, m14, rfl⟩
    refine at_d rfl rfl (opr_move rfl rfl) ?_
    refine at_d rfl rfl (opr_extract rfl rfl rfl) ?_
    refine at_d rfl rfl (opr_extract rfl rfl rfl) ?_
    refine at_d rfl rfl (opr_assign rfl rfl) ?_
    refine at_d rfl rfl (opr_assign rfl rfl) ?_
    refine at_nil ?_
    refine at_then ?_
    refine at_seq ?_
    refine at_region ?_
    refine at_d rfl rfl (opr_move rfl rfl) ?_
    refine at_d rfl rfl (opr_move rfl rfl) ?_
    refine at_d rfl rfl (opr_move rfl rfl) ?_
    refine at_c rfl rfl (opr_Add64 rfl rfl rfl m14 l9_ hl8) ?_
    rintro _ _ ⟨s15, k15, rfl, e15, l15_, m15, rfl⟩
    refine at_d rfl rfl (opr_move rfl rfl) ?_
    refine at_d rfl rfl (opr_extract rfl rfl rfl) ?_
    refine at_d rfl rfl (opr_extract rfl rfl rfl) ?_
    refine at_d rfl rfl (opr_assign rfl rfl) ?_
    refine at_d rfl rfl (opr_assign rfl rfl) ?_
    refine at_nil ?_
    refine at_then ?_
    refine at_seq ?_
    refine at_region ?_
    refine at_d rfl rfl (opr_move rfl rfl) ?_
    refine at_d rfl rfl (opr_move rfl rfl) ?_
    refine at_d rfl rfl (opr_move rfl rfl) ?_
    refine at_c rfl rfl (opr_Add64 rfl rfl rfl m15 l10_ hl9) ?_
    rintro _ _ ⟨s16, k16, rfl, e16, l16_, m16, rfl⟩
    refine at_d rfl rfl (opr_move rfl rfl) ?_
    refine at_d rfl rfl (opr_extract rfl rfl rfl) ?_
    refine at_d rfl rfl (opr_extract rfl rfl rfl) ?_
    refine at_d rfl rfl (opr_assign rfl rfl) ?_
    refine at_d rfl rfl (opr_assign rfl rfl) ?_
    refine at_nil ?_
    refine at_then ?_
    refine at_seq ?_
    refine at_region ?_
    refine at_d rfl rfl (opr_move rfl rfl) ?_
    refine at_d rfl rfl (opr_move rfl rfl) ?_
    refine at_d rfl rfl (opr_move rfl rfl) ?_
    refine at_c rfl rfl (opr_Add64 rfl rfl rfl m16 l11_ hl10) ?_
    rintro _ _ ⟨s17, k17, rfl, e17, l17_, m17, rfl⟩
    refine at_d rfl rfl (opr_move rfl rfl) ?_
    refine at_d rfl rfl (opr_extract rfl rfl rfl) ?_
    refine at_d rfl rfl (opr_extract rfl rfl rfl) ?_
    refine at_d rfl rfl (opr_assign rfl rfl) ?_
    refine at_d rfl rfl (opr_assign rfl rfl) ?_
    refine at_nil ?_
    refine at_then ?_
    refine at_seq ?_
    refine at_region ?_
    refine at_d rfl rfl (opr_move rfl rfl) ?_
    refine at_d rfl rfl (opr_move rfl rfl) ?_
    refine at_d rfl rfl (opr_move rfl rfl) ?_
    refine at_c rfl rfl (opr_Add64 rfl rfl rfl m17 l12_ hl11) ?_
    rintro _ _ ⟨s18, k18, rfl, e18, l18_, m18, rfl⟩
    refine at_d rfl rfl (opr_move rfl rfl) ?_
    refine at_d rfl rfl (opr_extract rfl rfl rfl) ?_
    refine at_d rfl rfl (opr_extract rfl rfl rfl) ?_
    refine at_d rfl rfl (opr_assign rfl rfl) ?_
    refine at_d rfl rfl (opr_assign rfl rfl) ?_
    refine at_nil ?_
    refine at_then ?_
    refine at_seq ?_
    refine at_region ?_
    refine at_d rfl rfl (opr_move rfl rfl) ?_
    refine at_d rfl rfl (opr_move rfl rfl) ?_
    refine at_d rfl rfl (opr_move rfl rfl) ?_
    refine at_c rfl rfl (opr_Add64 rfl rfl rfl m18 l13_ hl12) ?_
    rintro _ _ ⟨s19, k19, rfl, e19, l19_, m19, rfl⟩
    refine at_d rfl rfl (opr_move rfl rfl) ?_
    refine at_d rfl rfl (opr_extract rfl rfl rfl) ?_
    refine at_d rfl rfl (opr_extract rfl rfl rfl) ?_
    refine at_d rfl rfl (opr_assign rfl rfl) ?_
    refine at_d rfl rfl (opr_assign rfl rfl) ?_
    refine at_nil ?_
    refine at_then ?_
    refine at_region ?_
    refine at_d rfl rfl (opr_move rfl rfl) ?_
    refine at_d rfl rfl (opr_move rfl rfl) ?_
    refine at_d rfl rfl (opr_move rfl rfl) ?_
    refine at_c rfl rfl (opr_Add64 rfl rfl rfl m19 (Nat.lt_of_le_of_lt m13 (by decide)) hl13) ?_
    rintro _ _ ⟨s20, k20, rfl, e20, l20_, m20, rfl⟩
    refine at_d rfl rfl (opr_move rfl rfl) ?_
    refine at_d rfl rfl (opr_extract rfl rfl rfl) ?_
    refine at_d rfl rfl (opr_extract rfl rfl rfl) ?_
    refine at_d rfl rfl (opr_assign rfl rfl) ?_
    refine at_nil ?_
    refine at_inBlock_normal ?_
    refine at_then ?_
    refine at_region ?_
    refine at_d rfl rfl (opr_move rfl rfl) ?_
    refine at_d rfl rfl (opr_addI (a := k) (b := 1) rfl rfl rfl (Nat.lt_of_lt_of_le (Nat.add_lt_add_right hlt 1) (by decide))) ?_
    refine at_d rfl rfl (opr_assign rfl rfl) ?_
    refine at_nil ?_
    have f2 := add_chain e7 e8 e9 e10 e11 e12 e13
    have f3 := add_chain e14 e15 e16 e17 e18 e19 e20
    have r2 := mul_row q7 q8 q9 q10 q11 q12 q13
    rw [words7 ha] at r2
    rw [shift7, dlist7 hlen] at f2
    have nr := next_row (Nat.mod_lt _ (by decide)) ha hA f2 f3 r2
    have ac := acc_step hI nr.2
    exact at_round3 (k + 1) (Z + 18446744073709551616 ^ k * s7) [s14, s15, s16, s17, s18, s19, s20] ⟨Nat.le_add_left 1 k, hlt, by rw [Nat.pow_succ]; exact step_lt hZ l7_, rfl, seven_lt l14_ l15_ l16_ l17_ l18_ l19_ l20_, ac⟩ (mu7 hlt) (allIn ⟨rfl, rfl, rfl, rfl, rfl, rfl, rfl, rfl, rfl, rfl, rfl, rfl, rfl, rfl, rfl, rfl, rfl, rfl, trivial⟩) (List.Sublist.refl _)
  ·
    obtain rfl : k = 7 := by have := of_decide_eq_false ht; omega
    refine at_exit ?_
    refine at_then_exit ?_
    refine at_then_exit ?_
    refine at_inBlock_same ?_
    refine at_then ?_
    refine at_region ?_
    refine at_d rfl rfl (opr_move rfl rfl) ?_
    refine at_d rfl rfl (opr_move rfl rfl) ?_
    refine at_d rfl rfl (opr_move rfl rfl) ?_
    refine at_d rfl rfl (opr_move rfl rfl) ?_
    refine at_d rfl rfl (opr_move rfl rfl) ?_
    refine at_d rfl rfl (opr_move rfl rfl) ?_
    refine at_d rfl rfl (opr_move rfl rfl) ?_
    refine at_d rfl rfl (opr_move rfl rfl) ?_
    refine at_d rfl rfl (opr_buildP rfl rfl (built7 ..)) ?_
    refine at_n rfl rfl (opr_box rfl rfl rfl) ?_
    intro g2
    refine at_c rfl rfl (opr_call rfl rfl rfl Tryz.func103 (by kernel_rfl) rfl (red64_ct (iz := iz + 3) (il := 1) (ih := 0) hz hkz hoz rfl rfl (Nat.mod_lt _ (by decide)) (Nat.mod_lt _ (by decide)) (Nat.mod_lt _ (by decide)) (Nat.mod_lt _ (by decide)) (Nat.mod_lt _ (by decide)) (Nat.mod_lt _ (by decide)) (Nat.mod_lt _ (by decide)) (getD_lt (by decide) hb' 0) (getD_lt (by decide) hb' 1) (getD_lt (by decide) hb' 2) (getD_lt (by decide) hb' 3) (getD_lt (by decide) hb' 4) (getD_lt (by decide) hb' 5) (getD_lt (by decide) hb' 6))) ?_
    rintro _ _ ⟨r, hr, hrm, rfl, rfl⟩
    refine at_nil ?_
    rw [dlist7 hlen] at hrm
    exact done_of (res0 rfl) ⟨r, hr, mul_end hb hZ hI hrm, rfl, rfl⟩ (by repeat (first | exact List.Sublist.refl _ | apply List.Sublist.cons))
end Go.Proofs.YtjlhhcdefcofkaaGreatDoor
