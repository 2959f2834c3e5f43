/- Moves and exchanges under a bit. -/
import Derived.Test.YtjlhhcdefcofkaaGreatDoorSpec
namespace Go.Proofs.YtjlhhcdefcofkaaGreatDoor
open Go
set_option maxRecDepth 100000

theorem opr_andn0 {P : Program} {St : Slots} {M : Mem} {o : Oper} {x y : Operand} {T T' a : Nat} (ho : o.op = .binOp .andNot T x y T') (hx : evalS St x = some (.int .u64 (a : Int))) (hy : evalS St y = some (.int .u64 0)) (ha : a < 18446744073709551616) : OpR P St M o (Det (.int .u64 (a : Int)) M) := by
  have h := opr_binOp (P := P) (M := M) (v := .int .u64 (bits .andNot .u64 (a : Int) 0)) ho hx hy (fun _ => rfl)
  have e : bits .andNot .u64 (a : Int) 0 = (a : Int) := by
    have h1 : (BitVec.ofInt 64 (a : Int) &&& ~~~BitVec.ofInt 64 0).toNat = a := by
      have : ~~~BitVec.ofInt 64 0 = BitVec.allOnes 64 := by decide
      rw [this, BitVec.and_allOnes]
      simp [BitVec.toNat_ofInt]
      omega
    show IntKind.wrap .u64 ((BitVec.ofInt 64 (a : Int) &&& ~~~BitVec.ofInt 64 0).toNat : Int) = (a : Int)
    rw [h1]
    simp [IntKind.wrap, IntKind.bits, IntKind.signed]
    omega
  rw [e] at h; exact h
theorem opr_andn1 {P : Program} {St : Slots} {M : Mem} {o : Oper} {x y : Operand} {T T' a : Nat} (ho : o.op = .binOp .andNot T x y T') (hx : evalS St x = some (.int .u64 (a : Int))) (hy : evalS St y = some (.int .u64 18446744073709551615)) : OpR P St M o (Det (.int .u64 ((0 : Nat) : Int)) M) := by
  have h := opr_binOp (P := P) (M := M) (v := .int .u64 (bits .andNot .u64 (a : Int) 18446744073709551615)) ho hx hy (fun _ => rfl)
  have e : bits .andNot .u64 (a : Int) 18446744073709551615 = ((0 : Nat) : Int) := by
    have h1 : (BitVec.ofInt 64 (a : Int) &&& ~~~BitVec.ofInt 64 18446744073709551615).toNat = 0 := by
      have : ~~~BitVec.ofInt 64 18446744073709551615 = 0#64 := by decide
      rw [this, BitVec.and_zero]; rfl
    show IntKind.wrap .u64 ((BitVec.ofInt 64 (a : Int) &&& ~~~BitVec.ofInt 64 18446744073709551615).toNat : Int) = _
    rw [h1]; rfl
  rw [e] at h; exact h
theorem and_ones {y : Nat} (h : y < 18446744073709551616) : y &&& 18446744073709551615 = y := by
  have := Nat.and_two_pow_sub_one_eq_mod y 64
  rw [show (2 : Nat) ^ 64 - 1 = 18446744073709551615 from rfl] at this
  rw [this]; exact Nat.mod_eq_of_lt h
theorem ones_and {y : Nat} (h : y < 18446744073709551616) : 18446744073709551615 &&& y = y := by rw [Nat.and_comm]; exact and_ones h
theorem xor_back {x y : Nat} : x ^^^ (x ^^^ y) = y := by rw [← Nat.xor_assoc, Nat.xor_self, Nat.zero_xor]
theorem xor_back' {x y : Nat} : y ^^^ (x ^^^ y) = x := by rw [Nat.xor_comm x y, xor_back]
/-- The first of two, or the second where t is 1. -/
def sel (t a b : Nat) : Nat := if t = 1 then b else a
theorem sel_lt {t a b : Nat} (ha : a < RR) (hb : b < RR) : sel t a b < RR := by unfold sel; split <;> assumption
theorem sel0 (a b : Nat) : sel 0 a b = a := rfl
theorem sel1 (a b : Nat) : sel 1 a b = b := rfl
theorem at_mem0 {C : Ctx} {St : Slots} {M1 M2 : Mem} {F : Act → World → Prop} (h : M1 = M2) (k : At C St M2 F) : At C St M1 F := h ▸ k
theorem cmovGeneric0_ct {M : Mem} {ix iy gx gy Tx Ty kx ky ox oy a b : Nat} {lx ly : List Nat} (hx : M[ix]? = some ⟨gx, Tx, EE lx⟩) (hkx : lx[kx]? = some a) (hox : 56 * kx = ox) (hy : M[iy]? = some ⟨gy, Ty, EE ly⟩) (hky : ly[ky]? = some b) (hoy : 56 * ky = oy) (ha : a < RR) (hb : b < RR) : Ct Tryz.prog 104 #[.pointer (some ⟨gx, ox, none⟩), .pointer (some ⟨gy, oy, none⟩), .int .u64 0] M (Det (.tuple #[]) (M.set ix ⟨gx, Tx, EE (lx.set kx a)⟩)) := by
  have hle : ox + 56 ≤ (EE lx).length := by rw [EE_length]; have := (List.getElem?_eq_some_iff.1 hkx).1; omega
  have hle2 : oy + 56 ≤ (EE ly).length := by rw [EE_length]; have := (List.getElem?_eq_some_iff.1 hky).1; omega
  refine ct_of (vs := [.pointer (some ⟨gx, ox, none⟩), .pointer (some ⟨gy, oy, none⟩), .int .u64 0]) Tryz.func104 rfl Tryz.ntmps104 rfl fun w0 => ?_
  refine at_seq ?_
  refine at_region ?_
  refine at_d rfl rfl (opr_move rfl rfl) ?_
  refine at_d rfl rfl (opr_binOp (v := .int .u64 0) rfl rfl rfl (fun _ => rfl)) ?_
  refine at_d rfl rfl (opr_unOp (u := .int .u64 0) rfl rfl (fun _ => rfl)) ?_
  refine at_d rfl rfl (opr_assign rfl rfl) ?_
  refine at_nil ?_
  refine at_then ?_
  refine at_seq ?_
  refine at_draw (by kernel_rfl) (by kernel_rfl) (by kernel_rfl) (List.cons_ne_nil _ _) ?_
  refine dr_op rfl rfl (opr_load0 rfl rfl Tryz.underlying131 rfl size131) ?_
  refine dr_op rfl rfl (opr_move rfl rfl) ?_
  refine dr_op rfl rfl (opr_nilCheck rfl rfl) ?_
  refine dr_op rfl rfl (opr_slice (a := 0) (b := 8) (off' := ox) rfl rfl rfl rfl Tryz.underlying60 (by decide) (by decide) (by decide) size5 rfl) ?_
  refine dr_op rfl rfl (opr_call rfl rfl rfl Tryz.func90 (by kernel_rfl) rfl (uint64_ct (x := a / 256 ^ (8 * 0)) hx (EE_word hkx (i := 0) (by decide) (by omega)) (by decide))) ?_
  refine dr_last rfl rfl (opr_assign rfl rfl) ?_
  refine at_then ?_
  refine at_seq ?_
  refine at_draw (by kernel_rfl) (by kernel_rfl) (by kernel_rfl) (List.cons_ne_nil _ _) ?_
  refine dr_op rfl rfl (opr_load0 rfl rfl Tryz.underlying131 rfl size131) ?_
  refine dr_op rfl rfl (opr_move rfl rfl) ?_
  refine dr_op rfl rfl (opr_nilCheck rfl rfl) ?_
  refine dr_op rfl rfl (opr_slice (a := 8) (b := 16) (off' := ox + 8) rfl rfl rfl rfl Tryz.underlying60 (by decide) (by decide) (by decide) size5 rfl) ?_
  refine dr_op rfl rfl (opr_call rfl rfl rfl Tryz.func90 (by kernel_rfl) rfl (uint64_ct (x := a / 256 ^ (8 * 1)) hx (EE_word hkx (i := 1) (by decide) (by omega)) (by decide))) ?_
  refine dr_last rfl rfl (opr_assign rfl rfl) ?_
  refine at_then ?_
  refine at_seq ?_
  refine at_draw (by kernel_rfl) (by kernel_rfl) (by kernel_rfl) (List.cons_ne_nil _ _) ?_
  refine dr_op rfl rfl (opr_load0 rfl rfl Tryz.underlying131 rfl size131) ?_
  refine dr_op rfl rfl (opr_move rfl rfl) ?_
  refine dr_op rfl rfl (opr_nilCheck rfl rfl) ?_
  refine dr_op rfl rfl (opr_slice (a := 16) (b := 24) (off' := ox + 16) rfl rfl rfl rfl Tryz.underlying60 (by decide) (by decide) (by decide) size5 rfl) ?_
  refine dr_op rfl rfl (opr_call rfl rfl rfl Tryz.func90 (by kernel_rfl) rfl (uint64_ct (x := a / 256 ^ (8 * 2)) hx (EE_word hkx (i := 2) (by decide) (by omega)) (by decide))) ?_
  refine dr_last rfl rfl (opr_assign rfl rfl) ?_
  refine at_then ?_
  refine at_seq ?_
  refine at_draw (by kernel_rfl) (by kernel_rfl) (by kernel_rfl) (List.cons_ne_nil _ _) ?_
  refine dr_op rfl rfl (opr_load0 rfl rfl Tryz.underlying131 rfl size131) ?_
  refine dr_op rfl rfl (opr_move rfl rfl) ?_
  refine dr_op rfl rfl (opr_nilCheck rfl rfl) ?_
  refine dr_op rfl rfl (opr_slice (a := 24) (b := 32) (off' := ox + 24) rfl rfl rfl rfl Tryz.underlying60 (by decide) (by decide) (by decide) size5 rfl) ?_
  refine dr_op rfl rfl (opr_call rfl rfl rfl Tryz.func90 (by kernel_rfl) rfl (uint64_ct (x := a / 256 ^ (8 * 3)) hx (EE_word hkx (i := 3) (by decide) (by omega)) (by decide))) ?_
  refine dr_last rfl rfl (opr_assign rfl rfl) ?_
  refine at_then ?_
  refine at_seq ?_
  refine at_draw (by kernel_rfl) (by kernel_rfl) (by kernel_rfl) (List.cons_ne_nil _ _) ?_
  refine dr_op rfl rfl (opr_load0 rfl rfl Tryz.underlying131 rfl size131) ?_
  refine dr_op rfl rfl (opr_move rfl rfl) ?_
  refine dr_op rfl rfl (opr_nilCheck rfl rfl) ?_
  refine dr_op rfl rfl (opr_slice (a := 32) (b := 40) (off' := ox + 32) rfl rfl rfl rfl Tryz.underlying60 (by decide) (by decide) (by decide) size5 rfl) ?_
  refine dr_op rfl rfl (opr_call rfl rfl rfl Tryz.func90 (by kernel_rfl) rfl (uint64_ct (x := a / 256 ^ (8 * 4)) hx (EE_word hkx (i := 4) (by decide) (by omega)) (by decide))) ?_
  refine dr_last rfl rfl (opr_assign rfl rfl) ?_
  refine at_then ?_
  refine at_seq ?_
  refine at_draw (by kernel_rfl) (by kernel_rfl) (by kernel_rfl) (List.cons_ne_nil _ _) ?_
  refine dr_op rfl rfl (opr_load0 rfl rfl Tryz.underlying131 rfl size131) ?_
  refine dr_op rfl rfl (opr_move rfl rfl) ?_
  refine dr_op rfl rfl (opr_nilCheck rfl rfl) ?_
  refine dr_op rfl rfl (opr_slice (a := 40) (b := 48) (off' := ox + 40) rfl rfl rfl rfl Tryz.underlying60 (by decide) (by decide) (by decide) size5 rfl) ?_
  refine dr_op rfl rfl (opr_call rfl rfl rfl Tryz.func90 (by kernel_rfl) rfl (uint64_ct (x := a / 256 ^ (8 * 5)) hx (EE_word hkx (i := 5) (by decide) (by omega)) (by decide))) ?_
  refine dr_last rfl rfl (opr_assign rfl rfl) ?_
  refine at_then ?_
  refine at_seq ?_
  refine at_draw (by kernel_rfl) (by kernel_rfl) (by kernel_rfl) (List.cons_ne_nil _ _) ?_
  refine dr_op rfl rfl (opr_load0 rfl rfl Tryz.underlying131 rfl size131) ?_
  refine dr_op rfl rfl (opr_move rfl rfl) ?_
  refine dr_op rfl rfl (opr_nilCheck rfl rfl) ?_
  refine dr_op rfl rfl (opr_slice (a := 48) (b := 56) (off' := ox + 48) rfl rfl rfl rfl Tryz.underlying60 (by decide) (by decide) (by decide) size5 rfl) ?_
  refine dr_op rfl rfl (opr_call rfl rfl rfl Tryz.func90 (by kernel_rfl) rfl (uint64_ct (x := a / 256 ^ (8 * 6)) hx (EE_word hkx (i := 6) (by decide) (by omega)) (by decide))) ?_
  refine dr_last rfl rfl (opr_assign rfl rfl) ?_
  refine at_then ?_
  refine at_seq ?_
  refine at_draw (by kernel_rfl) (by kernel_rfl) (by kernel_rfl) (List.cons_ne_nil _ _) ?_
  refine dr_op rfl rfl (opr_load0 rfl rfl Tryz.underlying131 rfl size131) ?_
  refine dr_op rfl rfl (opr_move rfl rfl) ?_
  refine dr_op rfl rfl (opr_nilCheck rfl rfl) ?_
  refine dr_op rfl rfl (opr_slice (a := 0) (b := 8) (off' := oy) rfl rfl rfl rfl Tryz.underlying60 (by decide) (by decide) (by decide) size5 rfl) ?_
  refine dr_op rfl rfl (opr_call rfl rfl rfl Tryz.func90 (by kernel_rfl) rfl (uint64_ct (x := b / 256 ^ (8 * 0)) hy (EE_word hky (i := 0) (by decide) (by omega)) (by decide))) ?_
  refine dr_last rfl rfl (opr_assign rfl rfl) ?_
  refine at_then ?_
  refine at_seq ?_
  refine at_draw (by kernel_rfl) (by kernel_rfl) (by kernel_rfl) (List.cons_ne_nil _ _) ?_
  refine dr_op rfl rfl (opr_load0 rfl rfl Tryz.underlying131 rfl size131) ?_
  refine dr_op rfl rfl (opr_move rfl rfl) ?_
  refine dr_op rfl rfl (opr_nilCheck rfl rfl) ?_
  refine dr_op rfl rfl (opr_slice (a := 8) (b := 16) (off' := oy + 8) rfl rfl rfl rfl Tryz.underlying60 (by decide) (by decide) (by decide) size5 rfl) ?_
  refine dr_op rfl rfl (opr_call rfl rfl rfl Tryz.func90 (by kernel_rfl) rfl (uint64_ct (x := b / 256 ^ (8 * 1)) hy (EE_word hky (i := 1) (by decide) (by omega)) (by decide))) ?_
  refine dr_last rfl rfl (opr_assign rfl rfl) ?_
  refine at_then ?_
  refine at_seq ?_
  refine at_draw (by kernel_rfl) (by kernel_rfl) (by kernel_rfl) (List.cons_ne_nil _ _) ?_
  refine dr_op rfl rfl (opr_load0 rfl rfl Tryz.underlying131 rfl size131) ?_
  refine dr_op rfl rfl (opr_move rfl rfl) ?_
  refine dr_op rfl rfl (opr_nilCheck rfl rfl) ?_
  refine dr_op rfl rfl (opr_slice (a := 16) (b := 24) (off' := oy + 16) rfl rfl rfl rfl Tryz.underlying60 (by decide) (by decide) (by decide) size5 rfl) ?_
  refine dr_op rfl rfl (opr_call rfl rfl rfl Tryz.func90 (by kernel_rfl) rfl (uint64_ct (x := b / 256 ^ (8 * 2)) hy (EE_word hky (i := 2) (by decide) (by omega)) (by decide))) ?_
  refine dr_last rfl rfl (opr_assign rfl rfl) ?_
  refine at_then ?_
  refine at_seq ?_
  refine at_draw (by kernel_rfl) (by kernel_rfl) (by kernel_rfl) (List.cons_ne_nil _ _) ?_
  refine dr_op rfl rfl (opr_load0 rfl rfl Tryz.underlying131 rfl size131) ?_
  refine dr_op rfl rfl (opr_move rfl rfl) ?_
  refine dr_op rfl rfl (opr_nilCheck rfl rfl) ?_
  refine dr_op rfl rfl (opr_slice (a := 24) (b := 32) (off' := oy + 24) rfl rfl rfl rfl Tryz.underlying60 (by decide) (by decide) (by decide) size5 rfl) ?_
  refine dr_op rfl rfl (opr_call rfl rfl rfl Tryz.func90 (by kernel_rfl) rfl (uint64_ct (x := b / 256 ^ (8 * 3)) hy (EE_word hky (i := 3) (by decide) (by omega)) (by decide))) ?_
  refine dr_last rfl rfl (opr_assign rfl rfl) ?_
  refine at_then ?_
  refine at_seq ?_
  refine at_draw (by kernel_rfl) (by kernel_rfl) (by kernel_rfl) (List.cons_ne_nil _ _) ?_
  refine dr_op rfl rfl (opr_load0 rfl rfl Tryz.underlying131 rfl size131) ?_
  refine dr_op rfl rfl (opr_move rfl rfl) ?_
  refine dr_op rfl rfl (opr_nilCheck rfl rfl) ?_
  refine dr_op rfl rfl (opr_slice (a := 32) (b := 40) (off' := oy + 32) rfl rfl rfl rfl Tryz.underlying60 (by decide) (by decide) (by decide) size5 rfl) ?_
  refine dr_op rfl rfl (opr_call rfl rfl rfl Tryz.func90 (by kernel_rfl) rfl (uint64_ct (x := b / 256 ^ (8 * 4)) hy (EE_word hky (i := 4) (by decide) (by omega)) (by decide))) ?_
  refine dr_last rfl rfl (opr_assign rfl rfl) ?_
  refine at_then ?_
  refine at_seq ?_
  refine at_draw (by kernel_rfl) (by kernel_rfl) (by kernel_rfl) (List.cons_ne_nil _ _) ?_
  refine dr_op rfl rfl (opr_load0 rfl rfl Tryz.underlying131 rfl size131) ?_
  refine dr_op rfl rfl (opr_move rfl rfl) ?_
  refine dr_op rfl rfl (opr_nilCheck rfl rfl) ?_
  refine dr_op rfl rfl (opr_slice (a := 40) (b := 48) (off' := oy + 40) rfl rfl rfl rfl Tryz.underlying60 (by decide) (by decide) (by decide) size5 rfl) ?_
  refine dr_op rfl rfl (opr_call rfl rfl rfl Tryz.func90 (by kernel_rfl) rfl (uint64_ct (x := b / 256 ^ (8 * 5)) hy (EE_word hky (i := 5) (by decide) (by omega)) (by decide))) ?_
  refine dr_last rfl rfl (opr_assign rfl rfl) ?_
  refine at_then ?_
  refine at_seq ?_
  refine at_draw (by kernel_rfl) (by kernel_rfl) (by kernel_rfl) (List.cons_ne_nil _ _) ?_
  refine dr_op rfl rfl (opr_load0 rfl rfl Tryz.underlying131 rfl size131) ?_
  refine dr_op rfl rfl (opr_move rfl rfl) ?_
  refine dr_op rfl rfl (opr_nilCheck rfl rfl) ?_
  refine dr_op rfl rfl (opr_slice (a := 48) (b := 56) (off' := oy + 48) rfl rfl rfl rfl Tryz.underlying60 (by decide) (by decide) (by decide) size5 rfl) ?_
  refine dr_op rfl rfl (opr_call rfl rfl rfl Tryz.func90 (by kernel_rfl) rfl (uint64_ct (x := b / 256 ^ (8 * 6)) hy (EE_word hky (i := 6) (by decide) (by omega)) (by decide))) ?_
  refine dr_last rfl rfl (opr_assign rfl rfl) ?_
  refine at_then ?_
  refine at_seq ?_
  refine at_region ?_
  refine at_d rfl rfl (opr_move rfl rfl) ?_
  refine at_d rfl rfl (opr_move rfl rfl) ?_
  refine at_d rfl rfl (opr_andn0 rfl rfl rfl (Nat.mod_lt _ (by decide))) ?_
  refine at_d rfl rfl (opr_move rfl rfl) ?_
  refine at_d rfl rfl (opr_move rfl rfl) ?_
  refine at_d rfl rfl (opr_eq (opr_and64 (b := 0) rfl rfl rfl (Nat.mod_lt _ (by decide)) (by decide)) (u64_eq (Nat.and_zero _))) ?_
  refine at_d rfl rfl (opr_eq (opr_or64 rfl rfl rfl (Nat.mod_lt _ (by decide)) (by decide)) (u64_eq (Nat.or_zero _))) ?_
  refine at_d rfl rfl (opr_assign rfl rfl) ?_
  refine at_nil ?_
  refine at_then ?_
  refine at_seq ?_
  refine at_region ?_
  refine at_d rfl rfl (opr_move rfl rfl) ?_
  refine at_d rfl rfl (opr_move rfl rfl) ?_
  refine at_d rfl rfl (opr_andn0 rfl rfl rfl (Nat.mod_lt _ (by decide))) ?_
  refine at_d rfl rfl (opr_move rfl rfl) ?_
  refine at_d rfl rfl (opr_move rfl rfl) ?_
  refine at_d rfl rfl (opr_eq (opr_and64 (b := 0) rfl rfl rfl (Nat.mod_lt _ (by decide)) (by decide)) (u64_eq (Nat.and_zero _))) ?_
  refine at_d rfl rfl (opr_eq (opr_or64 rfl rfl rfl (Nat.mod_lt _ (by decide)) (by decide)) (u64_eq (Nat.or_zero _))) ?_
  refine at_d rfl rfl (opr_assign rfl rfl) ?_
  refine at_nil ?_
  refine at_then ?_
  refine at_seq ?_
  refine at_region ?_
  refine at_d rfl rfl (opr_move rfl rfl) ?_
  refine at_d rfl rfl (opr_move rfl rfl) ?_
  refine at_d rfl rfl (opr_andn0 rfl rfl rfl (Nat.mod_lt _ (by decide))) ?_
  refine at_d rfl rfl (opr_move rfl rfl) ?_
  refine at_d rfl rfl (opr_move rfl rfl) ?_
  refine at_d rfl rfl (opr_eq (opr_and64 (b := 0) rfl rfl rfl (Nat.mod_lt _ (by decide)) (by decide)) (u64_eq (Nat.and_zero _))) ?_
  refine at_d rfl rfl (opr_eq (opr_or64 rfl rfl rfl (Nat.mod_lt _ (by decide)) (by decide)) (u64_eq (Nat.or_zero _))) ?_
  refine at_d rfl rfl (opr_assign rfl rfl) ?_
  refine at_nil ?_
  refine at_then ?_
  refine at_seq ?_
  refine at_region ?_
  refine at_d rfl rfl (opr_move rfl rfl) ?_
  refine at_d rfl rfl (opr_move rfl rfl) ?_
  refine at_d rfl rfl (opr_andn0 rfl rfl rfl (Nat.mod_lt _ (by decide))) ?_
  refine at_d rfl rfl (opr_move rfl rfl) ?_
  refine at_d rfl rfl (opr_move rfl rfl) ?_
  refine at_d rfl rfl (opr_eq (opr_and64 (b := 0) rfl rfl rfl (Nat.mod_lt _ (by decide)) (by decide)) (u64_eq (Nat.and_zero _))) ?_
  refine at_d rfl rfl (opr_eq (opr_or64 rfl rfl rfl (Nat.mod_lt _ (by decide)) (by decide)) (u64_eq (Nat.or_zero _))) ?_
  refine at_d rfl rfl (opr_assign rfl rfl) ?_
  refine at_nil ?_
  refine at_then ?_
  refine at_seq ?_
  refine at_region ?_
  refine at_d rfl rfl (opr_move rfl rfl) ?_
  refine at_d rfl rfl (opr_move rfl rfl) ?_
  refine at_d rfl rfl (opr_andn0 rfl rfl rfl (Nat.mod_lt _ (by decide))) ?_
  refine at_d rfl rfl (opr_move rfl rfl) ?_
  refine at_d rfl rfl (opr_move rfl rfl) ?_
  refine at_d rfl rfl (opr_eq (opr_and64 (b := 0) rfl rfl rfl (Nat.mod_lt _ (by decide)) (by decide)) (u64_eq (Nat.and_zero _))) ?_
  refine at_d rfl rfl (opr_eq (opr_or64 rfl rfl rfl (Nat.mod_lt _ (by decide)) (by decide)) (u64_eq (Nat.or_zero _))) ?_
  refine at_d rfl rfl (opr_assign rfl rfl) ?_
  refine at_nil ?_
  refine at_then ?_
  refine at_seq ?_
  refine at_region ?_
  refine at_d rfl rfl (opr_move rfl rfl) ?_
  refine at_d rfl rfl (opr_move rfl rfl) ?_
  refine at_d rfl rfl (opr_andn0 rfl rfl rfl (Nat.mod_lt _ (by decide))) ?_
  refine at_d rfl rfl (opr_move rfl rfl) ?_
  refine at_d rfl rfl (opr_move rfl rfl) ?_
  refine at_d rfl rfl (opr_eq (opr_and64 (b := 0) rfl rfl rfl (Nat.mod_lt _ (by decide)) (by decide)) (u64_eq (Nat.and_zero _))) ?_
  refine at_d rfl rfl (opr_eq (opr_or64 rfl rfl rfl (Nat.mod_lt _ (by decide)) (by decide)) (u64_eq (Nat.or_zero _))) ?_
  refine at_d rfl rfl (opr_assign rfl rfl) ?_
  refine at_nil ?_
  refine at_then ?_
  refine at_seq ?_
  refine at_region ?_
  refine at_d rfl rfl (opr_move rfl rfl) ?_
  refine at_d rfl rfl (opr_move rfl rfl) ?_
  refine at_d rfl rfl (opr_andn0 rfl rfl rfl (Nat.mod_lt _ (by decide))) ?_
  refine at_d rfl rfl (opr_move rfl rfl) ?_
  refine at_d rfl rfl (opr_move rfl rfl) ?_
  refine at_d rfl rfl (opr_eq (opr_and64 (b := 0) rfl rfl rfl (Nat.mod_lt _ (by decide)) (by decide)) (u64_eq (Nat.and_zero _))) ?_
  refine at_d rfl rfl (opr_eq (opr_or64 rfl rfl rfl (Nat.mod_lt _ (by decide)) (by decide)) (u64_eq (Nat.or_zero _))) ?_
  refine at_d rfl rfl (opr_assign rfl rfl) ?_
  refine at_nil ?_
  refine at_then ?_
  refine at_seq ?_
  refine at_draw (by kernel_rfl) (by kernel_rfl) (by kernel_rfl) (List.cons_ne_nil _ _) ?_
  refine dr_op rfl rfl (opr_load0 rfl rfl Tryz.underlying131 rfl size131) ?_
  refine dr_op rfl rfl (opr_move rfl rfl) ?_
  refine dr_op rfl rfl (opr_nilCheck rfl rfl) ?_
  refine dr_op rfl rfl (opr_slice (a := 0) (b := 8) (off' := ox) rfl rfl rfl rfl Tryz.underlying60 (by decide) (by decide) (by decide) size5 rfl) ?_
  refine dr_op rfl rfl (opr_move rfl rfl) ?_
  refine dr_last rfl rfl (opr_call rfl rfl rfl Tryz.func95 (by kernel_rfl) rfl (putUint64_ct hx (Nat.le_trans (by omega) hle) (Nat.mod_lt _ (by decide)) (by decide))) ?_
  refine at_then ?_
  refine at_seq ?_
  refine at_draw (by kernel_rfl) (by kernel_rfl) (by kernel_rfl) (List.cons_ne_nil _ _) ?_
  refine dr_op rfl rfl (opr_load0 rfl rfl Tryz.underlying131 rfl size131) ?_
  refine dr_op rfl rfl (opr_move rfl rfl) ?_
  refine dr_op rfl rfl (opr_nilCheck rfl rfl) ?_
  refine dr_op rfl rfl (opr_slice (a := 8) (b := 16) (off' := ox + 8) rfl rfl rfl rfl Tryz.underlying60 (by decide) (by decide) (by decide) size5 rfl) ?_
  refine dr_op rfl rfl (opr_move rfl rfl) ?_
  refine dr_last rfl rfl (opr_call rfl rfl rfl Tryz.func95 (by kernel_rfl) rfl (putUint64_ct (get_set hx) (Nat.le_trans (by omega) (ple hle (by omega))) (Nat.mod_lt _ (by decide)) (by decide))) ?_
  refine at_then ?_
  refine at_seq ?_
  refine at_draw (by kernel_rfl) (by kernel_rfl) (by kernel_rfl) (List.cons_ne_nil _ _) ?_
  refine dr_op rfl rfl (opr_load0 rfl rfl Tryz.underlying131 rfl size131) ?_
  refine dr_op rfl rfl (opr_move rfl rfl) ?_
  refine dr_op rfl rfl (opr_nilCheck rfl rfl) ?_
  refine dr_op rfl rfl (opr_slice (a := 16) (b := 24) (off' := ox + 16) rfl rfl rfl rfl Tryz.underlying60 (by decide) (by decide) (by decide) size5 rfl) ?_
  refine dr_op rfl rfl (opr_move rfl rfl) ?_
  refine dr_last rfl rfl (opr_call rfl rfl rfl Tryz.func95 (by kernel_rfl) rfl (putUint64_ct (get_set (get_set hx)) (Nat.le_trans (by omega) (ple (ple hle (by omega)) (by omega))) (Nat.mod_lt _ (by decide)) (by decide))) ?_
  refine at_then ?_
  refine at_seq ?_
  refine at_draw (by kernel_rfl) (by kernel_rfl) (by kernel_rfl) (List.cons_ne_nil _ _) ?_
  refine dr_op rfl rfl (opr_load0 rfl rfl Tryz.underlying131 rfl size131) ?_
  refine dr_op rfl rfl (opr_move rfl rfl) ?_
  refine dr_op rfl rfl (opr_nilCheck rfl rfl) ?_
  refine dr_op rfl rfl (opr_slice (a := 24) (b := 32) (off' := ox + 24) rfl rfl rfl rfl Tryz.underlying60 (by decide) (by decide) (by decide) size5 rfl) ?_
  refine dr_op rfl rfl (opr_move rfl rfl) ?_
  refine dr_last rfl rfl (opr_call rfl rfl rfl Tryz.func95 (by kernel_rfl) rfl (putUint64_ct (get_set (get_set (get_set hx))) (Nat.le_trans (by omega) (ple (ple (ple hle (by omega)) (by omega)) (by omega))) (Nat.mod_lt _ (by decide)) (by decide))) ?_
  refine at_then ?_
  refine at_seq ?_
  refine at_draw (by kernel_rfl) (by kernel_rfl) (by kernel_rfl) (List.cons_ne_nil _ _) ?_
  refine dr_op rfl rfl (opr_load0 rfl rfl Tryz.underlying131 rfl size131) ?_
  refine dr_op rfl rfl (opr_move rfl rfl) ?_
  refine dr_op rfl rfl (opr_nilCheck rfl rfl) ?_
  refine dr_op rfl rfl (opr_slice (a := 32) (b := 40) (off' := ox + 32) rfl rfl rfl rfl Tryz.underlying60 (by decide) (by decide) (by decide) size5 rfl) ?_
  refine dr_op rfl rfl (opr_move rfl rfl) ?_
  refine dr_last rfl rfl (opr_call rfl rfl rfl Tryz.func95 (by kernel_rfl) rfl (putUint64_ct (get_set (get_set (get_set (get_set hx)))) (Nat.le_trans (by omega) (ple (ple (ple (ple hle (by omega)) (by omega)) (by omega)) (by omega))) (Nat.mod_lt _ (by decide)) (by decide))) ?_
  refine at_then ?_
  refine at_seq ?_
  refine at_draw (by kernel_rfl) (by kernel_rfl) (by kernel_rfl) (List.cons_ne_nil _ _) ?_
  refine dr_op rfl rfl (opr_load0 rfl rfl Tryz.underlying131 rfl size131) ?_
  refine dr_op rfl rfl (opr_move rfl rfl) ?_
  refine dr_op rfl rfl (opr_nilCheck rfl rfl) ?_
  refine dr_op rfl rfl (opr_slice (a := 40) (b := 48) (off' := ox + 40) rfl rfl rfl rfl Tryz.underlying60 (by decide) (by decide) (by decide) size5 rfl) ?_
  refine dr_op rfl rfl (opr_move rfl rfl) ?_
  refine dr_last rfl rfl (opr_call rfl rfl rfl Tryz.func95 (by kernel_rfl) rfl (putUint64_ct (get_set (get_set (get_set (get_set (get_set hx))))) (Nat.le_trans (by omega) (ple (ple (ple (ple (ple hle (by omega)) (by omega)) (by omega)) (by omega)) (by omega))) (Nat.mod_lt _ (by decide)) (by decide))) ?_
  refine at_then ?_
  refine at_draw (by kernel_rfl) (by kernel_rfl) (by kernel_rfl) (List.cons_ne_nil _ _) ?_
  refine dr_op rfl rfl (opr_load0 rfl rfl Tryz.underlying131 rfl size131) ?_
  refine dr_op rfl rfl (opr_move rfl rfl) ?_
  refine dr_op rfl rfl (opr_nilCheck rfl rfl) ?_
  refine dr_op rfl rfl (opr_slice (a := 48) (b := 56) (off' := ox + 48) rfl rfl rfl rfl Tryz.underlying60 (by decide) (by decide) (by decide) size5 rfl) ?_
  refine dr_op rfl rfl (opr_move rfl rfl) ?_
  refine dr_last rfl rfl (opr_call rfl rfl rfl Tryz.func95 (by kernel_rfl) rfl (putUint64_ct (get_set (get_set (get_set (get_set (get_set (get_set hx)))))) (Nat.le_trans (by omega) (ple (ple (ple (ple (ple (ple hle (by omega)) (by omega)) (by omega)) (by omega)) (by omega)) (by omega))) (Nat.mod_lt _ (by decide)) (by decide))) ?_
  exact done_of (res0 rfl) ⟨rfl, (put7 (List.getElem?_eq_some_iff.1 hkx).1 hox (Nat.mod_lt _ (by decide)) (Nat.mod_lt _ (by decide)) (Nat.mod_lt _ (by decide)) (Nat.mod_lt _ (by decide)) (Nat.mod_lt _ (by decide)) (Nat.mod_lt _ (by decide)) (Nat.mod_lt _ (by decide))).trans (congrArg (fun r => M.set ix ⟨gx, Tx, EE (lx.set kx r)⟩) (words7 ha))⟩ (List.Sublist.refl _)
theorem cmovGeneric1_ct {M : Mem} {ix iy gx gy Tx Ty kx ky ox oy a b : Nat} {lx ly : List Nat} (hx : M[ix]? = some ⟨gx, Tx, EE lx⟩) (hkx : lx[kx]? = some a) (hox : 56 * kx = ox) (hy : M[iy]? = some ⟨gy, Ty, EE ly⟩) (hky : ly[ky]? = some b) (hoy : 56 * ky = oy) (ha : a < RR) (hb : b < RR) : Ct Tryz.prog 104 #[.pointer (some ⟨gx, ox, none⟩), .pointer (some ⟨gy, oy, none⟩), .int .u64 1] M (Det (.tuple #[]) (M.set ix ⟨gx, Tx, EE (lx.set kx b)⟩)) := by
  have hle : ox + 56 ≤ (EE lx).length := by rw [EE_length]; have := (List.getElem?_eq_some_iff.1 hkx).1; omega
  have hle2 : oy + 56 ≤ (EE ly).length := by rw [EE_length]; have := (List.getElem?_eq_some_iff.1 hky).1; omega
  refine ct_of (vs := [.pointer (some ⟨gx, ox, none⟩), .pointer (some ⟨gy, oy, none⟩), .int .u64 1]) Tryz.func104 rfl Tryz.ntmps104 rfl fun w0 => ?_
  refine at_seq ?_
  refine at_region ?_
  refine at_d rfl rfl (opr_move rfl rfl) ?_
  refine at_d rfl rfl (opr_binOp (v := .int .u64 1) rfl rfl rfl (fun _ => rfl)) ?_
  refine at_d rfl rfl (opr_unOp (u := .int .u64 18446744073709551615) rfl rfl (fun _ => rfl)) ?_
  refine at_d rfl rfl (opr_assign rfl rfl) ?_
  refine at_nil ?_
  refine at_then ?_
  refine at_seq ?_
  refine at_draw (by kernel_rfl) (by kernel_rfl) (by kernel_rfl) (List.cons_ne_nil _ _) ?_
  refine dr_op rfl rfl (opr_load0 rfl rfl Tryz.underlying131 rfl size131) ?_
  refine dr_op rfl rfl (opr_move rfl rfl) ?_
  refine dr_op rfl rfl (opr_nilCheck rfl rfl) ?_
  refine dr_op rfl rfl (opr_slice (a := 0) (b := 8) (off' := ox) rfl rfl rfl rfl Tryz.underlying60 (by decide) (by decide) (by decide) size5 rfl) ?_
  refine dr_op rfl rfl (opr_call rfl rfl rfl Tryz.func90 (by kernel_rfl) rfl (uint64_ct (x := a / 256 ^ (8 * 0)) hx (EE_word hkx (i := 0) (by decide) (by omega)) (by decide))) ?_
  refine dr_last rfl rfl (opr_assign rfl rfl) ?_
  refine at_then ?_
  refine at_seq ?_
  refine at_draw (by kernel_rfl) (by kernel_rfl) (by kernel_rfl) (List.cons_ne_nil _ _) ?_
  refine dr_op rfl rfl (opr_load0 rfl rfl Tryz.underlying131 rfl size131) ?_
  refine dr_op rfl rfl (opr_move rfl rfl) ?_
  refine dr_op rfl rfl (opr_nilCheck rfl rfl) ?_
  refine dr_op rfl rfl (opr_slice (a := 8) (b := 16) (off' := ox + 8) rfl rfl rfl rfl Tryz.underlying60 (by decide) (by decide) (by decide) size5 rfl) ?_
  refine dr_op rfl rfl (opr_call rfl rfl rfl Tryz.func90 (by kernel_rfl) rfl (uint64_ct (x := a / 256 ^ (8 * 1)) hx (EE_word hkx (i := 1) (by decide) (by omega)) (by decide))) ?_
  refine dr_last rfl rfl (opr_assign rfl rfl) ?_
  refine at_then ?_
  refine at_seq ?_
  refine at_draw (by kernel_rfl) (by kernel_rfl) (by kernel_rfl) (List.cons_ne_nil _ _) ?_
  refine dr_op rfl rfl (opr_load0 rfl rfl Tryz.underlying131 rfl size131) ?_
  refine dr_op rfl rfl (opr_move rfl rfl) ?_
  refine dr_op rfl rfl (opr_nilCheck rfl rfl) ?_
  refine dr_op rfl rfl (opr_slice (a := 16) (b := 24) (off' := ox + 16) rfl rfl rfl rfl Tryz.underlying60 (by decide) (by decide) (by decide) size5 rfl) ?_
  refine dr_op rfl rfl (opr_call rfl rfl rfl Tryz.func90 (by kernel_rfl) rfl (uint64_ct (x := a / 256 ^ (8 * 2)) hx (EE_word hkx (i := 2) (by decide) (by omega)) (by decide))) ?_
  refine dr_last rfl rfl (opr_assign rfl rfl) ?_
  refine at_then ?_
  refine at_seq ?_
  refine at_draw (by kernel_rfl) (by kernel_rfl) (by kernel_rfl) (List.cons_ne_nil _ _) ?_
  refine dr_op rfl rfl (opr_load0 rfl rfl Tryz.underlying131 rfl size131) ?_
  refine dr_op rfl rfl (opr_move rfl rfl) ?_
  refine dr_op rfl rfl (opr_nilCheck rfl rfl) ?_
  refine dr_op rfl rfl (opr_slice (a := 24) (b := 32) (off' := ox + 24) rfl rfl rfl rfl Tryz.underlying60 (by decide) (by decide) (by decide) size5 rfl) ?_
  refine dr_op rfl rfl (opr_call rfl rfl rfl Tryz.func90 (by kernel_rfl) rfl (uint64_ct (x := a / 256 ^ (8 * 3)) hx (EE_word hkx (i := 3) (by decide) (by omega)) (by decide))) ?_
  refine dr_last rfl rfl (opr_assign rfl rfl) ?_
  refine at_then ?_
  refine at_seq ?_
  refine at_draw (by kernel_rfl) (by kernel_rfl) (by kernel_rfl) (List.cons_ne_nil _ _) ?_
  refine dr_op rfl rfl (opr_load0 rfl rfl Tryz.underlying131 rfl size131) ?_
  refine dr_op rfl rfl (opr_move rfl rfl) ?_
  refine dr_op rfl rfl (opr_nilCheck rfl rfl) ?_
  refine dr_op rfl rfl (opr_slice (a := 32) (b := 40) (off' := ox + 32) rfl rfl rfl rfl Tryz.underlying60 (by decide) (by decide) (by decide) size5 rfl) ?_
  refine dr_op rfl rfl (opr_call rfl rfl rfl Tryz.func90 (by kernel_rfl) rfl (uint64_ct (x := a / 256 ^ (8 * 4)) hx (EE_word hkx (i := 4) (by decide) (by omega)) (by decide))) ?_
  refine dr_last rfl rfl (opr_assign rfl rfl) ?_
  refine at_then ?_
  refine at_seq ?_
  refine at_draw (by kernel_rfl) (by kernel_rfl) (by kernel_rfl) (List.cons_ne_nil _ _) ?_
  refine dr_op rfl rfl (opr_load0 rfl rfl Tryz.underlying131 rfl size131) ?_
  refine dr_op rfl rfl (opr_move rfl rfl) ?_
  refine dr_op rfl rfl (opr_nilCheck rfl rfl) ?_
  refine dr_op rfl rfl (opr_slice (a := 40) (b := 48) (off' := ox + 40) rfl rfl rfl rfl Tryz.underlying60 (by decide) (by decide) (by decide) size5 rfl) ?_
  refine dr_op rfl rfl (opr_call rfl rfl rfl Tryz.func90 (by kernel_rfl) rfl (uint64_ct (x := a / 256 ^ (8 * 5)) hx (EE_word hkx (i := 5) (by decide) (by omega)) (by decide))) ?_
  refine dr_last rfl rfl (opr_assign rfl rfl) ?_
  refine at_then ?_
  refine at_seq ?_
  refine at_draw (by kernel_rfl) (by kernel_rfl) (by kernel_rfl) (List.cons_ne_nil _ _) ?_
  refine dr_op rfl rfl (opr_load0 rfl rfl Tryz.underlying131 rfl size131) ?_
  refine dr_op rfl rfl (opr_move rfl rfl) ?_
  refine dr_op rfl rfl (opr_nilCheck rfl rfl) ?_
  refine dr_op rfl rfl (opr_slice (a := 48) (b := 56) (off' := ox + 48) rfl rfl rfl rfl Tryz.underlying60 (by decide) (by decide) (by decide) size5 rfl) ?_
  refine dr_op rfl rfl (opr_call rfl rfl rfl Tryz.func90 (by kernel_rfl) rfl (uint64_ct (x := a / 256 ^ (8 * 6)) hx (EE_word hkx (i := 6) (by decide) (by omega)) (by decide))) ?_
  refine dr_last rfl rfl (opr_assign rfl rfl) ?_
  refine at_then ?_
  refine at_seq ?_
  refine at_draw (by kernel_rfl) (by kernel_rfl) (by kernel_rfl) (List.cons_ne_nil _ _) ?_
  refine dr_op rfl rfl (opr_load0 rfl rfl Tryz.underlying131 rfl size131) ?_
  refine dr_op rfl rfl (opr_move rfl rfl) ?_
  refine dr_op rfl rfl (opr_nilCheck rfl rfl) ?_
  refine dr_op rfl rfl (opr_slice (a := 0) (b := 8) (off' := oy) rfl rfl rfl rfl Tryz.underlying60 (by decide) (by decide) (by decide) size5 rfl) ?_
  refine dr_op rfl rfl (opr_call rfl rfl rfl Tryz.func90 (by kernel_rfl) rfl (uint64_ct (x := b / 256 ^ (8 * 0)) hy (EE_word hky (i := 0) (by decide) (by omega)) (by decide))) ?_
  refine dr_last rfl rfl (opr_assign rfl rfl) ?_
  refine at_then ?_
  refine at_seq ?_
  refine at_draw (by kernel_rfl) (by kernel_rfl) (by kernel_rfl) (List.cons_ne_nil _ _) ?_
  refine dr_op rfl rfl (opr_load0 rfl rfl Tryz.underlying131 rfl size131) ?_
  refine dr_op rfl rfl (opr_move rfl rfl) ?_
  refine dr_op rfl rfl (opr_nilCheck rfl rfl) ?_
  refine dr_op rfl rfl (opr_slice (a := 8) (b := 16) (off' := oy + 8) rfl rfl rfl rfl Tryz.underlying60 (by decide) (by decide) (by decide) size5 rfl) ?_
  refine dr_op rfl rfl (opr_call rfl rfl rfl Tryz.func90 (by kernel_rfl) rfl (uint64_ct (x := b / 256 ^ (8 * 1)) hy (EE_word hky (i := 1) (by decide) (by omega)) (by decide))) ?_
  refine dr_last rfl rfl (opr_assign rfl rfl) ?_
  refine at_then ?_
  refine at_seq ?_
  refine at_draw (by kernel_rfl) (by kernel_rfl) (by kernel_rfl) (List.cons_ne_nil _ _) ?_
  refine dr_op rfl rfl (opr_load0 rfl rfl Tryz.underlying131 rfl size131) ?_
  refine dr_op rfl rfl (opr_move rfl rfl) ?_
  refine dr_op rfl rfl (opr_nilCheck rfl rfl) ?_
  refine dr_op rfl rfl (opr_slice (a := 16) (b := 24) (off' := oy + 16) rfl rfl rfl rfl Tryz.underlying60 (by decide) (by decide) (by decide) size5 rfl) ?_
  refine dr_op rfl rfl (opr_call rfl rfl rfl Tryz.func90 (by kernel_rfl) rfl (uint64_ct (x := b / 256 ^ (8 * 2)) hy (EE_word hky (i := 2) (by decide) (by omega)) (by decide))) ?_
  refine dr_last rfl rfl (opr_assign rfl rfl) ?_
  refine at_then ?_
  refine at_seq ?_
  refine at_draw (by kernel_rfl) (by kernel_rfl) (by kernel_rfl) (List.cons_ne_nil _ _) ?_
  refine dr_op rfl rfl (opr_load0 rfl rfl Tryz.underlying131 rfl size131) ?_
  refine dr_op rfl rfl (opr_move rfl rfl) ?_
  refine dr_op rfl rfl (opr_nilCheck rfl rfl) ?_
  refine dr_op rfl rfl (opr_slice (a := 24) (b := 32) (off' := oy + 24) rfl rfl rfl rfl Tryz.underlying60 (by decide) (by decide) (by decide) size5 rfl) ?_
  refine dr_op rfl rfl (opr_call rfl rfl rfl Tryz.func90 (by kernel_rfl) rfl (uint64_ct (x := b / 256 ^ (8 * 3)) hy (EE_word hky (i := 3) (by decide) (by omega)) (by decide))) ?_
  refine dr_last rfl rfl (opr_assign rfl rfl) ?_
  refine at_then ?_
  refine at_seq ?_
  refine at_draw (by kernel_rfl) (by kernel_rfl) (by kernel_rfl) (List.cons_ne_nil _ _) ?_
  refine dr_op rfl rfl (opr_load0 rfl rfl Tryz.underlying131 rfl size131) ?_
  refine dr_op rfl rfl (opr_move rfl rfl) ?_
  refine dr_op rfl rfl (opr_nilCheck rfl rfl) ?_
  refine dr_op rfl rfl (opr_slice (a := 32) (b := 40) (off' := oy + 32) rfl rfl rfl rfl Tryz.underlying60 (by decide) (by decide) (by decide) size5 rfl) ?_
  refine dr_op rfl rfl (opr_call rfl rfl rfl Tryz.func90 (by kernel_rfl) rfl (uint64_ct (x := b / 256 ^ (8 * 4)) hy (EE_word hky (i := 4) (by decide) (by omega)) (by decide))) ?_
  refine dr_last rfl rfl (opr_assign rfl rfl) ?_
  refine at_then ?_
  refine at_seq ?_
  refine at_draw (by kernel_rfl) (by kernel_rfl) (by kernel_rfl) (List.cons_ne_nil _ _) ?_
  refine dr_op rfl rfl (opr_load0 rfl rfl Tryz.underlying131 rfl size131) ?_
  refine dr_op rfl rfl (opr_move rfl rfl) ?_
  refine dr_op rfl rfl (opr_nilCheck rfl rfl) ?_
  refine dr_op rfl rfl (opr_slice (a := 40) (b := 48) (off' := oy + 40) rfl rfl rfl rfl Tryz.underlying60 (by decide) (by decide) (by decide) size5 rfl) ?_
  refine dr_op rfl rfl (opr_call rfl rfl rfl Tryz.func90 (by kernel_rfl) rfl (uint64_ct (x := b / 256 ^ (8 * 5)) hy (EE_word hky (i := 5) (by decide) (by omega)) (by decide))) ?_
  refine dr_last rfl rfl (opr_assign rfl rfl) ?_
  refine at_then ?_
  refine at_seq ?_
  refine at_draw (by kernel_rfl) (by kernel_rfl) (by kernel_rfl) (List.cons_ne_nil _ _) ?_
  refine dr_op rfl rfl (opr_load0 rfl rfl Tryz.underlying131 rfl size131) ?_
  refine dr_op rfl rfl (opr_move rfl rfl) ?_
  refine dr_op rfl rfl (opr_nilCheck rfl rfl) ?_
  refine dr_op rfl rfl (opr_slice (a := 48) (b := 56) (off' := oy + 48) rfl rfl rfl rfl Tryz.underlying60 (by decide) (by decide) (by decide) size5 rfl) ?_
  refine dr_op rfl rfl (opr_call rfl rfl rfl Tryz.func90 (by kernel_rfl) rfl (uint64_ct (x := b / 256 ^ (8 * 6)) hy (EE_word hky (i := 6) (by decide) (by omega)) (by decide))) ?_
  refine dr_last rfl rfl (opr_assign rfl rfl) ?_
  refine at_then ?_
  refine at_seq ?_
  refine at_region ?_
  refine at_d rfl rfl (opr_move rfl rfl) ?_
  refine at_d rfl rfl (opr_move rfl rfl) ?_
  refine at_d rfl rfl (opr_andn1 rfl rfl rfl) ?_
  refine at_d rfl rfl (opr_move rfl rfl) ?_
  refine at_d rfl rfl (opr_move rfl rfl) ?_
  refine at_d rfl rfl (opr_eq (opr_and64 (b := 18446744073709551615) rfl rfl rfl (Nat.mod_lt _ (by decide)) (by decide)) (u64_eq (and_ones (Nat.mod_lt _ (by decide))))) ?_
  refine at_d rfl rfl (opr_eq (opr_or64 rfl rfl rfl (by decide) (Nat.mod_lt _ (by decide))) (u64_eq (Nat.zero_or _))) ?_
  refine at_d rfl rfl (opr_assign rfl rfl) ?_
  refine at_nil ?_
  refine at_then ?_
  refine at_seq ?_
  refine at_region ?_
  refine at_d rfl rfl (opr_move rfl rfl) ?_
  refine at_d rfl rfl (opr_move rfl rfl) ?_
  refine at_d rfl rfl (opr_andn1 rfl rfl rfl) ?_
  refine at_d rfl rfl (opr_move rfl rfl) ?_
  refine at_d rfl rfl (opr_move rfl rfl) ?_
  refine at_d rfl rfl (opr_eq (opr_and64 (b := 18446744073709551615) rfl rfl rfl (Nat.mod_lt _ (by decide)) (by decide)) (u64_eq (and_ones (Nat.mod_lt _ (by decide))))) ?_
  refine at_d rfl rfl (opr_eq (opr_or64 rfl rfl rfl (by decide) (Nat.mod_lt _ (by decide))) (u64_eq (Nat.zero_or _))) ?_
  refine at_d rfl rfl (opr_assign rfl rfl) ?_
  refine at_nil ?_
  refine at_then ?_
  refine at_seq ?_
  refine at_region ?_
  refine at_d rfl rfl (opr_move rfl rfl) ?_
  refine at_d rfl rfl (opr_move rfl rfl) ?_
  refine at_d rfl rfl (opr_andn1 rfl rfl rfl) ?_
  refine at_d rfl rfl (opr_move rfl rfl) ?_
  refine at_d rfl rfl (opr_move rfl rfl) ?_
  refine at_d rfl rfl (opr_eq (opr_and64 (b := 18446744073709551615) rfl rfl rfl (Nat.mod_lt _ (by decide)) (by decide)) (u64_eq (and_ones (Nat.mod_lt _ (by decide))))) ?_
  refine at_d rfl rfl (opr_eq (opr_or64 rfl rfl rfl (by decide) (Nat.mod_lt _ (by decide))) (u64_eq (Nat.zero_or _))) ?_
  refine at_d rfl rfl (opr_assign rfl rfl) ?_
  refine at_nil ?_
  refine at_then ?_
  refine at_seq ?_
  refine at_region ?_
  refine at_d rfl rfl (opr_move rfl rfl) ?_
  refine at_d rfl rfl (opr_move rfl rfl) ?_
  refine at_d rfl rfl (opr_andn1 rfl rfl rfl) ?_
  refine at_d rfl rfl (opr_move rfl rfl) ?_
  refine at_d rfl rfl (opr_move rfl rfl) ?_
  refine at_d rfl rfl (opr_eq (opr_and64 (b := 18446744073709551615) rfl rfl rfl (Nat.mod_lt _ (by decide)) (by decide)) (u64_eq (and_ones (Nat.mod_lt _ (by decide))))) ?_
  refine at_d rfl rfl (opr_eq (opr_or64 rfl rfl rfl (by decide) (Nat.mod_lt _ (by decide))) (u64_eq (Nat.zero_or _))) ?_
  refine at_d rfl rfl (opr_assign rfl rfl) ?_
  refine at_nil ?_
  refine at_then ?_
  refine at_seq ?_
  refine at_region ?_
  refine at_d rfl rfl (opr_move rfl rfl) ?_
  refine at_d rfl rfl (opr_move rfl rfl) ?_
  refine at_d rfl rfl (opr_andn1 rfl rfl rfl) ?_
  refine at_d rfl rfl (opr_move rfl rfl) ?_
  refine at_d rfl rfl (opr_move rfl rfl) ?_
  refine at_d rfl rfl (opr_eq (opr_and64 (b := 18446744073709551615) rfl rfl rfl (Nat.mod_lt _ (by decide)) (by decide)) (u64_eq (and_ones (Nat.mod_lt _ (by decide))))) ?_
  refine at_d rfl rfl (opr_eq (opr_or64 rfl rfl rfl (by decide) (Nat.mod_lt _ (by decide))) (u64_eq (Nat.zero_or _))) ?_
  refine at_d rfl rfl (opr_assign rfl rfl) ?_
  refine at_nil ?_
  refine at_then ?_
  refine at_seq ?_
  refine at_region ?_
  refine at_d rfl rfl (opr_move rfl rfl) ?_
  refine at_d rfl rfl (opr_move rfl rfl) ?_
  refine at_d rfl rfl (opr_andn1 rfl rfl rfl) ?_
  refine at_d rfl rfl (opr_move rfl rfl) ?_
  refine at_d rfl rfl (opr_move rfl rfl) ?_
  refine at_d rfl rfl (opr_eq (opr_and64 (b := 18446744073709551615) rfl rfl rfl (Nat.mod_lt _ (by decide)) (by decide)) (u64_eq (and_ones (Nat.mod_lt _ (by decide))))) ?_
  refine at_d rfl rfl (opr_eq (opr_or64 rfl rfl rfl (by decide) (Nat.mod_lt _ (by decide))) (u64_eq (Nat.zero_or _))) ?_
  refine at_d rfl rfl (opr_assign rfl rfl) ?_
  refine at_nil ?_
  refine at_then ?_
  refine at_seq ?_
  refine at_region ?_
  refine at_d rfl rfl (opr_move rfl rfl) ?_
  refine at_d rfl rfl (opr_move rfl rfl) ?_
  refine at_d rfl rfl (opr_andn1 rfl rfl rfl) ?_
  refine at_d rfl rfl (opr_move rfl rfl) ?_
  refine at_d rfl rfl (opr_move rfl rfl) ?_
  refine at_d rfl rfl (opr_eq (opr_and64 (b := 18446744073709551615) rfl rfl rfl (Nat.mod_lt _ (by decide)) (by decide)) (u64_eq (and_ones (Nat.mod_lt _ (by decide))))) ?_
  refine at_d rfl rfl (opr_eq (opr_or64 rfl rfl rfl (by decide) (Nat.mod_lt _ (by decide))) (u64_eq (Nat.zero_or _))) ?_
  refine at_d rfl rfl (opr_assign rfl rfl) ?_
  refine at_nil ?_
  refine at_then ?_
  refine at_seq ?_
  refine at_draw (by kernel_rfl) (by kernel_rfl) (by kernel_rfl) (List.cons_ne_nil _ _) ?_
  refine dr_op rfl rfl (opr_load0 rfl rfl Tryz.underlying131 rfl size131) ?_
  refine dr_op rfl rfl (opr_move rfl rfl) ?_
  refine dr_op rfl rfl (opr_nilCheck rfl rfl) ?_
  refine dr_op rfl rfl (opr_slice (a := 0) (b := 8) (off' := ox) rfl rfl rfl rfl Tryz.underlying60 (by decide) (by decide) (by decide) size5 rfl) ?_
  refine dr_op rfl rfl (opr_move rfl rfl) ?_
  refine dr_last rfl rfl (opr_call rfl rfl rfl Tryz.func95 (by kernel_rfl) rfl (putUint64_ct hx (Nat.le_trans (by omega) hle) (Nat.mod_lt _ (by decide)) (by decide))) ?_
  refine at_then ?_
  refine at_seq ?_
  refine at_draw (by kernel_rfl) (by kernel_rfl) (by kernel_rfl) (List.cons_ne_nil _ _) ?_
  refine dr_op rfl rfl (opr_load0 rfl rfl Tryz.underlying131 rfl size131) ?_
  refine dr_op rfl rfl (opr_move rfl rfl) ?_
  refine dr_op rfl rfl (opr_nilCheck rfl rfl) ?_
  refine dr_op rfl rfl (opr_slice (a := 8) (b := 16) (off' := ox + 8) rfl rfl rfl rfl Tryz.underlying60 (by decide) (by decide) (by decide) size5 rfl) ?_
  refine dr_op rfl rfl (opr_move rfl rfl) ?_
  refine dr_last rfl rfl (opr_call rfl rfl rfl Tryz.func95 (by kernel_rfl) rfl (putUint64_ct (get_set hx) (Nat.le_trans (by omega) (ple hle (by omega))) (Nat.mod_lt _ (by decide)) (by decide))) ?_
  refine at_then ?_
  refine at_seq ?_
  refine at_draw (by kernel_rfl) (by kernel_rfl) (by kernel_rfl) (List.cons_ne_nil _ _) ?_
  refine dr_op rfl rfl (opr_load0 rfl rfl Tryz.underlying131 rfl size131) ?_
  refine dr_op rfl rfl (opr_move rfl rfl) ?_
  refine dr_op rfl rfl (opr_nilCheck rfl rfl) ?_
  refine dr_op rfl rfl (opr_slice (a := 16) (b := 24) (off' := ox + 16) rfl rfl rfl rfl Tryz.underlying60 (by decide) (by decide) (by decide) size5 rfl) ?_
  refine dr_op rfl rfl (opr_move rfl rfl) ?_
  refine dr_last rfl rfl (opr_call rfl rfl rfl Tryz.func95 (by kernel_rfl) rfl (putUint64_ct (get_set (get_set hx)) (Nat.le_trans (by omega) (ple (ple hle (by omega)) (by omega))) (Nat.mod_lt _ (by decide)) (by decide))) ?_
  refine at_then ?_
  refine at_seq ?_
  refine at_draw (by kernel_rfl) (by kernel_rfl) (by kernel_rfl) (List.cons_ne_nil _ _) ?_
  refine dr_op rfl rfl (opr_load0 rfl rfl Tryz.underlying131 rfl size131) ?_
  refine dr_op rfl rfl (opr_move rfl rfl) ?_
  refine dr_op rfl rfl (opr_nilCheck rfl rfl) ?_
  refine dr_op rfl rfl (opr_slice (a := 24) (b := 32) (off' := ox + 24) rfl rfl rfl rfl Tryz.underlying60 (by decide) (by decide) (by decide) size5 rfl) ?_
  refine dr_op rfl rfl (opr_move rfl rfl) ?_
  refine dr_last rfl rfl (opr_call rfl rfl rfl Tryz.func95 (by kernel_rfl) rfl (putUint64_ct (get_set (get_set (get_set hx))) (Nat.le_trans (by omega) (ple (ple (ple hle (by omega)) (by omega)) (by omega))) (Nat.mod_lt _ (by decide)) (by decide))) ?_
  refine at_then ?_
  refine at_seq ?_
  refine at_draw (by kernel_rfl) (by kernel_rfl) (by kernel_rfl) (List.cons_ne_nil _ _) ?_
  refine dr_op rfl rfl (opr_load0 rfl rfl Tryz.underlying131 rfl size131) ?_
  refine dr_op rfl rfl (opr_move rfl rfl) ?_
  refine dr_op rfl rfl (opr_nilCheck rfl rfl) ?_
  refine dr_op rfl rfl (opr_slice (a := 32) (b := 40) (off' := ox + 32) rfl rfl rfl rfl Tryz.underlying60 (by decide) (by decide) (by decide) size5 rfl) ?_
  refine dr_op rfl rfl (opr_move rfl rfl) ?_
  refine dr_last rfl rfl (opr_call rfl rfl rfl Tryz.func95 (by kernel_rfl) rfl (putUint64_ct (get_set (get_set (get_set (get_set hx)))) (Nat.le_trans (by omega) (ple (ple (ple (ple hle (by omega)) (by omega)) (by omega)) (by omega))) (Nat.mod_lt _ (by decide)) (by decide))) ?_
  refine at_then ?_
  refine at_seq ?_
  refine at_draw (by kernel_rfl) (by kernel_rfl) (by kernel_rfl) (List.cons_ne_nil _ _) ?_
  refine dr_op rfl rfl (opr_load0 rfl rfl Tryz.underlying131 rfl size131) ?_
  refine dr_op rfl rfl (opr_move rfl rfl) ?_
  refine dr_op rfl rfl (opr_nilCheck rfl rfl) ?_
  refine dr_op rfl rfl (opr_slice (a := 40) (b := 48) (off' := ox + 40) rfl rfl rfl rfl Tryz.underlying60 (by decide) (by decide) (by decide) size5 rfl) ?_
  refine dr_op rfl rfl (opr_move rfl rfl) ?_
  refine dr_last rfl rfl (opr_call rfl rfl rfl Tryz.func95 (by kernel_rfl) rfl (putUint64_ct (get_set (get_set (get_set (get_set (get_set hx))))) (Nat.le_trans (by omega) (ple (ple (ple (ple (ple hle (by omega)) (by omega)) (by omega)) (by omega)) (by omega))) (Nat.mod_lt _ (by decide)) (by decide))) ?_
  refine at_then ?_
  refine at_draw (by kernel_rfl) (by kernel_rfl) (by kernel_rfl) (List.cons_ne_nil _ _) ?_
  refine dr_op rfl rfl (opr_load0 rfl rfl Tryz.underlying131 rfl size131) ?_
  refine dr_op rfl rfl (opr_move rfl rfl) ?_
  refine dr_op rfl rfl (opr_nilCheck rfl rfl) ?_
  refine dr_op rfl rfl (opr_slice (a := 48) (b := 56) (off' := ox + 48) rfl rfl rfl rfl Tryz.underlying60 (by decide) (by decide) (by decide) size5 rfl) ?_
  refine dr_op rfl rfl (opr_move rfl rfl) ?_
  refine dr_last rfl rfl (opr_call rfl rfl rfl Tryz.func95 (by kernel_rfl) rfl (putUint64_ct (get_set (get_set (get_set (get_set (get_set (get_set hx)))))) (Nat.le_trans (by omega) (ple (ple (ple (ple (ple (ple hle (by omega)) (by omega)) (by omega)) (by omega)) (by omega)) (by omega))) (Nat.mod_lt _ (by decide)) (by decide))) ?_
  exact done_of (res0 rfl) ⟨rfl, (put7 (List.getElem?_eq_some_iff.1 hkx).1 hox (Nat.mod_lt _ (by decide)) (Nat.mod_lt _ (by decide)) (Nat.mod_lt _ (by decide)) (Nat.mod_lt _ (by decide)) (Nat.mod_lt _ (by decide)) (Nat.mod_lt _ (by decide)) (Nat.mod_lt _ (by decide))).trans (congrArg (fun r => M.set ix ⟨gx, Tx, EE (lx.set kx r)⟩) (words7 hb))⟩ (List.Sublist.refl _)
theorem Cmov_ct {t : Nat} (ht : t = 0 ∨ t = 1) {M : Mem} {ix iy gx gy Tx Ty kx ky ox oy a b : Nat} {lx ly : List Nat} (hx : M[ix]? = some ⟨gx, Tx, EE lx⟩) (hkx : lx[kx]? = some a) (hox : 56 * kx = ox) (hy : M[iy]? = some ⟨gy, Ty, EE ly⟩) (hky : ly[ky]? = some b) (hoy : 56 * ky = oy) (ha : a < RR) (hb : b < RR) : Ct Tryz.prog 82 #[.pointer (some ⟨gx, ox, none⟩), .pointer (some ⟨gy, oy, none⟩), .int .u64 (t : Int)] M (Det (.tuple #[]) (M.set ix ⟨gx, Tx, EE (lx.set kx (sel t a b))⟩)) := by
  rcases ht with rfl | rfl
  · exact Cmov_pass (cmov_pass (cmovGeneric0_ct hx hkx hox hy hky hoy ha hb) (fun _ _ h => h.1)) (fun _ _ h => h.1)
  · exact Cmov_pass (cmov_pass (cmovGeneric1_ct hx hkx hox hy hky hoy ha hb) (fun _ _ h => h.1)) (fun _ _ h => h.1)
theorem cswapGenericS0_ct {M : Mem} {ix gx Tx kx ky ox oy a b : Nat} {lx : List Nat} (hx : M[ix]? = some ⟨gx, Tx, EE lx⟩) (hkx : lx[kx]? = some a) (hox : 56 * kx = ox) (hky : lx[ky]? = some b) (hoy : 56 * ky = oy) (hne : kx ≠ ky) (ha : a < RR) (hb : b < RR) : Ct Tryz.prog 105 #[.pointer (some ⟨gx, ox, none⟩), .pointer (some ⟨gx, oy, none⟩), .int .u64 0] M (Det (.tuple #[]) (M.set ix ⟨gx, Tx, EE ((lx.set kx a).set ky b)⟩)) := by
  have hle : ox + 56 ≤ (EE lx).length := by rw [EE_length]; have := (List.getElem?_eq_some_iff.1 hkx).1; omega
  have hle2 : oy + 56 ≤ (EE lx).length := by rw [EE_length]; have := (List.getElem?_eq_some_iff.1 hky).1; omega
  refine ct_of (vs := [.pointer (some ⟨gx, ox, none⟩), .pointer (some ⟨gx, oy, none⟩), .int .u64 0]) Tryz.func105 rfl Tryz.ntmps105 rfl fun w0 => ?_
  refine at_seq ?_
  refine at_region ?_
  refine at_d rfl rfl (opr_move rfl rfl) ?_
  refine at_d rfl rfl (opr_binOp (v := .int .u64 0) rfl rfl rfl (fun _ => rfl)) ?_
  refine at_d rfl rfl (opr_unOp (u := .int .u64 0) rfl rfl (fun _ => rfl)) ?_
  refine at_d rfl rfl (opr_assign rfl rfl) ?_
  refine at_nil ?_
  refine at_then ?_
  refine at_seq ?_
  refine at_draw (by kernel_rfl) (by kernel_rfl) (by kernel_rfl) (List.cons_ne_nil _ _) ?_
  refine dr_op rfl rfl (opr_load0 rfl rfl Tryz.underlying131 rfl size131) ?_
  refine dr_op rfl rfl (opr_move rfl rfl) ?_
  refine dr_op rfl rfl (opr_nilCheck rfl rfl) ?_
  refine dr_op rfl rfl (opr_slice (a := 0) (b := 8) (off' := ox) rfl rfl rfl rfl Tryz.underlying60 (by decide) (by decide) (by decide) size5 rfl) ?_
  refine dr_op rfl rfl (opr_call rfl rfl rfl Tryz.func90 (by kernel_rfl) rfl (uint64_ct (x := a / 256 ^ (8 * 0)) hx (EE_word hkx (i := 0) (by decide) (by omega)) (by decide))) ?_
  refine dr_last rfl rfl (opr_assign rfl rfl) ?_
  refine at_then ?_
  refine at_seq ?_
  refine at_draw (by kernel_rfl) (by kernel_rfl) (by kernel_rfl) (List.cons_ne_nil _ _) ?_
  refine dr_op rfl rfl (opr_load0 rfl rfl Tryz.underlying131 rfl size131) ?_
  refine dr_op rfl rfl (opr_move rfl rfl) ?_
  refine dr_op rfl rfl (opr_nilCheck rfl rfl) ?_
  refine dr_op rfl rfl (opr_slice (a := 8) (b := 16) (off' := ox + 8) rfl rfl rfl rfl Tryz.underlying60 (by decide) (by decide) (by decide) size5 rfl) ?_
  refine dr_op rfl rfl (opr_call rfl rfl rfl Tryz.func90 (by kernel_rfl) rfl (uint64_ct (x := a / 256 ^ (8 * 1)) hx (EE_word hkx (i := 1) (by decide) (by omega)) (by decide))) ?_
  refine dr_last rfl rfl (opr_assign rfl rfl) ?_
  refine at_then ?_
  refine at_seq ?_
  refine at_draw (by kernel_rfl) (by kernel_rfl) (by kernel_rfl) (List.cons_ne_nil _ _) ?_
  refine dr_op rfl rfl (opr_load0 rfl rfl Tryz.underlying131 rfl size131) ?_
  refine dr_op rfl rfl (opr_move rfl rfl) ?_
  refine dr_op rfl rfl (opr_nilCheck rfl rfl) ?_
  refine dr_op rfl rfl (opr_slice (a := 16) (b := 24) (off' := ox + 16) rfl rfl rfl rfl Tryz.underlying60 (by decide) (by decide) (by decide) size5 rfl) ?_
  refine dr_op rfl rfl (opr_call rfl rfl rfl Tryz.func90 (by kernel_rfl) rfl (uint64_ct (x := a / 256 ^ (8 * 2)) hx (EE_word hkx (i := 2) (by decide) (by omega)) (by decide))) ?_
  refine dr_last rfl rfl (opr_assign rfl rfl) ?_
  refine at_then ?_
  refine at_seq ?_
  refine at_draw (by kernel_rfl) (by kernel_rfl) (by kernel_rfl) (List.cons_ne_nil _ _) ?_
  refine dr_op rfl rfl (opr_load0 rfl rfl Tryz.underlying131 rfl size131) ?_
  refine dr_op rfl rfl (opr_move rfl rfl) ?_
  refine dr_op rfl rfl (opr_nilCheck rfl rfl) ?_
  refine dr_op rfl rfl (opr_slice (a := 24) (b := 32) (off' := ox + 24) rfl rfl rfl rfl Tryz.underlying60 (by decide) (by decide) (by decide) size5 rfl) ?_
  refine dr_op rfl rfl (opr_call rfl rfl rfl Tryz.func90 (by kernel_rfl) rfl (uint64_ct (x := a / 256 ^ (8 * 3)) hx (EE_word hkx (i := 3) (by decide) (by omega)) (by decide))) ?_
  refine dr_last rfl rfl (opr_assign rfl rfl) ?_
  refine at_then ?_
  refine at_seq ?_
  refine at_draw (by kernel_rfl) (by kernel_rfl) (by kernel_rfl) (List.cons_ne_nil _ _) ?_
  refine dr_op rfl rfl (opr_load0 rfl rfl Tryz.underlying131 rfl size131) ?_
  refine dr_op rfl rfl (opr_move rfl rfl) ?_
  refine dr_op rfl rfl (opr_nilCheck rfl rfl) ?_
  refine dr_op rfl rfl (opr_slice (a := 32) (b := 40) (off' := ox + 32) rfl rfl rfl rfl Tryz.underlying60 (by decide) (by decide) (by decide) size5 rfl) ?_
  refine dr_op rfl rfl (opr_call rfl rfl rfl Tryz.func90 (by kernel_rfl) rfl (uint64_ct (x := a / 256 ^ (8 * 4)) hx (EE_word hkx (i := 4) (by decide) (by omega)) (by decide))) ?_
  refine dr_last rfl rfl (opr_assign rfl rfl) ?_
  refine at_then ?_
  refine at_seq ?_
  refine at_draw (by kernel_rfl) (by kernel_rfl) (by kernel_rfl) (List.cons_ne_nil _ _) ?_
  refine dr_op rfl rfl (opr_load0 rfl rfl Tryz.underlying131 rfl size131) ?_
  refine dr_op rfl rfl (opr_move rfl rfl) ?_
  refine dr_op rfl rfl (opr_nilCheck rfl rfl) ?_
  refine dr_op rfl rfl (opr_slice (a := 40) (b := 48) (off' := ox + 40) rfl rfl rfl rfl Tryz.underlying60 (by decide) (by decide) (by decide) size5 rfl) ?_
  refine dr_op rfl rfl (opr_call rfl rfl rfl Tryz.func90 (by kernel_rfl) rfl (uint64_ct (x := a / 256 ^ (8 * 5)) hx (EE_word hkx (i := 5) (by decide) (by omega)) (by decide))) ?_
  refine dr_last rfl rfl (opr_assign rfl rfl) ?_
  refine at_then ?_
  refine at_seq ?_
  refine at_draw (by kernel_rfl) (by kernel_rfl) (by kernel_rfl) (List.cons_ne_nil _ _) ?_
  refine dr_op rfl rfl (opr_load0 rfl rfl Tryz.underlying131 rfl size131) ?_
  refine dr_op rfl rfl (opr_move rfl rfl) ?_
  refine dr_op rfl rfl (opr_nilCheck rfl rfl) ?_
  refine dr_op rfl rfl (opr_slice (a := 48) (b := 56) (off' := ox + 48) rfl rfl rfl rfl Tryz.underlying60 (by decide) (by decide) (by decide) size5 rfl) ?_
  refine dr_op rfl rfl (opr_call rfl rfl rfl Tryz.func90 (by kernel_rfl) rfl (uint64_ct (x := a / 256 ^ (8 * 6)) hx (EE_word hkx (i := 6) (by decide) (by omega)) (by decide))) ?_
  refine dr_last rfl rfl (opr_assign rfl rfl) ?_
  refine at_then ?_
  refine at_seq ?_
  refine at_draw (by kernel_rfl) (by kernel_rfl) (by kernel_rfl) (List.cons_ne_nil _ _) ?_
  refine dr_op rfl rfl (opr_load0 rfl rfl Tryz.underlying131 rfl size131) ?_
  refine dr_op rfl rfl (opr_move rfl rfl) ?_
  refine dr_op rfl rfl (opr_nilCheck rfl rfl) ?_
  refine dr_op rfl rfl (opr_slice (a := 0) (b := 8) (off' := oy) rfl rfl rfl rfl Tryz.underlying60 (by decide) (by decide) (by decide) size5 rfl) ?_
  refine dr_op rfl rfl (opr_call rfl rfl rfl Tryz.func90 (by kernel_rfl) rfl (uint64_ct (x := b / 256 ^ (8 * 0)) hx (EE_word hky (i := 0) (by decide) (by omega)) (by decide))) ?_
  refine dr_last rfl rfl (opr_assign rfl rfl) ?_
  refine at_then ?_
  refine at_seq ?_
  refine at_draw (by kernel_rfl) (by kernel_rfl) (by kernel_rfl) (List.cons_ne_nil _ _) ?_
  refine dr_op rfl rfl (opr_load0 rfl rfl Tryz.underlying131 rfl size131) ?_
  refine dr_op rfl rfl (opr_move rfl rfl) ?_
  refine dr_op rfl rfl (opr_nilCheck rfl rfl) ?_
  refine dr_op rfl rfl (opr_slice (a := 8) (b := 16) (off' := oy + 8) rfl rfl rfl rfl Tryz.underlying60 (by decide) (by decide) (by decide) size5 rfl) ?_
  refine dr_op rfl rfl (opr_call rfl rfl rfl Tryz.func90 (by kernel_rfl) rfl (uint64_ct (x := b / 256 ^ (8 * 1)) hx (EE_word hky (i := 1) (by decide) (by omega)) (by decide))) ?_
  refine dr_last rfl rfl (opr_assign rfl rfl) ?_
  refine at_then ?_
  refine at_seq ?_
  refine at_draw (by kernel_rfl) (by kernel_rfl) (by kernel_rfl) (List.cons_ne_nil _ _) ?_
  refine dr_op rfl rfl (opr_load0 rfl rfl Tryz.underlying131 rfl size131) ?_
  refine dr_op rfl rfl (opr_move rfl rfl) ?_
  refine dr_op rfl rfl (opr_nilCheck rfl rfl) ?_
  refine dr_op rfl rfl (opr_slice (a := 16) (b := 24) (off' := oy + 16) rfl rfl rfl rfl Tryz.underlying60 (by decide) (by decide) (by decide) size5 rfl) ?_
  refine dr_op rfl rfl (opr_call rfl rfl rfl Tryz.func90 (by kernel_rfl) rfl (uint64_ct (x := b / 256 ^ (8 * 2)) hx (EE_word hky (i := 2) (by decide) (by omega)) (by decide))) ?_
  refine dr_last rfl rfl (opr_assign rfl rfl) ?_
  refine at_then ?_
  refine at_seq ?_
  refine at_draw (by kernel_rfl) (by kernel_rfl) (by kernel_rfl) (List.cons_ne_nil _ _) ?_
  refine dr_op rfl rfl (opr_load0 rfl rfl Tryz.underlying131 rfl size131) ?_
  refine dr_op rfl rfl (opr_move rfl rfl) ?_
  refine dr_op rfl rfl (opr_nilCheck rfl rfl) ?_
  refine dr_op rfl rfl (opr_slice (a := 24) (b := 32) (off' := oy + 24) rfl rfl rfl rfl Tryz.underlying60 (by decide) (by decide) (by decide) size5 rfl) ?_
  refine dr_op rfl rfl (opr_call rfl rfl rfl Tryz.func90 (by kernel_rfl) rfl (uint64_ct (x := b / 256 ^ (8 * 3)) hx (EE_word hky (i := 3) (by decide) (by omega)) (by decide))) ?_
  refine dr_last rfl rfl (opr_assign rfl rfl) ?_
  refine at_then ?_
  refine at_seq ?_
  refine at_draw (by kernel_rfl) (by kernel_rfl) (by kernel_rfl) (List.cons_ne_nil _ _) ?_
  refine dr_op rfl rfl (opr_load0 rfl rfl Tryz.underlying131 rfl size131) ?_
  refine dr_op rfl rfl (opr_move rfl rfl) ?_
  refine dr_op rfl rfl (opr_nilCheck rfl rfl) ?_
  refine dr_op rfl rfl (opr_slice (a := 32) (b := 40) (off' := oy + 32) rfl rfl rfl rfl Tryz.underlying60 (by decide) (by decide) (by decide) size5 rfl) ?_
  refine dr_op rfl rfl (opr_call rfl rfl rfl Tryz.func90 (by kernel_rfl) rfl (uint64_ct (x := b / 256 ^ (8 * 4)) hx (EE_word hky (i := 4) (by decide) (by omega)) (by decide))) ?_
  refine dr_last rfl rfl (opr_assign rfl rfl) ?_
  refine at_then ?_
  refine at_seq ?_
  refine at_draw (by kernel_rfl) (by kernel_rfl) (by kernel_rfl) (List.cons_ne_nil _ _) ?_
  refine dr_op rfl rfl (opr_load0 rfl rfl Tryz.underlying131 rfl size131) ?_
  refine dr_op rfl rfl (opr_move rfl rfl) ?_
  refine dr_op rfl rfl (opr_nilCheck rfl rfl) ?_
  refine dr_op rfl rfl (opr_slice (a := 40) (b := 48) (off' := oy + 40) rfl rfl rfl rfl Tryz.underlying60 (by decide) (by decide) (by decide) size5 rfl) ?_
  refine dr_op rfl rfl (opr_call rfl rfl rfl Tryz.func90 (by kernel_rfl) rfl (uint64_ct (x := b / 256 ^ (8 * 5)) hx (EE_word hky (i := 5) (by decide) (by omega)) (by decide))) ?_
  refine dr_last rfl rfl (opr_assign rfl rfl) ?_
  refine at_then ?_
  refine at_seq ?_
  refine at_draw (by kernel_rfl) (by kernel_rfl) (by kernel_rfl) (List.cons_ne_nil _ _) ?_
  refine dr_op rfl rfl (opr_load0 rfl rfl Tryz.underlying131 rfl size131) ?_
  refine dr_op rfl rfl (opr_move rfl rfl) ?_
  refine dr_op rfl rfl (opr_nilCheck rfl rfl) ?_
  refine dr_op rfl rfl (opr_slice (a := 48) (b := 56) (off' := oy + 48) rfl rfl rfl rfl Tryz.underlying60 (by decide) (by decide) (by decide) size5 rfl) ?_
  refine dr_op rfl rfl (opr_call rfl rfl rfl Tryz.func90 (by kernel_rfl) rfl (uint64_ct (x := b / 256 ^ (8 * 6)) hx (EE_word hky (i := 6) (by decide) (by omega)) (by decide))) ?_
  refine dr_last rfl rfl (opr_assign rfl rfl) ?_
  refine at_then ?_
  refine at_seq ?_
  refine at_region ?_
  refine at_d rfl rfl (opr_move rfl rfl) ?_
  refine at_d rfl rfl (opr_move rfl rfl) ?_
  refine at_d rfl rfl (opr_move rfl rfl) ?_
  refine at_d rfl rfl (opr_xor64 rfl rfl rfl (Nat.mod_lt _ (by decide)) (Nat.mod_lt _ (by decide))) ?_
  refine at_d rfl rfl (opr_eq (opr_and64 (a := 0) rfl rfl rfl (by decide) (Nat.xor_lt_two_pow (n := 64) (Nat.mod_lt _ (by decide)) (Nat.mod_lt _ (by decide)))) (u64_eq (Nat.zero_and _))) ?_
  refine at_d rfl rfl (opr_assign rfl rfl) ?_
  refine at_nil ?_
  refine at_then ?_
  refine at_seq ?_
  refine at_region ?_
  refine at_d rfl rfl (opr_move rfl rfl) ?_
  refine at_d rfl rfl (opr_move rfl rfl) ?_
  refine at_d rfl rfl (opr_move rfl rfl) ?_
  refine at_d rfl rfl (opr_xor64 rfl rfl rfl (Nat.mod_lt _ (by decide)) (Nat.mod_lt _ (by decide))) ?_
  refine at_d rfl rfl (opr_eq (opr_and64 (a := 0) rfl rfl rfl (by decide) (Nat.xor_lt_two_pow (n := 64) (Nat.mod_lt _ (by decide)) (Nat.mod_lt _ (by decide)))) (u64_eq (Nat.zero_and _))) ?_
  refine at_d rfl rfl (opr_assign rfl rfl) ?_
  refine at_nil ?_
  refine at_then ?_
  refine at_seq ?_
  refine at_region ?_
  refine at_d rfl rfl (opr_move rfl rfl) ?_
  refine at_d rfl rfl (opr_move rfl rfl) ?_
  refine at_d rfl rfl (opr_move rfl rfl) ?_
  refine at_d rfl rfl (opr_xor64 rfl rfl rfl (Nat.mod_lt _ (by decide)) (Nat.mod_lt _ (by decide))) ?_
  refine at_d rfl rfl (opr_eq (opr_and64 (a := 0) rfl rfl rfl (by decide) (Nat.xor_lt_two_pow (n := 64) (Nat.mod_lt _ (by decide)) (Nat.mod_lt _ (by decide)))) (u64_eq (Nat.zero_and _))) ?_
  refine at_d rfl rfl (opr_assign rfl rfl) ?_
  refine at_nil ?_
  refine at_then ?_
  refine at_seq ?_
  refine at_region ?_
  refine at_d rfl rfl (opr_move rfl rfl) ?_
  refine at_d rfl rfl (opr_move rfl rfl) ?_
  refine at_d rfl rfl (opr_move rfl rfl) ?_
  refine at_d rfl rfl (opr_xor64 rfl rfl rfl (Nat.mod_lt _ (by decide)) (Nat.mod_lt _ (by decide))) ?_
  refine at_d rfl rfl (opr_eq (opr_and64 (a := 0) rfl rfl rfl (by decide) (Nat.xor_lt_two_pow (n := 64) (Nat.mod_lt _ (by decide)) (Nat.mod_lt _ (by decide)))) (u64_eq (Nat.zero_and _))) ?_
  refine at_d rfl rfl (opr_assign rfl rfl) ?_
  refine at_nil ?_
  refine at_then ?_
  refine at_seq ?_
  refine at_region ?_
  refine at_d rfl rfl (opr_move rfl rfl) ?_
  refine at_d rfl rfl (opr_move rfl rfl) ?_
  refine at_d rfl rfl (opr_move rfl rfl) ?_
  refine at_d rfl rfl (opr_xor64 rfl rfl rfl (Nat.mod_lt _ (by decide)) (Nat.mod_lt _ (by decide))) ?_
  refine at_d rfl rfl (opr_eq (opr_and64 (a := 0) rfl rfl rfl (by decide) (Nat.xor_lt_two_pow (n := 64) (Nat.mod_lt _ (by decide)) (Nat.mod_lt _ (by decide)))) (u64_eq (Nat.zero_and _))) ?_
  refine at_d rfl rfl (opr_assign rfl rfl) ?_
  refine at_nil ?_
  refine at_then ?_
  refine at_seq ?_
  refine at_region ?_
  refine at_d rfl rfl (opr_move rfl rfl) ?_
  refine at_d rfl rfl (opr_move rfl rfl) ?_
  refine at_d rfl rfl (opr_move rfl rfl) ?_
  refine at_d rfl rfl (opr_xor64 rfl rfl rfl (Nat.mod_lt _ (by decide)) (Nat.mod_lt _ (by decide))) ?_
  refine at_d rfl rfl (opr_eq (opr_and64 (a := 0) rfl rfl rfl (by decide) (Nat.xor_lt_two_pow (n := 64) (Nat.mod_lt _ (by decide)) (Nat.mod_lt _ (by decide)))) (u64_eq (Nat.zero_and _))) ?_
  refine at_d rfl rfl (opr_assign rfl rfl) ?_
  refine at_nil ?_
  refine at_then ?_
  refine at_seq ?_
  refine at_region ?_
  refine at_d rfl rfl (opr_move rfl rfl) ?_
  refine at_d rfl rfl (opr_move rfl rfl) ?_
  refine at_d rfl rfl (opr_move rfl rfl) ?_
  refine at_d rfl rfl (opr_xor64 rfl rfl rfl (Nat.mod_lt _ (by decide)) (Nat.mod_lt _ (by decide))) ?_
  refine at_d rfl rfl (opr_eq (opr_and64 (a := 0) rfl rfl rfl (by decide) (Nat.xor_lt_two_pow (n := 64) (Nat.mod_lt _ (by decide)) (Nat.mod_lt _ (by decide)))) (u64_eq (Nat.zero_and _))) ?_
  refine at_d rfl rfl (opr_assign rfl rfl) ?_
  refine at_nil ?_
  refine at_then ?_
  refine at_seq ?_
  refine at_region ?_
  refine at_d rfl rfl (opr_move rfl rfl) ?_
  refine at_d rfl rfl (opr_move rfl rfl) ?_
  refine at_d rfl rfl (opr_eq (opr_xor64 rfl rfl rfl (Nat.mod_lt _ (by decide)) (by decide)) (u64_eq (Nat.xor_zero _))) ?_
  refine at_d rfl rfl (opr_assign rfl rfl) ?_
  refine at_nil ?_
  refine at_then ?_
  refine at_seq ?_
  refine at_region ?_
  refine at_d rfl rfl (opr_move rfl rfl) ?_
  refine at_d rfl rfl (opr_move rfl rfl) ?_
  refine at_d rfl rfl (opr_eq (opr_xor64 rfl rfl rfl (Nat.mod_lt _ (by decide)) (by decide)) (u64_eq (Nat.xor_zero _))) ?_
  refine at_d rfl rfl (opr_assign rfl rfl) ?_
  refine at_nil ?_
  refine at_then ?_
  refine at_seq ?_
  refine at_region ?_
  refine at_d rfl rfl (opr_move rfl rfl) ?_
  refine at_d rfl rfl (opr_move rfl rfl) ?_
  refine at_d rfl rfl (opr_eq (opr_xor64 rfl rfl rfl (Nat.mod_lt _ (by decide)) (by decide)) (u64_eq (Nat.xor_zero _))) ?_
  refine at_d rfl rfl (opr_assign rfl rfl) ?_
  refine at_nil ?_
  refine at_then ?_
  refine at_seq ?_
  refine at_region ?_
  refine at_d rfl rfl (opr_move rfl rfl) ?_
  refine at_d rfl rfl (opr_move rfl rfl) ?_
  refine at_d rfl rfl (opr_eq (opr_xor64 rfl rfl rfl (Nat.mod_lt _ (by decide)) (by decide)) (u64_eq (Nat.xor_zero _))) ?_
  refine at_d rfl rfl (opr_assign rfl rfl) ?_
  refine at_nil ?_
  refine at_then ?_
  refine at_seq ?_
  refine at_region ?_
  refine at_d rfl rfl (opr_move rfl rfl) ?_
  refine at_d rfl rfl (opr_move rfl rfl) ?_
  refine at_d rfl rfl (opr_eq (opr_xor64 rfl rfl rfl (Nat.mod_lt _ (by decide)) (by decide)) (u64_eq (Nat.xor_zero _))) ?_
  refine at_d rfl rfl (opr_assign rfl rfl) ?_
  refine at_nil ?_
  refine at_then ?_
  refine at_seq ?_
  refine at_region ?_
  refine at_d rfl rfl (opr_move rfl rfl) ?_
  refine at_d rfl rfl (opr_move rfl rfl) ?_
  refine at_d rfl rfl (opr_eq (opr_xor64 rfl rfl rfl (Nat.mod_lt _ (by decide)) (by decide)) (u64_eq (Nat.xor_zero _))) ?_
  refine at_d rfl rfl (opr_assign rfl rfl) ?_
  refine at_nil ?_
  refine at_then ?_
  refine at_seq ?_
  refine at_region ?_
  refine at_d rfl rfl (opr_move rfl rfl) ?_
  refine at_d rfl rfl (opr_move rfl rfl) ?_
  refine at_d rfl rfl (opr_eq (opr_xor64 rfl rfl rfl (Nat.mod_lt _ (by decide)) (by decide)) (u64_eq (Nat.xor_zero _))) ?_
  refine at_d rfl rfl (opr_assign rfl rfl) ?_
  refine at_nil ?_
  refine at_then ?_
  refine at_seq ?_
  refine at_region ?_
  refine at_d rfl rfl (opr_move rfl rfl) ?_
  refine at_d rfl rfl (opr_move rfl rfl) ?_
  refine at_d rfl rfl (opr_eq (opr_xor64 rfl rfl rfl (Nat.mod_lt _ (by decide)) (by decide)) (u64_eq (Nat.xor_zero _))) ?_
  refine at_d rfl rfl (opr_assign rfl rfl) ?_
  refine at_nil ?_
  refine at_then ?_
  refine at_seq ?_
  refine at_region ?_
  refine at_d rfl rfl (opr_move rfl rfl) ?_
  refine at_d rfl rfl (opr_move rfl rfl) ?_
  refine at_d rfl rfl (opr_eq (opr_xor64 rfl rfl rfl (Nat.mod_lt _ (by decide)) (by decide)) (u64_eq (Nat.xor_zero _))) ?_
  refine at_d rfl rfl (opr_assign rfl rfl) ?_
  refine at_nil ?_
  refine at_then ?_
  refine at_seq ?_
  refine at_region ?_
  refine at_d rfl rfl (opr_move rfl rfl) ?_
  refine at_d rfl rfl (opr_move rfl rfl) ?_
  refine at_d rfl rfl (opr_eq (opr_xor64 rfl rfl rfl (Nat.mod_lt _ (by decide)) (by decide)) (u64_eq (Nat.xor_zero _))) ?_
  refine at_d rfl rfl (opr_assign rfl rfl) ?_
  refine at_nil ?_
  refine at_then ?_
  refine at_seq ?_
  refine at_region ?_
  refine at_d rfl rfl (opr_move rfl rfl) ?_
  refine at_d rfl rfl (opr_move rfl rfl) ?_
  refine at_d rfl rfl (opr_eq (opr_xor64 rfl rfl rfl (Nat.mod_lt _ (by decide)) (by decide)) (u64_eq (Nat.xor_zero _))) ?_
  refine at_d rfl rfl (opr_assign rfl rfl) ?_
  refine at_nil ?_
  refine at_then ?_
  refine at_seq ?_
  refine at_region ?_
  refine at_d rfl rfl (opr_move rfl rfl) ?_
  refine at_d rfl rfl (opr_move rfl rfl) ?_
  refine at_d rfl rfl (opr_eq (opr_xor64 rfl rfl rfl (Nat.mod_lt _ (by decide)) (by decide)) (u64_eq (Nat.xor_zero _))) ?_
  refine at_d rfl rfl (opr_assign rfl rfl) ?_
  refine at_nil ?_
  refine at_then ?_
  refine at_seq ?_
  refine at_region ?_
  refine at_d rfl rfl (opr_move rfl rfl) ?_
  refine at_d rfl rfl (opr_move rfl rfl) ?_
  refine at_d rfl rfl (opr_eq (opr_xor64 rfl rfl rfl (Nat.mod_lt _ (by decide)) (by decide)) (u64_eq (Nat.xor_zero _))) ?_
  refine at_d rfl rfl (opr_assign rfl rfl) ?_
  refine at_nil ?_
  refine at_then ?_
  refine at_seq ?_
  refine at_region ?_
  refine at_d rfl rfl (opr_move rfl rfl) ?_
  refine at_d rfl rfl (opr_move rfl rfl) ?_
  refine at_d rfl rfl (opr_eq (opr_xor64 rfl rfl rfl (Nat.mod_lt _ (by decide)) (by decide)) (u64_eq (Nat.xor_zero _))) ?_
  refine at_d rfl rfl (opr_assign rfl rfl) ?_
  refine at_nil ?_
  refine at_then ?_
  refine at_seq ?_
  refine at_draw (by kernel_rfl) (by kernel_rfl) (by kernel_rfl) (List.cons_ne_nil _ _) ?_
  refine dr_op rfl rfl (opr_load0 rfl rfl Tryz.underlying131 rfl size131) ?_
  refine dr_op rfl rfl (opr_move rfl rfl) ?_
  refine dr_op rfl rfl (opr_nilCheck rfl rfl) ?_
  refine dr_op rfl rfl (opr_slice (a := 0) (b := 8) (off' := ox) rfl rfl rfl rfl Tryz.underlying60 (by decide) (by decide) (by decide) size5 rfl) ?_
  refine dr_op rfl rfl (opr_move rfl rfl) ?_
  refine dr_last rfl rfl (opr_call rfl rfl rfl Tryz.func95 (by kernel_rfl) rfl (putUint64_ct hx (Nat.le_trans (by omega) hle) (Nat.mod_lt _ (by decide)) (by decide))) ?_
  refine at_then ?_
  refine at_seq ?_
  refine at_draw (by kernel_rfl) (by kernel_rfl) (by kernel_rfl) (List.cons_ne_nil _ _) ?_
  refine dr_op rfl rfl (opr_load0 rfl rfl Tryz.underlying131 rfl size131) ?_
  refine dr_op rfl rfl (opr_move rfl rfl) ?_
  refine dr_op rfl rfl (opr_nilCheck rfl rfl) ?_
  refine dr_op rfl rfl (opr_slice (a := 8) (b := 16) (off' := ox + 8) rfl rfl rfl rfl Tryz.underlying60 (by decide) (by decide) (by decide) size5 rfl) ?_
  refine dr_op rfl rfl (opr_move rfl rfl) ?_
  refine dr_last rfl rfl (opr_call rfl rfl rfl Tryz.func95 (by kernel_rfl) rfl (putUint64_ct (get_set hx) (Nat.le_trans (by omega) (ple hle (by omega))) (Nat.mod_lt _ (by decide)) (by decide))) ?_
  refine at_then ?_
  refine at_seq ?_
  refine at_draw (by kernel_rfl) (by kernel_rfl) (by kernel_rfl) (List.cons_ne_nil _ _) ?_
  refine dr_op rfl rfl (opr_load0 rfl rfl Tryz.underlying131 rfl size131) ?_
  refine dr_op rfl rfl (opr_move rfl rfl) ?_
  refine dr_op rfl rfl (opr_nilCheck rfl rfl) ?_
  refine dr_op rfl rfl (opr_slice (a := 16) (b := 24) (off' := ox + 16) rfl rfl rfl rfl Tryz.underlying60 (by decide) (by decide) (by decide) size5 rfl) ?_
  refine dr_op rfl rfl (opr_move rfl rfl) ?_
  refine dr_last rfl rfl (opr_call rfl rfl rfl Tryz.func95 (by kernel_rfl) rfl (putUint64_ct (get_set (get_set hx)) (Nat.le_trans (by omega) (ple (ple hle (by omega)) (by omega))) (Nat.mod_lt _ (by decide)) (by decide))) ?_
  refine at_then ?_
  refine at_seq ?_
  refine at_draw (by kernel_rfl) (by kernel_rfl) (by kernel_rfl) (List.cons_ne_nil _ _) ?_
  refine dr_op rfl rfl (opr_load0 rfl rfl Tryz.underlying131 rfl size131) ?_
  refine dr_op rfl rfl (opr_move rfl rfl) ?_
  refine dr_op rfl rfl (opr_nilCheck rfl rfl) ?_
  refine dr_op rfl rfl (opr_slice (a := 24) (b := 32) (off' := ox + 24) rfl rfl rfl rfl Tryz.underlying60 (by decide) (by decide) (by decide) size5 rfl) ?_
  refine dr_op rfl rfl (opr_move rfl rfl) ?_
  refine dr_last rfl rfl (opr_call rfl rfl rfl Tryz.func95 (by kernel_rfl) rfl (putUint64_ct (get_set (get_set (get_set hx))) (Nat.le_trans (by omega) (ple (ple (ple hle (by omega)) (by omega)) (by omega))) (Nat.mod_lt _ (by decide)) (by decide))) ?_
  refine at_then ?_
  refine at_seq ?_
  refine at_draw (by kernel_rfl) (by kernel_rfl) (by kernel_rfl) (List.cons_ne_nil _ _) ?_
  refine dr_op rfl rfl (opr_load0 rfl rfl Tryz.underlying131 rfl size131) ?_
  refine dr_op rfl rfl (opr_move rfl rfl) ?_
  refine dr_op rfl rfl (opr_nilCheck rfl rfl) ?_
  refine dr_op rfl rfl (opr_slice (a := 32) (b := 40) (off' := ox + 32) rfl rfl rfl rfl Tryz.underlying60 (by decide) (by decide) (by decide) size5 rfl) ?_
  refine dr_op rfl rfl (opr_move rfl rfl) ?_
  refine dr_last rfl rfl (opr_call rfl rfl rfl Tryz.func95 (by kernel_rfl) rfl (putUint64_ct (get_set (get_set (get_set (get_set hx)))) (Nat.le_trans (by omega) (ple (ple (ple (ple hle (by omega)) (by omega)) (by omega)) (by omega))) (Nat.mod_lt _ (by decide)) (by decide))) ?_
  refine at_then ?_
  refine at_seq ?_
  refine at_draw (by kernel_rfl) (by kernel_rfl) (by kernel_rfl) (List.cons_ne_nil _ _) ?_
  refine dr_op rfl rfl (opr_load0 rfl rfl Tryz.underlying131 rfl size131) ?_
  refine dr_op rfl rfl (opr_move rfl rfl) ?_
  refine dr_op rfl rfl (opr_nilCheck rfl rfl) ?_
  refine dr_op rfl rfl (opr_slice (a := 40) (b := 48) (off' := ox + 40) rfl rfl rfl rfl Tryz.underlying60 (by decide) (by decide) (by decide) size5 rfl) ?_
  refine dr_op rfl rfl (opr_move rfl rfl) ?_
  refine dr_last rfl rfl (opr_call rfl rfl rfl Tryz.func95 (by kernel_rfl) rfl (putUint64_ct (get_set (get_set (get_set (get_set (get_set hx))))) (Nat.le_trans (by omega) (ple (ple (ple (ple (ple hle (by omega)) (by omega)) (by omega)) (by omega)) (by omega))) (Nat.mod_lt _ (by decide)) (by decide))) ?_
  refine at_then ?_
  refine at_seq ?_
  refine at_draw (by kernel_rfl) (by kernel_rfl) (by kernel_rfl) (List.cons_ne_nil _ _) ?_
  refine dr_op rfl rfl (opr_load0 rfl rfl Tryz.underlying131 rfl size131) ?_
  refine dr_op rfl rfl (opr_move rfl rfl) ?_
  refine dr_op rfl rfl (opr_nilCheck rfl rfl) ?_
  refine dr_op rfl rfl (opr_slice (a := 48) (b := 56) (off' := ox + 48) rfl rfl rfl rfl Tryz.underlying60 (by decide) (by decide) (by decide) size5 rfl) ?_
  refine dr_op rfl rfl (opr_move rfl rfl) ?_
  refine dr_last rfl rfl (opr_call rfl rfl rfl Tryz.func95 (by kernel_rfl) rfl (putUint64_ct (get_set (get_set (get_set (get_set (get_set (get_set hx)))))) (Nat.le_trans (by omega) (ple (ple (ple (ple (ple (ple hle (by omega)) (by omega)) (by omega)) (by omega)) (by omega)) (by omega))) (Nat.mod_lt _ (by decide)) (by decide))) ?_
  refine at_mem0 (M2 := M.set ix ⟨gx, Tx, EE (lx.set kx a)⟩) ((put7 (List.getElem?_eq_some_iff.1 hkx).1 hox (Nat.mod_lt _ (by decide)) (Nat.mod_lt _ (by decide)) (Nat.mod_lt _ (by decide)) (Nat.mod_lt _ (by decide)) (Nat.mod_lt _ (by decide)) (Nat.mod_lt _ (by decide)) (Nat.mod_lt _ (by decide))).trans (congrArg (fun r => M.set ix ⟨gx, Tx, EE (lx.set kx r)⟩) (words7 ha))) ?_
  have hx2 : (M.set ix ⟨gx, Tx, EE (lx.set kx a)⟩)[ix]? = some ⟨gx, Tx, EE (lx.set kx a)⟩ := get_set hx
  have hle3 : oy + 56 ≤ (EE (lx.set kx a)).length := by rw [EE_length, List.length_set, ← EE_length]; exact hle2
  refine at_then ?_
  refine at_seq ?_
  refine at_draw (by kernel_rfl) (by kernel_rfl) (by kernel_rfl) (List.cons_ne_nil _ _) ?_
  refine dr_op rfl rfl (opr_load0 rfl rfl Tryz.underlying131 rfl size131) ?_
  refine dr_op rfl rfl (opr_move rfl rfl) ?_
  refine dr_op rfl rfl (opr_nilCheck rfl rfl) ?_
  refine dr_op rfl rfl (opr_slice (a := 0) (b := 8) (off' := oy) rfl rfl rfl rfl Tryz.underlying60 (by decide) (by decide) (by decide) size5 rfl) ?_
  refine dr_op rfl rfl (opr_move rfl rfl) ?_
  refine dr_last rfl rfl (opr_call rfl rfl rfl Tryz.func95 (by kernel_rfl) rfl (putUint64_ct hx2 (Nat.le_trans (by omega) hle3) (Nat.mod_lt _ (by decide)) (by decide))) ?_
  refine at_then ?_
  refine at_seq ?_
  refine at_draw (by kernel_rfl) (by kernel_rfl) (by kernel_rfl) (List.cons_ne_nil _ _) ?_
  refine dr_op rfl rfl (opr_load0 rfl rfl Tryz.underlying131 rfl size131) ?_
  refine dr_op rfl rfl (opr_move rfl rfl) ?_
  refine dr_op rfl rfl (opr_nilCheck rfl rfl) ?_
  refine dr_op rfl rfl (opr_slice (a := 8) (b := 16) (off' := oy + 8) rfl rfl rfl rfl Tryz.underlying60 (by decide) (by decide) (by decide) size5 rfl) ?_
  refine dr_op rfl rfl (opr_move rfl rfl) ?_
  refine dr_last rfl rfl (opr_call rfl rfl rfl Tryz.func95 (by kernel_rfl) rfl (putUint64_ct (get_set hx2) (Nat.le_trans (by omega) (ple hle3 (by omega))) (Nat.mod_lt _ (by decide)) (by decide))) ?_
  refine at_then ?_
  refine at_seq ?_
  refine at_draw (by kernel_rfl) (by kernel_rfl) (by kernel_rfl) (List.cons_ne_nil _ _) ?_
  refine dr_op rfl rfl (opr_load0 rfl rfl Tryz.underlying131 rfl size131) ?_
  refine dr_op rfl rfl (opr_move rfl rfl) ?_
  refine dr_op rfl rfl (opr_nilCheck rfl rfl) ?_
  refine dr_op rfl rfl (opr_slice (a := 16) (b := 24) (off' := oy + 16) rfl rfl rfl rfl Tryz.underlying60 (by decide) (by decide) (by decide) size5 rfl) ?_
  refine dr_op rfl rfl (opr_move rfl rfl) ?_
  refine dr_last rfl rfl (opr_call rfl rfl rfl Tryz.func95 (by kernel_rfl) rfl (putUint64_ct (get_set (get_set hx2)) (Nat.le_trans (by omega) (ple (ple hle3 (by omega)) (by omega))) (Nat.mod_lt _ (by decide)) (by decide))) ?_
  refine at_then ?_
  refine at_seq ?_
  refine at_draw (by kernel_rfl) (by kernel_rfl) (by kernel_rfl) (List.cons_ne_nil _ _) ?_
  refine dr_op rfl rfl (opr_load0 rfl rfl Tryz.underlying131 rfl size131) ?_
  refine dr_op rfl rfl (opr_move rfl rfl) ?_
  refine dr_op rfl rfl (opr_nilCheck rfl rfl) ?_
  refine dr_op rfl rfl (opr_slice (a := 24) (b := 32) (off' := oy + 24) rfl rfl rfl rfl Tryz.underlying60 (by decide) (by decide) (by decide) size5 rfl) ?_
  refine dr_op rfl rfl (opr_move rfl rfl) ?_
  refine dr_last rfl rfl (opr_call rfl rfl rfl Tryz.func95 (by kernel_rfl) rfl (putUint64_ct (get_set (get_set (get_set hx2))) (Nat.le_trans (by omega) (ple (ple (ple hle3 (by omega)) (by omega)) (by omega))) (Nat.mod_lt _ (by decide)) (by decide))) ?_
  refine at_then ?_
  refine at_seq ?_
  refine at_draw (by kernel_rfl) (by kernel_rfl) (by kernel_rfl) (List.cons_ne_nil _ _) ?_
  refine dr_op rfl rfl (opr_load0 rfl rfl Tryz.underlying131 rfl size131) ?_
  refine dr_op rfl rfl (opr_move rfl rfl) ?_
  refine dr_op rfl rfl (opr_nilCheck rfl rfl) ?_
  refine dr_op rfl rfl (opr_slice (a := 32) (b := 40) (off' := oy + 32) rfl rfl rfl rfl Tryz.underlying60 (by decide) (by decide) (by decide) size5 rfl) ?_
  refine dr_op rfl rfl (opr_move rfl rfl) ?_
  refine dr_last rfl rfl (opr_call rfl rfl rfl Tryz.func95 (by kernel_rfl) rfl (putUint64_ct (get_set (get_set (get_set (get_set hx2)))) (Nat.le_trans (by omega) (ple (ple (ple (ple hle3 (by omega)) (by omega)) (by omega)) (by omega))) (Nat.mod_lt _ (by decide)) (by decide))) ?_
  refine at_then ?_
  refine at_seq ?_
  refine at_draw (by kernel_rfl) (by kernel_rfl) (by kernel_rfl) (List.cons_ne_nil _ _) ?_
  refine dr_op rfl rfl (opr_load0 rfl rfl Tryz.underlying131 rfl size131) ?_
  refine dr_op rfl rfl (opr_move rfl rfl) ?_
  refine dr_op rfl rfl (opr_nilCheck rfl rfl) ?_
  refine dr_op rfl rfl (opr_slice (a := 40) (b := 48) (off' := oy + 40) rfl rfl rfl rfl Tryz.underlying60 (by decide) (by decide) (by decide) size5 rfl) ?_
  refine dr_op rfl rfl (opr_move rfl rfl) ?_
  refine dr_last rfl rfl (opr_call rfl rfl rfl Tryz.func95 (by kernel_rfl) rfl (putUint64_ct (get_set (get_set (get_set (get_set (get_set hx2))))) (Nat.le_trans (by omega) (ple (ple (ple (ple (ple hle3 (by omega)) (by omega)) (by omega)) (by omega)) (by omega))) (Nat.mod_lt _ (by decide)) (by decide))) ?_
  refine at_then ?_
  refine at_draw (by kernel_rfl) (by kernel_rfl) (by kernel_rfl) (List.cons_ne_nil _ _) ?_
  refine dr_op rfl rfl (opr_load0 rfl rfl Tryz.underlying131 rfl size131) ?_
  refine dr_op rfl rfl (opr_move rfl rfl) ?_
  refine dr_op rfl rfl (opr_nilCheck rfl rfl) ?_
  refine dr_op rfl rfl (opr_slice (a := 48) (b := 56) (off' := oy + 48) rfl rfl rfl rfl Tryz.underlying60 (by decide) (by decide) (by decide) size5 rfl) ?_
  refine dr_op rfl rfl (opr_move rfl rfl) ?_
  refine dr_last rfl rfl (opr_call rfl rfl rfl Tryz.func95 (by kernel_rfl) rfl (putUint64_ct (get_set (get_set (get_set (get_set (get_set (get_set hx2)))))) (Nat.le_trans (by omega) (ple (ple (ple (ple (ple (ple hle3 (by omega)) (by omega)) (by omega)) (by omega)) (by omega)) (by omega))) (Nat.mod_lt _ (by decide)) (by decide))) ?_
  exact done_of (res0 rfl) ⟨rfl, ((put7 (by rw [List.length_set]; exact (List.getElem?_eq_some_iff.1 hky).1) hoy (Nat.mod_lt _ (by decide)) (Nat.mod_lt _ (by decide)) (Nat.mod_lt _ (by decide)) (Nat.mod_lt _ (by decide)) (Nat.mod_lt _ (by decide)) (Nat.mod_lt _ (by decide)) (Nat.mod_lt _ (by decide))).trans (congrArg (fun r => (M.set ix ⟨gx, Tx, EE (lx.set kx a)⟩).set ix ⟨gx, Tx, EE ((lx.set kx a).set ky r)⟩) (words7 hb))).trans (List.set_set ..)⟩ (List.Sublist.refl _)
theorem cswapGenericS1_ct {M : Mem} {ix gx Tx kx ky ox oy a b : Nat} {lx : List Nat} (hx : M[ix]? = some ⟨gx, Tx, EE lx⟩) (hkx : lx[kx]? = some a) (hox : 56 * kx = ox) (hky : lx[ky]? = some b) (hoy : 56 * ky = oy) (hne : kx ≠ ky) (ha : a < RR) (hb : b < RR) : Ct Tryz.prog 105 #[.pointer (some ⟨gx, ox, none⟩), .pointer (some ⟨gx, oy, none⟩), .int .u64 1] M (Det (.tuple #[]) (M.set ix ⟨gx, Tx, EE ((lx.set kx b).set ky a)⟩)) := by
  have hle : ox + 56 ≤ (EE lx).length := by rw [EE_length]; have := (List.getElem?_eq_some_iff.1 hkx).1; omega
  have hle2 : oy + 56 ≤ (EE lx).length := by rw [EE_length]; have := (List.getElem?_eq_some_iff.1 hky).1; omega
  refine ct_of (vs := [.pointer (some ⟨gx, ox, none⟩), .pointer (some ⟨gx, oy, none⟩), .int .u64 1]) Tryz.func105 rfl Tryz.ntmps105 rfl fun w0 => ?_
  refine at_seq ?_
  refine at_region ?_
  refine at_d rfl rfl (opr_move rfl rfl) ?_
  refine at_d rfl rfl (opr_binOp (v := .int .u64 1) rfl rfl rfl (fun _ => rfl)) ?_
  refine at_d rfl rfl (opr_unOp (u := .int .u64 18446744073709551615) rfl rfl (fun _ => rfl)) ?_
  refine at_d rfl rfl (opr_assign rfl rfl) ?_
  refine at_nil ?_
  refine at_then ?_
  refine at_seq ?_
  refine at_draw (by kernel_rfl) (by kernel_rfl) (by kernel_rfl) (List.cons_ne_nil _ _) ?_
  refine dr_op rfl rfl (opr_load0 rfl rfl Tryz.underlying131 rfl size131) ?_
  refine dr_op rfl rfl (opr_move rfl rfl) ?_
  refine dr_op rfl rfl (opr_nilCheck rfl rfl) ?_
  refine dr_op rfl rfl (opr_slice (a := 0) (b := 8) (off' := ox) rfl rfl rfl rfl Tryz.underlying60 (by decide) (by decide) (by decide) size5 rfl) ?_
  refine dr_op rfl rfl (opr_call rfl rfl rfl Tryz.func90 (by kernel_rfl) rfl (uint64_ct (x := a / 256 ^ (8 * 0)) hx (EE_word hkx (i := 0) (by decide) (by omega)) (by decide))) ?_
  refine dr_last rfl rfl (opr_assign rfl rfl) ?_
  refine at_then ?_
  refine at_seq ?_
  refine at_draw (by kernel_rfl) (by kernel_rfl) (by kernel_rfl) (List.cons_ne_nil _ _) ?_
  refine dr_op rfl rfl (opr_load0 rfl rfl Tryz.underlying131 rfl size131) ?_
  refine dr_op rfl rfl (opr_move rfl rfl) ?_
  refine dr_op rfl rfl (opr_nilCheck rfl rfl) ?_
  refine dr_op rfl rfl (opr_slice (a := 8) (b := 16) (off' := ox + 8) rfl rfl rfl rfl Tryz.underlying60 (by decide) (by decide) (by decide) size5 rfl) ?_
  refine dr_op rfl rfl (opr_call rfl rfl rfl Tryz.func90 (by kernel_rfl) rfl (uint64_ct (x := a / 256 ^ (8 * 1)) hx (EE_word hkx (i := 1) (by decide) (by omega)) (by decide))) ?_
  refine dr_last rfl rfl (opr_assign rfl rfl) ?_
  refine at_then ?_
  refine at_seq ?_
  refine at_draw (by kernel_rfl) (by kernel_rfl) (by kernel_rfl) (List.cons_ne_nil _ _) ?_
  refine dr_op rfl rfl (opr_load0 rfl rfl Tryz.underlying131 rfl size131) ?_
  refine dr_op rfl rfl (opr_move rfl rfl) ?_
  refine dr_op rfl rfl (opr_nilCheck rfl rfl) ?_
  refine dr_op rfl rfl (opr_slice (a := 16) (b := 24) (off' := ox + 16) rfl rfl rfl rfl Tryz.underlying60 (by decide) (by decide) (by decide) size5 rfl) ?_
  refine dr_op rfl rfl (opr_call rfl rfl rfl Tryz.func90 (by kernel_rfl) rfl (uint64_ct (x := a / 256 ^ (8 * 2)) hx (EE_word hkx (i := 2) (by decide) (by omega)) (by decide))) ?_
  refine dr_last rfl rfl (opr_assign rfl rfl) ?_
  refine at_then ?_
  refine at_seq ?_
  refine at_draw (by kernel_rfl) (by kernel_rfl) (by kernel_rfl) (List.cons_ne_nil _ _) ?_
  refine dr_op rfl rfl (opr_load0 rfl rfl Tryz.underlying131 rfl size131) ?_
  refine dr_op rfl rfl (opr_move rfl rfl) ?_
  refine dr_op rfl rfl (opr_nilCheck rfl rfl) ?_
  refine dr_op rfl rfl (opr_slice (a := 24) (b := 32) (off' := ox + 24) rfl rfl rfl rfl Tryz.underlying60 (by decide) (by decide) (by decide) size5 rfl) ?_
  refine dr_op rfl rfl (opr_call rfl rfl rfl Tryz.func90 (by kernel_rfl) rfl (uint64_ct (x := a / 256 ^ (8 * 3)) hx (EE_word hkx (i := 3) (by decide) (by omega)) (by decide))) ?_
  refine dr_last rfl rfl (opr_assign rfl rfl) ?_
  refine at_then ?_
  refine at_seq ?_
  refine at_draw (by kernel_rfl) (by kernel_rfl) (by kernel_rfl) (List.cons_ne_nil _ _) ?_
  refine dr_op rfl rfl (opr_load0 rfl rfl Tryz.underlying131 rfl size131) ?_
  refine dr_op rfl rfl (opr_move rfl rfl) ?_
  refine dr_op rfl rfl (opr_nilCheck rfl rfl) ?_
  refine dr_op rfl rfl (opr_slice (a := 32) (b := 40) (off' := ox + 32) rfl rfl rfl rfl Tryz.underlying60 (by decide) (by decide) (by decide) size5 rfl) ?_
  refine dr_op rfl rfl (opr_call rfl rfl rfl Tryz.func90 (by kernel_rfl) rfl (uint64_ct (x := a / 256 ^ (8 * 4)) hx (EE_word hkx (i := 4) (by decide) (by omega)) (by decide))) ?_
  refine dr_last rfl rfl (opr_assign rfl rfl) ?_
  refine at_then ?_
  refine at_seq ?_
  refine at_draw (by kernel_rfl) (by kernel_rfl) (by kernel_rfl) (List.cons_ne_nil _ _) ?_
  refine dr_op rfl rfl (opr_load0 rfl rfl Tryz.underlying131 rfl size131) ?_
  refine dr_op rfl rfl (opr_move rfl rfl) ?_
  refine dr_op rfl rfl (opr_nilCheck rfl rfl) ?_
  refine dr_op rfl rfl (opr_slice (a := 40) (b := 48) (off' := ox + 40) rfl rfl rfl rfl Tryz.underlying60 (by decide) (by decide) (by decide) size5 rfl) ?_
  refine dr_op rfl rfl (opr_call rfl rfl rfl Tryz.func90 (by kernel_rfl) rfl (uint64_ct (x := a / 256 ^ (8 * 5)) hx (EE_word hkx (i := 5) (by decide) (by omega)) (by decide))) ?_
  refine dr_last rfl rfl (opr_assign rfl rfl) ?_
  refine at_then ?_
  refine at_seq ?_
  refine at_draw (by kernel_rfl) (by kernel_rfl) (by kernel_rfl) (List.cons_ne_nil _ _) ?_
  refine dr_op rfl rfl (opr_load0 rfl rfl Tryz.underlying131 rfl size131) ?_
  refine dr_op rfl rfl (opr_move rfl rfl) ?_
  refine dr_op rfl rfl (opr_nilCheck rfl rfl) ?_
  refine dr_op rfl rfl (opr_slice (a := 48) (b := 56) (off' := ox + 48) rfl rfl rfl rfl Tryz.underlying60 (by decide) (by decide) (by decide) size5 rfl) ?_
  refine dr_op rfl rfl (opr_call rfl rfl rfl Tryz.func90 (by kernel_rfl) rfl (uint64_ct (x := a / 256 ^ (8 * 6)) hx (EE_word hkx (i := 6) (by decide) (by omega)) (by decide))) ?_
  refine dr_last rfl rfl (opr_assign rfl rfl) ?_
  refine at_then ?_
  refine at_seq ?_
  refine at_draw (by kernel_rfl) (by kernel_rfl) (by kernel_rfl) (List.cons_ne_nil _ _) ?_
  refine dr_op rfl rfl (opr_load0 rfl rfl Tryz.underlying131 rfl size131) ?_
  refine dr_op rfl rfl (opr_move rfl rfl) ?_
  refine dr_op rfl rfl (opr_nilCheck rfl rfl) ?_
  refine dr_op rfl rfl (opr_slice (a := 0) (b := 8) (off' := oy) rfl rfl rfl rfl Tryz.underlying60 (by decide) (by decide) (by decide) size5 rfl) ?_
  refine dr_op rfl rfl (opr_call rfl rfl rfl Tryz.func90 (by kernel_rfl) rfl (uint64_ct (x := b / 256 ^ (8 * 0)) hx (EE_word hky (i := 0) (by decide) (by omega)) (by decide))) ?_
  refine dr_last rfl rfl (opr_assign rfl rfl) ?_
  refine at_then ?_
  refine at_seq ?_
  refine at_draw (by kernel_rfl) (by kernel_rfl) (by kernel_rfl) (List.cons_ne_nil _ _) ?_
  refine dr_op rfl rfl (opr_load0 rfl rfl Tryz.underlying131 rfl size131) ?_
  refine dr_op rfl rfl (opr_move rfl rfl) ?_
  refine dr_op rfl rfl (opr_nilCheck rfl rfl) ?_
  refine dr_op rfl rfl (opr_slice (a := 8) (b := 16) (off' := oy + 8) rfl rfl rfl rfl Tryz.underlying60 (by decide) (by decide) (by decide) size5 rfl) ?_
  refine dr_op rfl rfl (opr_call rfl rfl rfl Tryz.func90 (by kernel_rfl) rfl (uint64_ct (x := b / 256 ^ (8 * 1)) hx (EE_word hky (i := 1) (by decide) (by omega)) (by decide))) ?_
  refine dr_last rfl rfl (opr_assign rfl rfl) ?_
  refine at_then ?_
  refine at_seq ?_
  refine at_draw (by kernel_rfl) (by kernel_rfl) (by kernel_rfl) (List.cons_ne_nil _ _) ?_
  refine dr_op rfl rfl (opr_load0 rfl rfl Tryz.underlying131 rfl size131) ?_
  refine dr_op rfl rfl (opr_move rfl rfl) ?_
  refine dr_op rfl rfl (opr_nilCheck rfl rfl) ?_
  refine dr_op rfl rfl (opr_slice (a := 16) (b := 24) (off' := oy + 16) rfl rfl rfl rfl Tryz.underlying60 (by decide) (by decide) (by decide) size5 rfl) ?_
  refine dr_op rfl rfl (opr_call rfl rfl rfl Tryz.func90 (by kernel_rfl) rfl (uint64_ct (x := b / 256 ^ (8 * 2)) hx (EE_word hky (i := 2) (by decide) (by omega)) (by decide))) ?_
  refine dr_last rfl rfl (opr_assign rfl rfl) ?_
  refine at_then ?_
  refine at_seq ?_
  refine at_draw (by kernel_rfl) (by kernel_rfl) (by kernel_rfl) (List.cons_ne_nil _ _) ?_
  refine dr_op rfl rfl (opr_load0 rfl rfl Tryz.underlying131 rfl size131) ?_
  refine dr_op rfl rfl (opr_move rfl rfl) ?_
  refine dr_op rfl rfl (opr_nilCheck rfl rfl) ?_
  refine dr_op rfl rfl (opr_slice (a := 24) (b := 32) (off' := oy + 24) rfl rfl rfl rfl Tryz.underlying60 (by decide) (by decide) (by decide) size5 rfl) ?_
  refine dr_op rfl rfl (opr_call rfl rfl rfl Tryz.func90 (by kernel_rfl) rfl (uint64_ct (x := b / 256 ^ (8 * 3)) hx (EE_word hky (i := 3) (by decide) (by omega)) (by decide))) ?_
  refine dr_last rfl rfl (opr_assign rfl rfl) ?_
  refine at_then ?_
  refine at_seq ?_
  refine at_draw (by kernel_rfl) (by kernel_rfl) (by kernel_rfl) (List.cons_ne_nil _ _) ?_
  refine dr_op rfl rfl (opr_load0 rfl rfl Tryz.underlying131 rfl size131) ?_
  refine dr_op rfl rfl (opr_move rfl rfl) ?_
  refine dr_op rfl rfl (opr_nilCheck rfl rfl) ?_
  refine dr_op rfl rfl (opr_slice (a := 32) (b := 40) (off' := oy + 32) rfl rfl rfl rfl Tryz.underlying60 (by decide) (by decide) (by decide) size5 rfl) ?_
  refine dr_op rfl rfl (opr_call rfl rfl rfl Tryz.func90 (by kernel_rfl) rfl (uint64_ct (x := b / 256 ^ (8 * 4)) hx (EE_word hky (i := 4) (by decide) (by omega)) (by decide))) ?_
  refine dr_last rfl rfl (opr_assign rfl rfl) ?_
  refine at_then ?_
  refine at_seq ?_
  refine at_draw (by kernel_rfl) (by kernel_rfl) (by kernel_rfl) (List.cons_ne_nil _ _) ?_
  refine dr_op rfl rfl (opr_load0 rfl rfl Tryz.underlying131 rfl size131) ?_
  refine dr_op rfl rfl (opr_move rfl rfl) ?_
  refine dr_op rfl rfl (opr_nilCheck rfl rfl) ?_
  refine dr_op rfl rfl (opr_slice (a := 40) (b := 48) (off' := oy + 40) rfl rfl rfl rfl Tryz.underlying60 (by decide) (by decide) (by decide) size5 rfl) ?_
  refine dr_op rfl rfl (opr_call rfl rfl rfl Tryz.func90 (by kernel_rfl) rfl (uint64_ct (x := b / 256 ^ (8 * 5)) hx (EE_word hky (i := 5) (by decide) (by omega)) (by decide))) ?_
  refine dr_last rfl rfl (opr_assign rfl rfl) ?_
  refine at_then ?_
  refine at_seq ?_
  refine at_draw (by kernel_rfl) (by kernel_rfl) (by kernel_rfl) (List.cons_ne_nil _ _) ?_
  refine dr_op rfl rfl (opr_load0 rfl rfl Tryz.underlying131 rfl size131) ?_
  refine dr_op rfl rfl (opr_move rfl rfl) ?_
  refine dr_op rfl rfl (opr_nilCheck rfl rfl) ?_
  refine dr_op rfl rfl (opr_slice (a := 48) (b := 56) (off' := oy + 48) rfl rfl rfl rfl Tryz.underlying60 (by decide) (by decide) (by decide) size5 rfl) ?_
  refine dr_op rfl rfl (opr_call rfl rfl rfl Tryz.func90 (by kernel_rfl) rfl (uint64_ct (x := b / 256 ^ (8 * 6)) hx (EE_word hky (i := 6) (by decide) (by omega)) (by decide))) ?_
  refine dr_last rfl rfl (opr_assign rfl rfl) ?_
  refine at_then ?_
  refine at_seq ?_
  refine at_region ?_
  refine at_d rfl rfl (opr_move rfl rfl) ?_
  refine at_d rfl rfl (opr_move rfl rfl) ?_
  refine at_d rfl rfl (opr_move rfl rfl) ?_
  refine at_d rfl rfl (opr_xor64 rfl rfl rfl (Nat.mod_lt _ (by decide)) (Nat.mod_lt _ (by decide))) ?_
  refine at_d rfl rfl (opr_eq (opr_and64 (a := 18446744073709551615) rfl rfl rfl (by decide) (Nat.xor_lt_two_pow (n := 64) (Nat.mod_lt _ (by decide)) (Nat.mod_lt _ (by decide)))) (u64_eq (ones_and (Nat.xor_lt_two_pow (n := 64) (Nat.mod_lt _ (by decide)) (Nat.mod_lt _ (by decide)))))) ?_
  refine at_d rfl rfl (opr_assign rfl rfl) ?_
  refine at_nil ?_
  refine at_then ?_
  refine at_seq ?_
  refine at_region ?_
  refine at_d rfl rfl (opr_move rfl rfl) ?_
  refine at_d rfl rfl (opr_move rfl rfl) ?_
  refine at_d rfl rfl (opr_move rfl rfl) ?_
  refine at_d rfl rfl (opr_xor64 rfl rfl rfl (Nat.mod_lt _ (by decide)) (Nat.mod_lt _ (by decide))) ?_
  refine at_d rfl rfl (opr_eq (opr_and64 (a := 18446744073709551615) rfl rfl rfl (by decide) (Nat.xor_lt_two_pow (n := 64) (Nat.mod_lt _ (by decide)) (Nat.mod_lt _ (by decide)))) (u64_eq (ones_and (Nat.xor_lt_two_pow (n := 64) (Nat.mod_lt _ (by decide)) (Nat.mod_lt _ (by decide)))))) ?_
  refine at_d rfl rfl (opr_assign rfl rfl) ?_
  refine at_nil ?_
  refine at_then ?_
  refine at_seq ?_
  refine at_region ?_
  refine at_d rfl rfl (opr_move rfl rfl) ?_
  refine at_d rfl rfl (opr_move rfl rfl) ?_
  refine at_d rfl rfl (opr_move rfl rfl) ?_
  refine at_d rfl rfl (opr_xor64 rfl rfl rfl (Nat.mod_lt _ (by decide)) (Nat.mod_lt _ (by decide))) ?_
  refine at_d rfl rfl (opr_eq (opr_and64 (a := 18446744073709551615) rfl rfl rfl (by decide) (Nat.xor_lt_two_pow (n := 64) (Nat.mod_lt _ (by decide)) (Nat.mod_lt _ (by decide)))) (u64_eq (ones_and (Nat.xor_lt_two_pow (n := 64) (Nat.mod_lt _ (by decide)) (Nat.mod_lt _ (by decide)))))) ?_
  refine at_d rfl rfl (opr_assign rfl rfl) ?_
  refine at_nil ?_
  refine at_then ?_
  refine at_seq ?_
  refine at_region ?_
  refine at_d rfl rfl (opr_move rfl rfl) ?_
  refine at_d rfl rfl (opr_move rfl rfl) ?_
  refine at_d rfl rfl (opr_move rfl rfl) ?_
  refine at_d rfl rfl (opr_xor64 rfl rfl rfl (Nat.mod_lt _ (by decide)) (Nat.mod_lt _ (by decide))) ?_
  refine at_d rfl rfl (opr_eq (opr_and64 (a := 18446744073709551615) rfl rfl rfl (by decide) (Nat.xor_lt_two_pow (n := 64) (Nat.mod_lt _ (by decide)) (Nat.mod_lt _ (by decide)))) (u64_eq (ones_and (Nat.xor_lt_two_pow (n := 64) (Nat.mod_lt _ (by decide)) (Nat.mod_lt _ (by decide)))))) ?_
  refine at_d rfl rfl (opr_assign rfl rfl) ?_
  refine at_nil ?_
  refine at_then ?_
  refine at_seq ?_
  refine at_region ?_
  refine at_d rfl rfl (opr_move rfl rfl) ?_
  refine at_d rfl rfl (opr_move rfl rfl) ?_
  refine at_d rfl rfl (opr_move rfl rfl) ?_
  refine at_d rfl rfl (opr_xor64 rfl rfl rfl (Nat.mod_lt _ (by decide)) (Nat.mod_lt _ (by decide))) ?_
  refine at_d rfl rfl (opr_eq (opr_and64 (a := 18446744073709551615) rfl rfl rfl (by decide) (Nat.xor_lt_two_pow (n := 64) (Nat.mod_lt _ (by decide)) (Nat.mod_lt _ (by decide)))) (u64_eq (ones_and (Nat.xor_lt_two_pow (n := 64) (Nat.mod_lt _ (by decide)) (Nat.mod_lt _ (by decide)))))) ?_
  refine at_d rfl rfl (opr_assign rfl rfl) ?_
  refine at_nil ?_
  refine at_then ?_
  refine at_seq ?_
  refine at_region ?_
  refine at_d rfl rfl (opr_move rfl rfl) ?_
  refine at_d rfl rfl (opr_move rfl rfl) ?_
  refine at_d rfl rfl (opr_move rfl rfl) ?_
  refine at_d rfl rfl (opr_xor64 rfl rfl rfl (Nat.mod_lt _ (by decide)) (Nat.mod_lt _ (by decide))) ?_
  refine at_d rfl rfl (opr_eq (opr_and64 (a := 18446744073709551615) rfl rfl rfl (by decide) (Nat.xor_lt_two_pow (n := 64) (Nat.mod_lt _ (by decide)) (Nat.mod_lt _ (by decide)))) (u64_eq (ones_and (Nat.xor_lt_two_pow (n := 64) (Nat.mod_lt _ (by decide)) (Nat.mod_lt _ (by decide)))))) ?_
  refine at_d rfl rfl (opr_assign rfl rfl) ?_
  refine at_nil ?_
  refine at_then ?_
  refine at_seq ?_
  refine at_region ?_
  refine at_d rfl rfl (opr_move rfl rfl) ?_
  refine at_d rfl rfl (opr_move rfl rfl) ?_
  refine at_d rfl rfl (opr_move rfl rfl) ?_
  refine at_d rfl rfl (opr_xor64 rfl rfl rfl (Nat.mod_lt _ (by decide)) (Nat.mod_lt _ (by decide))) ?_
  refine at_d rfl rfl (opr_eq (opr_and64 (a := 18446744073709551615) rfl rfl rfl (by decide) (Nat.xor_lt_two_pow (n := 64) (Nat.mod_lt _ (by decide)) (Nat.mod_lt _ (by decide)))) (u64_eq (ones_and (Nat.xor_lt_two_pow (n := 64) (Nat.mod_lt _ (by decide)) (Nat.mod_lt _ (by decide)))))) ?_
  refine at_d rfl rfl (opr_assign rfl rfl) ?_
  refine at_nil ?_
  refine at_then ?_
  refine at_seq ?_
  refine at_region ?_
  refine at_d rfl rfl (opr_move rfl rfl) ?_
  refine at_d rfl rfl (opr_move rfl rfl) ?_
  refine at_d rfl rfl (opr_eq (opr_xor64 rfl rfl rfl (Nat.mod_lt _ (by decide)) (Nat.xor_lt_two_pow (n := 64) (Nat.mod_lt _ (by decide)) (Nat.mod_lt _ (by decide)))) (u64_eq (xor_back))) ?_
  refine at_d rfl rfl (opr_assign rfl rfl) ?_
  refine at_nil ?_
  refine at_then ?_
  refine at_seq ?_
  refine at_region ?_
  refine at_d rfl rfl (opr_move rfl rfl) ?_
  refine at_d rfl rfl (opr_move rfl rfl) ?_
  refine at_d rfl rfl (opr_eq (opr_xor64 rfl rfl rfl (Nat.mod_lt _ (by decide)) (Nat.xor_lt_two_pow (n := 64) (Nat.mod_lt _ (by decide)) (Nat.mod_lt _ (by decide)))) (u64_eq (xor_back))) ?_
  refine at_d rfl rfl (opr_assign rfl rfl) ?_
  refine at_nil ?_
  refine at_then ?_
  refine at_seq ?_
  refine at_region ?_
  refine at_d rfl rfl (opr_move rfl rfl) ?_
  refine at_d rfl rfl (opr_move rfl rfl) ?_
  refine at_d rfl rfl (opr_eq (opr_xor64 rfl rfl rfl (Nat.mod_lt _ (by decide)) (Nat.xor_lt_two_pow (n := 64) (Nat.mod_lt _ (by decide)) (Nat.mod_lt _ (by decide)))) (u64_eq (xor_back))) ?_
  refine at_d rfl rfl (opr_assign rfl rfl) ?_
  refine at_nil ?_
  refine at_then ?_
  refine at_seq ?_
  refine at_region ?_
  refine at_d rfl rfl (opr_move rfl rfl) ?_
  refine at_d rfl rfl (opr_move rfl rfl) ?_
  refine at_d rfl rfl (opr_eq (opr_xor64 rfl rfl rfl (Nat.mod_lt _ (by decide)) (Nat.xor_lt_two_pow (n := 64) (Nat.mod_lt _ (by decide)) (Nat.mod_lt _ (by decide)))) (u64_eq (xor_back))) ?_
  refine at_d rfl rfl (opr_assign rfl rfl) ?_
  refine at_nil ?_
  refine at_then ?_
  refine at_seq ?_
  refine at_region ?_
  refine at_d rfl rfl (opr_move rfl rfl) ?_
  refine at_d rfl rfl (opr_move rfl rfl) ?_
  refine at_d rfl rfl (opr_eq (opr_xor64 rfl rfl rfl (Nat.mod_lt _ (by decide)) (Nat.xor_lt_two_pow (n := 64) (Nat.mod_lt _ (by decide)) (Nat.mod_lt _ (by decide)))) (u64_eq (xor_back))) ?_
  refine at_d rfl rfl (opr_assign rfl rfl) ?_
  refine at_nil ?_
  refine at_then ?_
  refine at_seq ?_
  refine at_region ?_
  refine at_d rfl rfl (opr_move rfl rfl) ?_
  refine at_d rfl rfl (opr_move rfl rfl) ?_
  refine at_d rfl rfl (opr_eq (opr_xor64 rfl rfl rfl (Nat.mod_lt _ (by decide)) (Nat.xor_lt_two_pow (n := 64) (Nat.mod_lt _ (by decide)) (Nat.mod_lt _ (by decide)))) (u64_eq (xor_back))) ?_
  refine at_d rfl rfl (opr_assign rfl rfl) ?_
  refine at_nil ?_
  refine at_then ?_
  refine at_seq ?_
  refine at_region ?_
  refine at_d rfl rfl (opr_move rfl rfl) ?_
  refine at_d rfl rfl (opr_move rfl rfl) ?_
  refine at_d rfl rfl (opr_eq (opr_xor64 rfl rfl rfl (Nat.mod_lt _ (by decide)) (Nat.xor_lt_two_pow (n := 64) (Nat.mod_lt _ (by decide)) (Nat.mod_lt _ (by decide)))) (u64_eq (xor_back))) ?_
  refine at_d rfl rfl (opr_assign rfl rfl) ?_
  refine at_nil ?_
  refine at_then ?_
  refine at_seq ?_
  refine at_region ?_
  refine at_d rfl rfl (opr_move rfl rfl) ?_
  refine at_d rfl rfl (opr_move rfl rfl) ?_
  refine at_d rfl rfl (opr_eq (opr_xor64 rfl rfl rfl (Nat.mod_lt _ (by decide)) (Nat.xor_lt_two_pow (n := 64) (Nat.mod_lt _ (by decide)) (Nat.mod_lt _ (by decide)))) (u64_eq (xor_back'))) ?_
  refine at_d rfl rfl (opr_assign rfl rfl) ?_
  refine at_nil ?_
  refine at_then ?_
  refine at_seq ?_
  refine at_region ?_
  refine at_d rfl rfl (opr_move rfl rfl) ?_
  refine at_d rfl rfl (opr_move rfl rfl) ?_
  refine at_d rfl rfl (opr_eq (opr_xor64 rfl rfl rfl (Nat.mod_lt _ (by decide)) (Nat.xor_lt_two_pow (n := 64) (Nat.mod_lt _ (by decide)) (Nat.mod_lt _ (by decide)))) (u64_eq (xor_back'))) ?_
  refine at_d rfl rfl (opr_assign rfl rfl) ?_
  refine at_nil ?_
  refine at_then ?_
  refine at_seq ?_
  refine at_region ?_
  refine at_d rfl rfl (opr_move rfl rfl) ?_
  refine at_d rfl rfl (opr_move rfl rfl) ?_
  refine at_d rfl rfl (opr_eq (opr_xor64 rfl rfl rfl (Nat.mod_lt _ (by decide)) (Nat.xor_lt_two_pow (n := 64) (Nat.mod_lt _ (by decide)) (Nat.mod_lt _ (by decide)))) (u64_eq (xor_back'))) ?_
  refine at_d rfl rfl (opr_assign rfl rfl) ?_
  refine at_nil ?_
  refine at_then ?_
  refine at_seq ?_
  refine at_region ?_
  refine at_d rfl rfl (opr_move rfl rfl) ?_
  refine at_d rfl rfl (opr_move rfl rfl) ?_
  refine at_d rfl rfl (opr_eq (opr_xor64 rfl rfl rfl (Nat.mod_lt _ (by decide)) (Nat.xor_lt_two_pow (n := 64) (Nat.mod_lt _ (by decide)) (Nat.mod_lt _ (by decide)))) (u64_eq (xor_back'))) ?_
  refine at_d rfl rfl (opr_assign rfl rfl) ?_
  refine at_nil ?_
  refine at_then ?_
  refine at_seq ?_
  refine at_region ?_
  refine at_d rfl rfl (opr_move rfl rfl) ?_
  refine at_d rfl rfl (opr_move rfl rfl) ?_
  refine at_d rfl rfl (opr_eq (opr_xor64 rfl rfl rfl (Nat.mod_lt _ (by decide)) (Nat.xor_lt_two_pow (n := 64) (Nat.mod_lt _ (by decide)) (Nat.mod_lt _ (by decide)))) (u64_eq (xor_back'))) ?_
  refine at_d rfl rfl (opr_assign rfl rfl) ?_
  refine at_nil ?_
  refine at_then ?_
  refine at_seq ?_
  refine at_region ?_
  refine at_d rfl rfl (opr_move rfl rfl) ?_
  refine at_d rfl rfl (opr_move rfl rfl) ?_
  refine at_d rfl rfl (opr_eq (opr_xor64 rfl rfl rfl (Nat.mod_lt _ (by decide)) (Nat.xor_lt_two_pow (n := 64) (Nat.mod_lt _ (by decide)) (Nat.mod_lt _ (by decide)))) (u64_eq (xor_back'))) ?_
  refine at_d rfl rfl (opr_assign rfl rfl) ?_
  refine at_nil ?_
  refine at_then ?_
  refine at_seq ?_
  refine at_region ?_
  refine at_d rfl rfl (opr_move rfl rfl) ?_
  refine at_d rfl rfl (opr_move rfl rfl) ?_
  refine at_d rfl rfl (opr_eq (opr_xor64 rfl rfl rfl (Nat.mod_lt _ (by decide)) (Nat.xor_lt_two_pow (n := 64) (Nat.mod_lt _ (by decide)) (Nat.mod_lt _ (by decide)))) (u64_eq (xor_back'))) ?_
  refine at_d rfl rfl (opr_assign rfl rfl) ?_
  refine at_nil ?_
  refine at_then ?_
  refine at_seq ?_
  refine at_draw (by kernel_rfl) (by kernel_rfl) (by kernel_rfl) (List.cons_ne_nil _ _) ?_
  refine dr_op rfl rfl (opr_load0 rfl rfl Tryz.underlying131 rfl size131) ?_
  refine dr_op rfl rfl (opr_move rfl rfl) ?_
  refine dr_op rfl rfl (opr_nilCheck rfl rfl) ?_
  refine dr_op rfl rfl (opr_slice (a := 0) (b := 8) (off' := ox) rfl rfl rfl rfl Tryz.underlying60 (by decide) (by decide) (by decide) size5 rfl) ?_
  refine dr_op rfl rfl (opr_move rfl rfl) ?_
  refine dr_last rfl rfl (opr_call rfl rfl rfl Tryz.func95 (by kernel_rfl) rfl (putUint64_ct hx (Nat.le_trans (by omega) hle) (Nat.mod_lt _ (by decide)) (by decide))) ?_
  refine at_then ?_
  refine at_seq ?_
  refine at_draw (by kernel_rfl) (by kernel_rfl) (by kernel_rfl) (List.cons_ne_nil _ _) ?_
  refine dr_op rfl rfl (opr_load0 rfl rfl Tryz.underlying131 rfl size131) ?_
  refine dr_op rfl rfl (opr_move rfl rfl) ?_
  refine dr_op rfl rfl (opr_nilCheck rfl rfl) ?_
  refine dr_op rfl rfl (opr_slice (a := 8) (b := 16) (off' := ox + 8) rfl rfl rfl rfl Tryz.underlying60 (by decide) (by decide) (by decide) size5 rfl) ?_
  refine dr_op rfl rfl (opr_move rfl rfl) ?_
  refine dr_last rfl rfl (opr_call rfl rfl rfl Tryz.func95 (by kernel_rfl) rfl (putUint64_ct (get_set hx) (Nat.le_trans (by omega) (ple hle (by omega))) (Nat.mod_lt _ (by decide)) (by decide))) ?_
  refine at_then ?_
  refine at_seq ?_
  refine at_draw (by kernel_rfl) (by kernel_rfl) (by kernel_rfl) (List.cons_ne_nil _ _) ?_
  refine dr_op rfl rfl (opr_load0 rfl rfl Tryz.underlying131 rfl size131) ?_
  refine dr_op rfl rfl (opr_move rfl rfl) ?_
  refine dr_op rfl rfl (opr_nilCheck rfl rfl) ?_
  refine dr_op rfl rfl (opr_slice (a := 16) (b := 24) (off' := ox + 16) rfl rfl rfl rfl Tryz.underlying60 (by decide) (by decide) (by decide) size5 rfl) ?_
  refine dr_op rfl rfl (opr_move rfl rfl) ?_
  refine dr_last rfl rfl (opr_call rfl rfl rfl Tryz.func95 (by kernel_rfl) rfl (putUint64_ct (get_set (get_set hx)) (Nat.le_trans (by omega) (ple (ple hle (by omega)) (by omega))) (Nat.mod_lt _ (by decide)) (by decide))) ?_
  refine at_then ?_
  refine at_seq ?_
  refine at_draw (by kernel_rfl) (by kernel_rfl) (by kernel_rfl) (List.cons_ne_nil _ _) ?_
  refine dr_op rfl rfl (opr_load0 rfl rfl Tryz.underlying131 rfl size131) ?_
  refine dr_op rfl rfl (opr_move rfl rfl) ?_
  refine dr_op rfl rfl (opr_nilCheck rfl rfl) ?_
  refine dr_op rfl rfl (opr_slice (a := 24) (b := 32) (off' := ox + 24) rfl rfl rfl rfl Tryz.underlying60 (by decide) (by decide) (by decide) size5 rfl) ?_
  refine dr_op rfl rfl (opr_move rfl rfl) ?_
  refine dr_last rfl rfl (opr_call rfl rfl rfl Tryz.func95 (by kernel_rfl) rfl (putUint64_ct (get_set (get_set (get_set hx))) (Nat.le_trans (by omega) (ple (ple (ple hle (by omega)) (by omega)) (by omega))) (Nat.mod_lt _ (by decide)) (by decide))) ?_
  refine at_then ?_
  refine at_seq ?_
  refine at_draw (by kernel_rfl) (by kernel_rfl) (by kernel_rfl) (List.cons_ne_nil _ _) ?_
  refine dr_op rfl rfl (opr_load0 rfl rfl Tryz.underlying131 rfl size131) ?_
  refine dr_op rfl rfl (opr_move rfl rfl) ?_
  refine dr_op rfl rfl (opr_nilCheck rfl rfl) ?_
  refine dr_op rfl rfl (opr_slice (a := 32) (b := 40) (off' := ox + 32) rfl rfl rfl rfl Tryz.underlying60 (by decide) (by decide) (by decide) size5 rfl) ?_
  refine dr_op rfl rfl (opr_move rfl rfl) ?_
  refine dr_last rfl rfl (opr_call rfl rfl rfl Tryz.func95 (by kernel_rfl) rfl (putUint64_ct (get_set (get_set (get_set (get_set hx)))) (Nat.le_trans (by omega) (ple (ple (ple (ple hle (by omega)) (by omega)) (by omega)) (by omega))) (Nat.mod_lt _ (by decide)) (by decide))) ?_
  refine at_then ?_
  refine at_seq ?_
  refine at_draw (by kernel_rfl) (by kernel_rfl) (by kernel_rfl) (List.cons_ne_nil _ _) ?_
  refine dr_op rfl rfl (opr_load0 rfl rfl Tryz.underlying131 rfl size131) ?_
  refine dr_op rfl rfl (opr_move rfl rfl) ?_
  refine dr_op rfl rfl (opr_nilCheck rfl rfl) ?_
  refine dr_op rfl rfl (opr_slice (a := 40) (b := 48) (off' := ox + 40) rfl rfl rfl rfl Tryz.underlying60 (by decide) (by decide) (by decide) size5 rfl) ?_
  refine dr_op rfl rfl (opr_move rfl rfl) ?_
  refine dr_last rfl rfl (opr_call rfl rfl rfl Tryz.func95 (by kernel_rfl) rfl (putUint64_ct (get_set (get_set (get_set (get_set (get_set hx))))) (Nat.le_trans (by omega) (ple (ple (ple (ple (ple hle (by omega)) (by omega)) (by omega)) (by omega)) (by omega))) (Nat.mod_lt _ (by decide)) (by decide))) ?_
  refine at_then ?_
  refine at_seq ?_
  refine at_draw (by kernel_rfl) (by kernel_rfl) (by kernel_rfl) (List.cons_ne_nil _ _) ?_
  refine dr_op rfl rfl (opr_load0 rfl rfl Tryz.underlying131 rfl size131) ?_
  refine dr_op rfl rfl (opr_move rfl rfl) ?_
  refine dr_op rfl rfl (opr_nilCheck rfl rfl) ?_
  refine dr_op rfl rfl (opr_slice (a := 48) (b := 56) (off' := ox + 48) rfl rfl rfl rfl Tryz.underlying60 (by decide) (by decide) (by decide) size5 rfl) ?_
  refine dr_op rfl rfl (opr_move rfl rfl) ?_
  refine dr_last rfl rfl (opr_call rfl rfl rfl Tryz.func95 (by kernel_rfl) rfl (putUint64_ct (get_set (get_set (get_set (get_set (get_set (get_set hx)))))) (Nat.le_trans (by omega) (ple (ple (ple (ple (ple (ple hle (by omega)) (by omega)) (by omega)) (by omega)) (by omega)) (by omega))) (Nat.mod_lt _ (by decide)) (by decide))) ?_
  refine at_mem0 (M2 := M.set ix ⟨gx, Tx, EE (lx.set kx b)⟩) ((put7 (List.getElem?_eq_some_iff.1 hkx).1 hox (Nat.mod_lt _ (by decide)) (Nat.mod_lt _ (by decide)) (Nat.mod_lt _ (by decide)) (Nat.mod_lt _ (by decide)) (Nat.mod_lt _ (by decide)) (Nat.mod_lt _ (by decide)) (Nat.mod_lt _ (by decide))).trans (congrArg (fun r => M.set ix ⟨gx, Tx, EE (lx.set kx r)⟩) (words7 hb))) ?_
  have hx2 : (M.set ix ⟨gx, Tx, EE (lx.set kx b)⟩)[ix]? = some ⟨gx, Tx, EE (lx.set kx b)⟩ := get_set hx
  have hle3 : oy + 56 ≤ (EE (lx.set kx b)).length := by rw [EE_length, List.length_set, ← EE_length]; exact hle2
  refine at_then ?_
  refine at_seq ?_
  refine at_draw (by kernel_rfl) (by kernel_rfl) (by kernel_rfl) (List.cons_ne_nil _ _) ?_
  refine dr_op rfl rfl (opr_load0 rfl rfl Tryz.underlying131 rfl size131) ?_
  refine dr_op rfl rfl (opr_move rfl rfl) ?_
  refine dr_op rfl rfl (opr_nilCheck rfl rfl) ?_
  refine dr_op rfl rfl (opr_slice (a := 0) (b := 8) (off' := oy) rfl rfl rfl rfl Tryz.underlying60 (by decide) (by decide) (by decide) size5 rfl) ?_
  refine dr_op rfl rfl (opr_move rfl rfl) ?_
  refine dr_last rfl rfl (opr_call rfl rfl rfl Tryz.func95 (by kernel_rfl) rfl (putUint64_ct hx2 (Nat.le_trans (by omega) hle3) (Nat.mod_lt _ (by decide)) (by decide))) ?_
  refine at_then ?_
  refine at_seq ?_
  refine at_draw (by kernel_rfl) (by kernel_rfl) (by kernel_rfl) (List.cons_ne_nil _ _) ?_
  refine dr_op rfl rfl (opr_load0 rfl rfl Tryz.underlying131 rfl size131) ?_
  refine dr_op rfl rfl (opr_move rfl rfl) ?_
  refine dr_op rfl rfl (opr_nilCheck rfl rfl) ?_
  refine dr_op rfl rfl (opr_slice (a := 8) (b := 16) (off' := oy + 8) rfl rfl rfl rfl Tryz.underlying60 (by decide) (by decide) (by decide) size5 rfl) ?_
  refine dr_op rfl rfl (opr_move rfl rfl) ?_
  refine dr_last rfl rfl (opr_call rfl rfl rfl Tryz.func95 (by kernel_rfl) rfl (putUint64_ct (get_set hx2) (Nat.le_trans (by omega) (ple hle3 (by omega))) (Nat.mod_lt _ (by decide)) (by decide))) ?_
  refine at_then ?_
  refine at_seq ?_
  refine at_draw (by kernel_rfl) (by kernel_rfl) (by kernel_rfl) (List.cons_ne_nil _ _) ?_
  refine dr_op rfl rfl (opr_load0 rfl rfl Tryz.underlying131 rfl size131) ?_
  refine dr_op rfl rfl (opr_move rfl rfl) ?_
  refine dr_op rfl rfl (opr_nilCheck rfl rfl) ?_
  refine dr_op rfl rfl (opr_slice (a := 16) (b := 24) (off' := oy + 16) rfl rfl rfl rfl Tryz.underlying60 (by decide) (by decide) (by decide) size5 rfl) ?_
  refine dr_op rfl rfl (opr_move rfl rfl) ?_
  refine dr_last rfl rfl (opr_call rfl rfl rfl Tryz.func95 (by kernel_rfl) rfl (putUint64_ct (get_set (get_set hx2)) (Nat.le_trans (by omega) (ple (ple hle3 (by omega)) (by omega))) (Nat.mod_lt _ (by decide)) (by decide))) ?_
  refine at_then ?_
  refine at_seq ?_
  refine at_draw (by kernel_rfl) (by kernel_rfl) (by kernel_rfl) (List.cons_ne_nil _ _) ?_
  refine dr_op rfl rfl (opr_load0 rfl rfl Tryz.underlying131 rfl size131) ?_
  refine dr_op rfl rfl (opr_move rfl rfl) ?_
  refine dr_op rfl rfl (opr_nilCheck rfl rfl) ?_
  refine dr_op rfl rfl (opr_slice (a := 24) (b := 32) (off' := oy + 24) rfl rfl rfl rfl Tryz.underlying60 (by decide) (by decide) (by decide) size5 rfl) ?_
  refine dr_op rfl rfl (opr_move rfl rfl) ?_
  refine dr_last rfl rfl (opr_call rfl rfl rfl Tryz.func95 (by kernel_rfl) rfl (putUint64_ct (get_set (get_set (get_set hx2))) (Nat.le_trans (by omega) (ple (ple (ple hle3 (by omega)) (by omega)) (by omega))) (Nat.mod_lt _ (by decide)) (by decide))) ?_
  refine at_then ?_
  refine at_seq ?_
  refine at_draw (by kernel_rfl) (by kernel_rfl) (by kernel_rfl) (List.cons_ne_nil _ _) ?_
  refine dr_op rfl rfl (opr_load0 rfl rfl Tryz.underlying131 rfl size131) ?_
  refine dr_op rfl rfl (opr_move rfl rfl) ?_
  refine dr_op rfl rfl (opr_nilCheck rfl rfl) ?_
  refine dr_op rfl rfl (opr_slice (a := 32) (b := 40) (off' := oy + 32) rfl rfl rfl rfl Tryz.underlying60 (by decide) (by decide) (by decide) size5 rfl) ?_
  refine dr_op rfl rfl (opr_move rfl rfl) ?_
  refine dr_last rfl rfl (opr_call rfl rfl rfl Tryz.func95 (by kernel_rfl) rfl (putUint64_ct (get_set (get_set (get_set (get_set hx2)))) (Nat.le_trans (by omega) (ple (ple (ple (ple hle3 (by omega)) (by omega)) (by omega)) (by omega))) (Nat.mod_lt _ (by decide)) (by decide))) ?_
  refine at_then ?_
  refine at_seq ?_
  refine at_draw (by kernel_rfl) (by kernel_rfl) (by kernel_rfl) (List.cons_ne_nil _ _) ?_
  refine dr_op rfl rfl (opr_load0 rfl rfl Tryz.underlying131 rfl size131) ?_
  refine dr_op rfl rfl (opr_move rfl rfl) ?_
  refine dr_op rfl rfl (opr_nilCheck rfl rfl) ?_
  refine dr_op rfl rfl (opr_slice (a := 40) (b := 48) (off' := oy + 40) rfl rfl rfl rfl Tryz.underlying60 (by decide) (by decide) (by decide) size5 rfl) ?_
  refine dr_op rfl rfl (opr_move rfl rfl) ?_
  refine dr_last rfl rfl (opr_call rfl rfl rfl Tryz.func95 (by kernel_rfl) rfl (putUint64_ct (get_set (get_set (get_set (get_set (get_set hx2))))) (Nat.le_trans (by omega) (ple (ple (ple (ple (ple hle3 (by omega)) (by omega)) (by omega)) (by omega)) (by omega))) (Nat.mod_lt _ (by decide)) (by decide))) ?_
  refine at_then ?_
  refine at_draw (by kernel_rfl) (by kernel_rfl) (by kernel_rfl) (List.cons_ne_nil _ _) ?_
  refine dr_op rfl rfl (opr_load0 rfl rfl Tryz.underlying131 rfl size131) ?_
  refine dr_op rfl rfl (opr_move rfl rfl) ?_
  refine dr_op rfl rfl (opr_nilCheck rfl rfl) ?_
  refine dr_op rfl rfl (opr_slice (a := 48) (b := 56) (off' := oy + 48) rfl rfl rfl rfl Tryz.underlying60 (by decide) (by decide) (by decide) size5 rfl) ?_
  refine dr_op rfl rfl (opr_move rfl rfl) ?_
  refine dr_last rfl rfl (opr_call rfl rfl rfl Tryz.func95 (by kernel_rfl) rfl (putUint64_ct (get_set (get_set (get_set (get_set (get_set (get_set hx2)))))) (Nat.le_trans (by omega) (ple (ple (ple (ple (ple (ple hle3 (by omega)) (by omega)) (by omega)) (by omega)) (by omega)) (by omega))) (Nat.mod_lt _ (by decide)) (by decide))) ?_
  exact done_of (res0 rfl) ⟨rfl, ((put7 (by rw [List.length_set]; exact (List.getElem?_eq_some_iff.1 hky).1) hoy (Nat.mod_lt _ (by decide)) (Nat.mod_lt _ (by decide)) (Nat.mod_lt _ (by decide)) (Nat.mod_lt _ (by decide)) (Nat.mod_lt _ (by decide)) (Nat.mod_lt _ (by decide)) (Nat.mod_lt _ (by decide))).trans (congrArg (fun r => (M.set ix ⟨gx, Tx, EE (lx.set kx b)⟩).set ix ⟨gx, Tx, EE ((lx.set kx b).set ky r)⟩) (words7 ha))).trans (List.set_set ..)⟩ (List.Sublist.refl _)
theorem CswapS_ct {t : Nat} (ht : t = 0 ∨ t = 1) {M : Mem} {ix gx Tx kx ky ox oy a b : Nat} {lx : List Nat} (hx : M[ix]? = some ⟨gx, Tx, EE lx⟩) (hkx : lx[kx]? = some a) (hox : 56 * kx = ox) (hky : lx[ky]? = some b) (hoy : 56 * ky = oy) (hne : kx ≠ ky) (ha : a < RR) (hb : b < RR) : Ct Tryz.prog 84 #[.pointer (some ⟨gx, ox, none⟩), .pointer (some ⟨gx, oy, none⟩), .int .u64 (t : Int)] M (Det (.tuple #[]) (M.set ix ⟨gx, Tx, EE ((lx.set kx (sel t a b)).set ky (sel t b a))⟩)) := by
  rcases ht with rfl | rfl
  · exact Cswap_pass (cswap_pass (cswapGenericS0_ct hx hkx hox hky hoy hne ha hb) (fun _ _ h => h.1)) (fun _ _ h => h.1)
  · exact Cswap_pass (cswap_pass (cswapGenericS1_ct hx hkx hox hky hoy hne ha hb) (fun _ _ h => h.1)) (fun _ _ h => h.1)
end Go.Proofs.YtjlhhcdefcofkaaGreatDoor
