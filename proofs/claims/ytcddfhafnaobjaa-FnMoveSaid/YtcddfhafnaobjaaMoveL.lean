/- Moves and exchanges under a bit, and their law. -/
import Derived.Test.YtcddfhafnaobjaaFp
import Derived.Test.YtcddfhafnaobjaaEq
import Derived.Test.YtcddfhafnaobjaaDrawG
namespace Go.Proofs.Ytcddfhafnaobjaa
open Go
set_option maxRecDepth 100000
theorem size22 : (Try.prog.info? 22).map (·.size) = some 56 := by kernel_rfl
theorem size29 : (Try.prog.info? 29).map (·.size) = some 56 := by kernel_rfl
theorem size34 : (Try.prog.info? 34).map (·.size) = some 0 := by kernel_rfl
theorem zero22 : (Try.prog.info? 22).bind (·.zero) = some (.agg (EE [0]).toArray) := by kernel_rfl
theorem zero29 : (Try.prog.info? 29).bind (·.zero) = some (.agg (EE [0]).toArray) := by kernel_rfl
theorem opr_andn0 {P : Program} {St : Slots} {M : Mem} {o : Oper} {x y : Operand} {T T' a : Nat} (ho : o.op = .binOp .andNot T x y T') (hx : evalS St x = some (.int .u64 (a : Int))) (hy : evalS St y = some (.int .u64 0)) (ha : a < 18446744073709551616) : OpR P St M o (Det (.int .u64 (a : Int)) M) := by
  have h := opr_binOp (P := P) (M := M) (v := .int .u64 (bits .andNot .u64 (a : Int) 0)) ho hx hy (fun _ => rfl)
  have e : bits .andNot .u64 (a : Int) 0 = (a : Int) := by
    have h1 : (BitVec.ofInt 64 (a : Int) &&& ~~~BitVec.ofInt 64 0).toNat = a := by
      have : ~~~BitVec.ofInt 64 0 = BitVec.allOnes 64 := by decide
      rw [this, BitVec.and_allOnes]
      simp [BitVec.toNat_ofInt]
      omega
    show IntKind.wrap .u64 ((BitVec.ofInt 64 (a : Int) &&& ~~~BitVec.ofInt 64 0).toNat : Int) = (a : Int)
    rw [h1]
    simp [IntKind.wrap, IntKind.bits, IntKind.signed]
    omega
  rw [e] at h; exact h
theorem opr_andn1 {P : Program} {St : Slots} {M : Mem} {o : Oper} {x y : Operand} {T T' a : Nat} (ho : o.op = .binOp .andNot T x y T') (hx : evalS St x = some (.int .u64 (a : Int))) (hy : evalS St y = some (.int .u64 18446744073709551615)) : OpR P St M o (Det (.int .u64 ((0 : Nat) : Int)) M) := by
  have h := opr_binOp (P := P) (M := M) (v := .int .u64 (bits .andNot .u64 (a : Int) 18446744073709551615)) ho hx hy (fun _ => rfl)
  have e : bits .andNot .u64 (a : Int) 18446744073709551615 = ((0 : Nat) : Int) := by
    have h1 : (BitVec.ofInt 64 (a : Int) &&& ~~~BitVec.ofInt 64 18446744073709551615).toNat = 0 := by
      have : ~~~BitVec.ofInt 64 18446744073709551615 = 0#64 := by decide
      rw [this, BitVec.and_zero]; rfl
    show IntKind.wrap .u64 ((BitVec.ofInt 64 (a : Int) &&& ~~~BitVec.ofInt 64 18446744073709551615).toNat : Int) = _
    rw [h1]; rfl
  rw [e] at h; exact h
theorem and_ones {y : Nat} (h : y < 18446744073709551616) : y &&& 18446744073709551615 = y := by
  have := Nat.and_two_pow_sub_one_eq_mod y 64
  rw [show (2 : Nat) ^ 64 - 1 = 18446744073709551615 from rfl] at this
  rw [this]; exact Nat.mod_eq_of_lt h
theorem ones_and {y : Nat} (h : y < 18446744073709551616) : 18446744073709551615 &&& y = y := by rw [Nat.and_comm]; exact and_ones h
theorem xor_back {x y : Nat} : x ^^^ (x ^^^ y) = y := by rw [← Nat.xor_assoc, Nat.xor_self, Nat.zero_xor]
theorem xor_back' {x y : Nat} : y ^^^ (x ^^^ y) = x := by rw [Nat.xor_comm x y, xor_back]
/-- The first of two, or the second where t is 1. -/
def sel (t a b : Nat) : Nat := if t = 1 then b else a
theorem sel_lt {t a b : Nat} (ha : a < RR) (hb : b < RR) : sel t a b < RR := by unfold sel; split <;> assumption
theorem sel0 (a b : Nat) : sel 0 a b = a := rfl
theorem sel1 (a b : Nat) : sel 1 a b = b := rfl
theorem opr_eq {P : Program} {St : Slots} {M M' : Mem} {o : Oper} {v v' : Value} (h : OpR P St M o (Det v M')) (e : v = v') : OpR P St M o (Det v' M') := e ▸ h
theorem u64_eq {a b : Nat} (h : a = b) : Value.int .u64 (a : Int) = Value.int .u64 (b : Int) := congrArg (fun n : Nat => Value.int .u64 (n : Int)) h
theorem at_mem0 {C : Ctx} {St : Slots} {M1 M2 : Mem} {F : Act → World → Prop} (h : M1 = M2) (k : At C St M2 F) : At C St M1 F := h ▸ k
def evalP (St : Slots) : List (Nat × Operand) → Option (List (Nat × Value))
  | [] => some []
  | (i, x) :: r => match evalS St x, evalP St r with
    | some v, some vs => some ((i, v) :: vs)
    | _, _ => none
theorem evalP_map {St : Slots} {ρ : Operand → Value} (hρ : ∀ x v, evalS St x = some v → ρ x = v) : ∀ (ps : List (Nat × Operand)) (vs : List (Nat × Value)), evalP St ps = some vs → ps.map (fun p => (p.1, ρ p.2)) = vs
  | [], vs, h => by simp only [evalP, Option.some.injEq] at h; subst h; rfl
  | (i, x) :: r, vs, h => by
    unfold evalP at h
    cases hx : evalS St x with
    | none => rw [hx] at h; simp at h
    | some v =>
      cases hr : evalP St r with
      | none => rw [hx, hr] at h; simp at h
      | some us =>
        rw [hx, hr] at h
        simp only [Option.some.injEq] at h
        subst h
        rw [List.map_cons, evalP_map hρ r us hr, hρ x v hx]
theorem opr_buildP {P : Program} {St : Slots} {M : Mem} {o : Oper} {T : TypeId} {ps : List (Nat × Operand)} {vs : List (Nat × Value)} {cs : List Value} (ho : o.op = .build T ps.toArray) (hps : evalP St ps = some vs) (hb : P.built T vs = some cs.toArray) : OpR P St M o (Det (.agg cs.toArray) M) :=
  opr_build ho (fun _ hρ => evalP_map hρ ps vs hps) hb

theorem built_small (c : Nat) : Try.prog.built 22 [(0, .int .u8 (c : Int))] = some (.int .u8 (c : Int) :: List.replicate 55 (.int .u8 0)).toArray := by kernel_rfl
theorem E_small {c : Nat} (hc : c < 256) : (Value.int .u8 (c : Int) :: List.replicate 55 (.int .u8 0)) = E c := by
  have h0 : c / 256 = 0 := Nat.div_eq_of_lt hc
  have hz : ∀ n, (digs 256 n 0).map u8V = List.replicate n (.int .u8 0) := by
    intro n
    induction n with
    | zero => rfl
    | succ n ih => rw [digs, Nat.zero_mod, Nat.zero_div, List.map_cons, ih]; rfl
  rw [E, digs, h0, Nat.mod_eq_of_lt hc, List.map_cons, hz]; rfl
theorem opr_buildE {P : Program} {St : Slots} {M : Mem} {o : Oper} {T : TypeId} {ps : List (Nat × Operand)} {vs : List (Nat × Value)} {cs ds : List Value} (ho : o.op = .build T ps.toArray) (hps : evalP St ps = some vs) (hb : P.built T vs = some cs.toArray) (e : cs = ds) : OpR P St M o (Det (.agg ds.toArray) M) :=
  e ▸ opr_buildP ho hps hb
theorem opr_pickT {P : Program} {St : Slots} {M : Mem} {o : Oper} {c x y : Operand} {u : Value} (ho : o.op = .pick c x y) (hc : evalS St c = some (.bool true)) (hx : evalS St x = some u) : OpR P St M o (Det u M) :=
  opr_value fun ρ w0 S w hρ hw => by
    simp only [execOp, ho, hρ _ _ hc, hρ _ _ hx, asBool, Sem.run_bind, Sem.run_pure, Result.andThen_ok, if_true]

theorem opr_eqlT {P : Program} {St : Slots} {M : Mem} {o : Oper} {x y : Operand} {T T' B : Nat} {a b : Nat} (ho : o.op = .binOp .eql T x y T') (hx : evalS St x = some (.agg (E a).toArray)) (hy : evalS St y = some (.agg (E b).toArray)) (hu : P.underlying T = some (.array 56 B)) (he : P.underlying B = some (.int .u8)) (hs : (P.info? B).map (·.size) = some 1)
    (hq : P.eqGuardType P.depth T = false) (h : a = b) (hb : b < RR) : OpR P St M o (Det (.bool true) M) := by
  have k := opr_eqlE (M := M) ho hx hy hu he hs hq (h ▸ hb) hb
  rw [decide_eq_true h] at k
  exact k
theorem built_zero : Try.prog.built 22 [] = some (List.replicate 56 (Value.int .u8 0)).toArray := by kernel_rfl
theorem E_zero0 : List.replicate 56 (Value.int .u8 0) = E 0 := rfl
theorem RR_zero : 0 < RR := by decide
theorem RR_one : 1 < RR := by decide
theorem cmovGeneric0_ct {M : Mem} {ix iy gx gy Tx Ty kx ky ox oy a b : Nat} {lx ly : List Nat} (hx : M[ix]? = some ⟨gx, Tx, EE lx⟩) (hkx : lx[kx]? = some a) (hox : 56 * kx = ox) (hy : M[iy]? = some ⟨gy, Ty, EE ly⟩) (hky : ly[ky]? = some b) (hoy : 56 * ky = oy) (ha : a < RR) (hb : b < RR) : Ct Try.prog 12 #[.pointer (some ⟨gx, ox, none⟩), .pointer (some ⟨gy, oy, none⟩), .int .u64 0] M (Det (.tuple #[]) (M.set ix ⟨gx, Tx, EE (lx.set kx a)⟩)) := by
  have hle : ox + 56 ≤ (EE lx).length := by rw [EE_length]; have := (List.getElem?_eq_some_iff.1 hkx).1; omega
  have hle2 : oy + 56 ≤ (EE ly).length := by rw [EE_length]; have := (List.getElem?_eq_some_iff.1 hky).1; omega
  refine ct_of (vs := [.pointer (some ⟨gx, ox, none⟩), .pointer (some ⟨gy, oy, none⟩), .int .u64 0]) Try.func12 rfl Try.ntmps12 rfl fun w0 => ?_
  refine at_seq ?_
  refine at_region ?_
  refine at_d rfl rfl (opr_move rfl rfl) ?_
  refine at_d rfl rfl (opr_binOp (v := .int .u64 0) rfl rfl rfl (fun _ => rfl)) ?_
  refine at_d rfl rfl (opr_unOp (u := .int .u64 0) rfl rfl (fun _ => rfl)) ?_
  refine at_d rfl rfl (opr_assign rfl rfl) ?_
  refine at_nil ?_
  refine at_then ?_
  refine at_seq ?_
  refine at_draw (by kernel_rfl) (by kernel_rfl) (by kernel_rfl) (List.cons_ne_nil _ _) ?_
  refine dr_op rfl rfl (opr_load0 rfl rfl Try.underlying34 rfl size34) ?_
  refine dr_op rfl rfl (opr_move rfl rfl) ?_
  refine dr_op rfl rfl (opr_nilCheck rfl rfl) ?_
  refine dr_op rfl rfl (opr_slice (a := 0) (b := 8) (off' := ox) rfl rfl rfl rfl Try.underlying29 (by decide) (by decide) (by decide) size5 rfl) ?_
  refine dr_op rfl rfl (opr_call rfl rfl rfl Try.func13 (by kernel_rfl) rfl (uint64_ct (x := a / 256 ^ (8 * 0)) hx (EE_word hkx (i := 0) (by decide) (by omega)) (by decide))) ?_
  refine dr_last rfl rfl (opr_assign rfl rfl) ?_
  refine at_then ?_
  refine at_seq ?_
  refine at_draw (by kernel_rfl) (by kernel_rfl) (by kernel_rfl) (List.cons_ne_nil _ _) ?_
  refine dr_op rfl rfl (opr_load0 rfl rfl Try.underlying34 rfl size34) ?_
  refine dr_op rfl rfl (opr_move rfl rfl) ?_
  refine dr_op rfl rfl (opr_nilCheck rfl rfl) ?_
  refine dr_op rfl rfl (opr_slice (a := 8) (b := 16) (off' := ox + 8) rfl rfl rfl rfl Try.underlying29 (by decide) (by decide) (by decide) size5 rfl) ?_
  refine dr_op rfl rfl (opr_call rfl rfl rfl Try.func13 (by kernel_rfl) rfl (uint64_ct (x := a / 256 ^ (8 * 1)) hx (EE_word hkx (i := 1) (by decide) (by omega)) (by decide))) ?_
  refine dr_last rfl rfl (opr_assign rfl rfl) ?_
  refine at_then ?_
  refine at_seq ?_
  refine at_draw (by kernel_rfl) (by kernel_rfl) (by kernel_rfl) (List.cons_ne_nil _ _) ?_
  refine dr_op rfl rfl (opr_load0 rfl rfl Try.underlying34 rfl size34) ?_
  refine dr_op rfl rfl (opr_move rfl rfl) ?_
  refine dr_op rfl rfl (opr_nilCheck rfl rfl) ?_
  refine dr_op rfl rfl (opr_slice (a := 16) (b := 24) (off' := ox + 16) rfl rfl rfl rfl Try.underlying29 (by decide) (by decide) (by decide) size5 rfl) ?_
  refine dr_op rfl rfl (opr_call rfl rfl rfl Try.func13 (by kernel_rfl) rfl (uint64_ct (x := a / 256 ^ (8 * 2)) hx (EE_word hkx (i := 2) (by decide) (by omega)) (by decide))) ?_
  refine dr_last rfl rfl (opr_assign rfl rfl) ?_
  refine at_then ?_
  refine at_seq ?_
  refine at_draw (by kernel_rfl) (by kernel_rfl) (by kernel_rfl) (List.cons_ne_nil _ _) ?_
  refine dr_op rfl rfl (opr_load0 rfl rfl Try.underlying34 rfl size34) ?_
  refine dr_op rfl rfl (opr_move rfl rfl) ?_
  refine dr_op rfl rfl (opr_nilCheck rfl rfl) ?_
  refine dr_op rfl rfl (opr_slice (a := 24) (b := 32) (off' := ox + 24) rfl rfl rfl rfl Try.underlying29 (by decide) (by decide) (by decide) size5 rfl) ?_
  refine dr_op rfl rfl (opr_call rfl rfl rfl Try.func13 (by kernel_rfl) rfl (uint64_ct (x := a / 256 ^ (8 * 3)) hx (EE_word hkx (i := 3) (by decide) (by omega)) (by decide))) ?_
  refine dr_last rfl rfl (opr_assign rfl rfl) ?_
  refine at_then ?_
  refine at_seq ?_
  refine at_draw (by kernel_rfl) (by kernel_rfl) (by kernel_rfl) (List.cons_ne_nil _ _) ?_
  refine dr_op rfl rfl (opr_load0 rfl rfl Try.underlying34 rfl size34) ?_
  refine dr_op rfl rfl (opr_move rfl rfl) ?_
  refine dr_op rfl rfl (opr_nilCheck rfl rfl) ?_
  refine dr_op rfl rfl (opr_slice (a := 32) (b := 40) (off' := ox + 32) rfl rfl rfl rfl Try.underlying29 (by decide) (by decide) (by decide) size5 rfl) ?_
  refine dr_op rfl rfl (opr_call rfl rfl rfl Try.func13 (by kernel_rfl) rfl (uint64_ct (x := a / 256 ^ (8 * 4)) hx (EE_word hkx (i := 4) (by decide) (by omega)) (by decide))) ?_
  refine dr_last rfl rfl (opr_assign rfl rfl) ?_
  refine at_then ?_
  refine at_seq ?_
  refine at_draw (by kernel_rfl) (by kernel_rfl) (by kernel_rfl) (List.cons_ne_nil _ _) ?_
  refine dr_op rfl rfl (opr_load0 rfl rfl Try.underlying34 rfl size34) ?_
  refine dr_op rfl rfl (opr_move rfl rfl) ?_
  refine dr_op rfl rfl (opr_nilCheck rfl rfl) ?_
  refine dr_op rfl rfl (opr_slice (a := 40) (b := 48) (off' := ox + 40) rfl rfl rfl rfl Try.underlying29 (by decide) (by decide) (by decide) size5 rfl) ?_
  refine dr_op rfl rfl (opr_call rfl rfl rfl Try.func13 (by kernel_rfl) rfl (uint64_ct (x := a / 256 ^ (8 * 5)) hx (EE_word hkx (i := 5) (by decide) (by omega)) (by decide))) ?_
  refine dr_last rfl rfl (opr_assign rfl rfl) ?_
  refine at_then ?_
  refine at_seq ?_
  refine at_draw (by kernel_rfl) (by kernel_rfl) (by kernel_rfl) (List.cons_ne_nil _ _) ?_
  refine dr_op rfl rfl (opr_load0 rfl rfl Try.underlying34 rfl size34) ?_
  refine dr_op rfl rfl (opr_move rfl rfl) ?_
  refine dr_op rfl rfl (opr_nilCheck rfl rfl) ?_
  refine dr_op rfl rfl (opr_slice (a := 48) (b := 56) (off' := ox + 48) rfl rfl rfl rfl Try.underlying29 (by decide) (by decide) (by decide) size5 rfl) ?_
  refine dr_op rfl rfl (opr_call rfl rfl rfl Try.func13 (by kernel_rfl) rfl (uint64_ct (x := a / 256 ^ (8 * 6)) hx (EE_word hkx (i := 6) (by decide) (by omega)) (by decide))) ?_
  refine dr_last rfl rfl (opr_assign rfl rfl) ?_
  refine at_then ?_
  refine at_seq ?_
  refine at_draw (by kernel_rfl) (by kernel_rfl) (by kernel_rfl) (List.cons_ne_nil _ _) ?_
  refine dr_op rfl rfl (opr_load0 rfl rfl Try.underlying34 rfl size34) ?_
  refine dr_op rfl rfl (opr_move rfl rfl) ?_
  refine dr_op rfl rfl (opr_nilCheck rfl rfl) ?_
  refine dr_op rfl rfl (opr_slice (a := 0) (b := 8) (off' := oy) rfl rfl rfl rfl Try.underlying29 (by decide) (by decide) (by decide) size5 rfl) ?_
  refine dr_op rfl rfl (opr_call rfl rfl rfl Try.func13 (by kernel_rfl) rfl (uint64_ct (x := b / 256 ^ (8 * 0)) hy (EE_word hky (i := 0) (by decide) (by omega)) (by decide))) ?_
  refine dr_last rfl rfl (opr_assign rfl rfl) ?_
  refine at_then ?_
  refine at_seq ?_
  refine at_draw (by kernel_rfl) (by kernel_rfl) (by kernel_rfl) (List.cons_ne_nil _ _) ?_
  refine dr_op rfl rfl (opr_load0 rfl rfl Try.underlying34 rfl size34) ?_
  refine dr_op rfl rfl (opr_move rfl rfl) ?_
  refine dr_op rfl rfl (opr_nilCheck rfl rfl) ?_
  refine dr_op rfl rfl (opr_slice (a := 8) (b := 16) (off' := oy + 8) rfl rfl rfl rfl Try.underlying29 (by decide) (by decide) (by decide) size5 rfl) ?_
  refine dr_op rfl rfl (opr_call rfl rfl rfl Try.func13 (by kernel_rfl) rfl (uint64_ct (x := b / 256 ^ (8 * 1)) hy (EE_word hky (i := 1) (by decide) (by omega)) (by decide))) ?_
  refine dr_last rfl rfl (opr_assign rfl rfl) ?_
  refine at_then ?_
  refine at_seq ?_
  refine at_draw (by kernel_rfl) (by kernel_rfl) (by kernel_rfl) (List.cons_ne_nil _ _) ?_
  refine dr_op rfl rfl (opr_load0 rfl rfl Try.underlying34 rfl size34) ?_
  refine dr_op rfl rfl (opr_move rfl rfl) ?_
  refine dr_op rfl rfl (opr_nilCheck rfl rfl) ?_
  refine dr_op rfl rfl (opr_slice (a := 16) (b := 24) (off' := oy + 16) rfl rfl rfl rfl Try.underlying29 (by decide) (by decide) (by decide) size5 rfl) ?_
  refine dr_op rfl rfl (opr_call rfl rfl rfl Try.func13 (by kernel_rfl) rfl (uint64_ct (x := b / 256 ^ (8 * 2)) hy (EE_word hky (i := 2) (by decide) (by omega)) (by decide))) ?_
  refine dr_last rfl rfl (opr_assign rfl rfl) ?_
  refine at_then ?_
  refine at_seq ?_
  refine at_draw (by kernel_rfl) (by kernel_rfl) (by kernel_rfl) (List.cons_ne_nil _ _) ?_
  refine dr_op rfl rfl (opr_load0 rfl rfl Try.underlying34 rfl size34) ?_
  refine dr_op rfl rfl (opr_move rfl rfl) ?_
  refine dr_op rfl rfl (opr_nilCheck rfl rfl) ?_
  refine dr_op rfl rfl (opr_slice (a := 24) (b := 32) (off' := oy + 24) rfl rfl rfl rfl Try.underlying29 (by decide) (by decide) (by decide) size5 rfl) ?_
  refine dr_op rfl rfl (opr_call rfl rfl rfl Try.func13 (by kernel_rfl) rfl (uint64_ct (x := b / 256 ^ (8 * 3)) hy (EE_word hky (i := 3) (by decide) (by omega)) (by decide))) ?_
  refine dr_last rfl rfl (opr_assign rfl rfl) ?_
  refine at_then ?_
  refine at_seq ?_
  refine at_draw (by kernel_rfl) (by kernel_rfl) (by kernel_rfl) (List.cons_ne_nil _ _) ?_
  refine dr_op rfl rfl (opr_load0 rfl rfl Try.underlying34 rfl size34) ?_
  refine dr_op rfl rfl (opr_move rfl rfl) ?_
  refine dr_op rfl rfl (opr_nilCheck rfl rfl) ?_
  refine dr_op rfl rfl (opr_slice (a := 32) (b := 40) (off' := oy + 32) rfl rfl rfl rfl Try.underlying29 (by decide) (by decide) (by decide) size5 rfl) ?_
  refine dr_op rfl rfl (opr_call rfl rfl rfl Try.func13 (by kernel_rfl) rfl (uint64_ct (x := b / 256 ^ (8 * 4)) hy (EE_word hky (i := 4) (by decide) (by omega)) (by decide))) ?_
  refine dr_last rfl rfl (opr_assign rfl rfl) ?_
  refine at_then ?_
  refine at_seq ?_
  refine at_draw (by kernel_rfl) (by kernel_rfl) (by kernel_rfl) (List.cons_ne_nil _ _) ?_
  refine dr_op rfl rfl (opr_load0 rfl rfl Try.underlying34 rfl size34) ?_
  refine dr_op rfl rfl (opr_move rfl rfl) ?_
  refine dr_op rfl rfl (opr_nilCheck rfl rfl) ?_
  refine dr_op rfl rfl (opr_slice (a := 40) (b := 48) (off' := oy + 40) rfl rfl rfl rfl Try.underlying29 (by decide) (by decide) (by decide) size5 rfl) ?_
  refine dr_op rfl rfl (opr_call rfl rfl rfl Try.func13 (by kernel_rfl) rfl (uint64_ct (x := b / 256 ^ (8 * 5)) hy (EE_word hky (i := 5) (by decide) (by omega)) (by decide))) ?_
  refine dr_last rfl rfl (opr_assign rfl rfl) ?_
  refine at_then ?_
  refine at_seq ?_
  refine at_draw (by kernel_rfl) (by kernel_rfl) (by kernel_rfl) (List.cons_ne_nil _ _) ?_
  refine dr_op rfl rfl (opr_load0 rfl rfl Try.underlying34 rfl size34) ?_
  refine dr_op rfl rfl (opr_move rfl rfl) ?_
  refine dr_op rfl rfl (opr_nilCheck rfl rfl) ?_
  refine dr_op rfl rfl (opr_slice (a := 48) (b := 56) (off' := oy + 48) rfl rfl rfl rfl Try.underlying29 (by decide) (by decide) (by decide) size5 rfl) ?_
  refine dr_op rfl rfl (opr_call rfl rfl rfl Try.func13 (by kernel_rfl) rfl (uint64_ct (x := b / 256 ^ (8 * 6)) hy (EE_word hky (i := 6) (by decide) (by omega)) (by decide))) ?_
  refine dr_last rfl rfl (opr_assign rfl rfl) ?_
  refine at_then ?_
  refine at_seq ?_
  refine at_region ?_
  refine at_d rfl rfl (opr_move rfl rfl) ?_
  refine at_d rfl rfl (opr_move rfl rfl) ?_
  refine at_d rfl rfl (opr_andn0 rfl rfl rfl (Nat.mod_lt _ (by decide))) ?_
  refine at_d rfl rfl (opr_move rfl rfl) ?_
  refine at_d rfl rfl (opr_move rfl rfl) ?_
  refine at_d rfl rfl (opr_eq (opr_and64 (b := 0) rfl rfl rfl (Nat.mod_lt _ (by decide)) (by decide)) (u64_eq (Nat.and_zero _))) ?_
  refine at_d rfl rfl (opr_eq (opr_or64 rfl rfl rfl (Nat.mod_lt _ (by decide)) (by decide)) (u64_eq (Nat.or_zero _))) ?_
  refine at_d rfl rfl (opr_assign rfl rfl) ?_
  refine at_nil ?_
  refine at_then ?_
  refine at_seq ?_
  refine at_region ?_
  refine at_d rfl rfl (opr_move rfl rfl) ?_
  refine at_d rfl rfl (opr_move rfl rfl) ?_
  refine at_d rfl rfl (opr_andn0 rfl rfl rfl (Nat.mod_lt _ (by decide))) ?_
  refine at_d rfl rfl (opr_move rfl rfl) ?_
  refine at_d rfl rfl (opr_move rfl rfl) ?_
  refine at_d rfl rfl (opr_eq (opr_and64 (b := 0) rfl rfl rfl (Nat.mod_lt _ (by decide)) (by decide)) (u64_eq (Nat.and_zero _))) ?_
  refine at_d rfl rfl (opr_eq (opr_or64 rfl rfl rfl (Nat.mod_lt _ (by decide)) (by decide)) (u64_eq (Nat.or_zero _))) ?_
  refine at_d rfl rfl (opr_assign rfl rfl) ?_
  refine at_nil ?_
  refine at_then ?_
  refine at_seq ?_
  refine at_region ?_
  refine at_d rfl rfl (opr_move rfl rfl) ?_
  refine at_d rfl rfl (opr_move rfl rfl) ?_
  refine at_d rfl rfl (opr_andn0 rfl rfl rfl (Nat.mod_lt _ (by decide))) ?_
  refine at_d rfl rfl (opr_move rfl rfl) ?_
  refine at_d rfl rfl (opr_move rfl rfl) ?_
  refine at_d rfl rfl (opr_eq (opr_and64 (b := 0) rfl rfl rfl (Nat.mod_lt _ (by decide)) (by decide)) (u64_eq (Nat.and_zero _))) ?_
  refine at_d rfl rfl (opr_eq (opr_or64 rfl rfl rfl (Nat.mod_lt _ (by decide)) (by decide)) (u64_eq (Nat.or_zero _))) ?_
  refine at_d rfl rfl (opr_assign rfl rfl) ?_
  refine at_nil ?_
  refine at_then ?_
  refine at_seq ?_
  refine at_region ?_
  refine at_d rfl rfl (opr_move rfl rfl) ?_
  refine at_d rfl rfl (opr_move rfl rfl) ?_
  refine at_d rfl rfl (opr_andn0 rfl rfl rfl (Nat.mod_lt _ (by decide))) ?_
  refine at_d rfl rfl (opr_move rfl rfl) ?_
  refine at_d rfl rfl (opr_move rfl rfl) ?_
  refine at_d rfl rfl (opr_eq (opr_and64 (b := 0) rfl rfl rfl (Nat.mod_lt _ (by decide)) (by decide)) (u64_eq (Nat.and_zero _))) ?_
  refine at_d rfl rfl (opr_eq (opr_or64 rfl rfl rfl (Nat.mod_lt _ (by decide)) (by decide)) (u64_eq (Nat.or_zero _))) ?_
  refine at_d rfl rfl (opr_assign rfl rfl) ?_
  refine at_nil ?_
  refine at_then ?_
  refine at_seq ?_
  refine at_region ?_
  refine at_d rfl rfl (opr_move rfl rfl) ?_
  refine at_d rfl rfl (opr_move rfl rfl) ?_
  refine at_d rfl rfl (opr_andn0 rfl rfl rfl (Nat.mod_lt _ (by decide))) ?_
  refine at_d rfl rfl (opr_move rfl rfl) ?_
  refine at_d rfl rfl (opr_move rfl rfl) ?_
  refine at_d rfl rfl (opr_eq (opr_and64 (b := 0) rfl rfl rfl (Nat.mod_lt _ (by decide)) (by decide)) (u64_eq (Nat.and_zero _))) ?_
  refine at_d rfl rfl (opr_eq (opr_or64 rfl rfl rfl (Nat.mod_lt _ (by decide)) (by decide)) (u64_eq (Nat.or_zero _))) ?_
  refine at_d rfl rfl (opr_assign rfl rfl) ?_
  refine at_nil ?_
  refine at_then ?_
  refine at_seq ?_
  refine at_region ?_
  refine at_d rfl rfl (opr_move rfl rfl) ?_
  refine at_d rfl rfl (opr_move rfl rfl) ?_
  refine at_d rfl rfl (opr_andn0 rfl rfl rfl (Nat.mod_lt _ (by decide))) ?_
  refine at_d rfl rfl (opr_move rfl rfl) ?_
  refine at_d rfl rfl (opr_move rfl rfl) ?_
  refine at_d rfl rfl (opr_eq (opr_and64 (b := 0) rfl rfl rfl (Nat.mod_lt _ (by decide)) (by decide)) (u64_eq (Nat.and_zero _))) ?_
  refine at_d rfl rfl (opr_eq (opr_or64 rfl rfl rfl (Nat.mod_lt _ (by decide)) (by decide)) (u64_eq (Nat.or_zero _))) ?_
  refine at_d rfl rfl (opr_assign rfl rfl) ?_
  refine at_nil ?_
  refine at_then ?_
  refine at_seq ?_
  refine at_region ?_
  refine at_d rfl rfl (opr_move rfl rfl) ?_
  refine at_d rfl rfl (opr_move rfl rfl) ?_
  refine at_d rfl rfl (opr_andn0 rfl rfl rfl (Nat.mod_lt _ (by decide))) ?_
  refine at_d rfl rfl (opr_move rfl rfl) ?_
  refine at_d rfl rfl (opr_move rfl rfl) ?_
  refine at_d rfl rfl (opr_eq (opr_and64 (b := 0) rfl rfl rfl (Nat.mod_lt _ (by decide)) (by decide)) (u64_eq (Nat.and_zero _))) ?_
  refine at_d rfl rfl (opr_eq (opr_or64 rfl rfl rfl (Nat.mod_lt _ (by decide)) (by decide)) (u64_eq (Nat.or_zero _))) ?_
  refine at_d rfl rfl (opr_assign rfl rfl) ?_
  refine at_nil ?_
  refine at_then ?_
  refine at_seq ?_
  refine at_draw (by kernel_rfl) (by kernel_rfl) (by kernel_rfl) (List.cons_ne_nil _ _) ?_
  refine dr_op rfl rfl (opr_load0 rfl rfl Try.underlying34 rfl size34) ?_
  refine dr_op rfl rfl (opr_move rfl rfl) ?_
  refine dr_op rfl rfl (opr_nilCheck rfl rfl) ?_
  refine dr_op rfl rfl (opr_slice (a := 0) (b := 8) (off' := ox) rfl rfl rfl rfl Try.underlying29 (by decide) (by decide) (by decide) size5 rfl) ?_
  refine dr_op rfl rfl (opr_move rfl rfl) ?_
  refine dr_last rfl rfl (opr_call rfl rfl rfl Try.func14 (by kernel_rfl) rfl (putUint64_ct hx (Nat.le_trans (by omega) hle) (Nat.mod_lt _ (by decide)) (by decide))) ?_
  refine at_then ?_
  refine at_seq ?_
  refine at_draw (by kernel_rfl) (by kernel_rfl) (by kernel_rfl) (List.cons_ne_nil _ _) ?_
  refine dr_op rfl rfl (opr_load0 rfl rfl Try.underlying34 rfl size34) ?_
  refine dr_op rfl rfl (opr_move rfl rfl) ?_
  refine dr_op rfl rfl (opr_nilCheck rfl rfl) ?_
  refine dr_op rfl rfl (opr_slice (a := 8) (b := 16) (off' := ox + 8) rfl rfl rfl rfl Try.underlying29 (by decide) (by decide) (by decide) size5 rfl) ?_
  refine dr_op rfl rfl (opr_move rfl rfl) ?_
  refine dr_last rfl rfl (opr_call rfl rfl rfl Try.func14 (by kernel_rfl) rfl (putUint64_ct (get_set hx) (Nat.le_trans (by omega) (ple hle (by omega))) (Nat.mod_lt _ (by decide)) (by decide))) ?_
  refine at_then ?_
  refine at_seq ?_
  refine at_draw (by kernel_rfl) (by kernel_rfl) (by kernel_rfl) (List.cons_ne_nil _ _) ?_
  refine dr_op rfl rfl (opr_load0 rfl rfl Try.underlying34 rfl size34) ?_
  refine dr_op rfl rfl (opr_move rfl rfl) ?_
  refine dr_op rfl rfl (opr_nilCheck rfl rfl) ?_
  refine dr_op rfl rfl (opr_slice (a := 16) (b := 24) (off' := ox + 16) rfl rfl rfl rfl Try.underlying29 (by decide) (by decide) (by decide) size5 rfl) ?_
  refine dr_op rfl rfl (opr_move rfl rfl) ?_
  refine dr_last rfl rfl (opr_call rfl rfl rfl Try.func14 (by kernel_rfl) rfl (putUint64_ct (get_set (get_set hx)) (Nat.le_trans (by omega) (ple (ple hle (by omega)) (by omega))) (Nat.mod_lt _ (by decide)) (by decide))) ?_
  refine at_then ?_
  refine at_seq ?_
  refine at_draw (by kernel_rfl) (by kernel_rfl) (by kernel_rfl) (List.cons_ne_nil _ _) ?_
  refine dr_op rfl rfl (opr_load0 rfl rfl Try.underlying34 rfl size34) ?_
  refine dr_op rfl rfl (opr_move rfl rfl) ?_
  refine dr_op rfl rfl (opr_nilCheck rfl rfl) ?_
  refine dr_op rfl rfl (opr_slice (a := 24) (b := 32) (off' := ox + 24) rfl rfl rfl rfl Try.underlying29 (by decide) (by decide) (by decide) size5 rfl) ?_
  refine dr_op rfl rfl (opr_move rfl rfl) ?_
  refine dr_last rfl rfl (opr_call rfl rfl rfl Try.func14 (by kernel_rfl) rfl (putUint64_ct (get_set (get_set (get_set hx))) (Nat.le_trans (by omega) (ple (ple (ple hle (by omega)) (by omega)) (by omega))) (Nat.mod_lt _ (by decide)) (by decide))) ?_
  refine at_then ?_
  refine at_seq ?_
  refine at_draw (by kernel_rfl) (by kernel_rfl) (by kernel_rfl) (List.cons_ne_nil _ _) ?_
  refine dr_op rfl rfl (opr_load0 rfl rfl Try.underlying34 rfl size34) ?_
  refine dr_op rfl rfl (opr_move rfl rfl) ?_
  refine dr_op rfl rfl (opr_nilCheck rfl rfl) ?_
  refine dr_op rfl rfl (opr_slice (a := 32) (b := 40) (off' := ox + 32) rfl rfl rfl rfl Try.underlying29 (by decide) (by decide) (by decide) size5 rfl) ?_
  refine dr_op rfl rfl (opr_move rfl rfl) ?_
  refine dr_last rfl rfl (opr_call rfl rfl rfl Try.func14 (by kernel_rfl) rfl (putUint64_ct (get_set (get_set (get_set (get_set hx)))) (Nat.le_trans (by omega) (ple (ple (ple (ple hle (by omega)) (by omega)) (by omega)) (by omega))) (Nat.mod_lt _ (by decide)) (by decide))) ?_
  refine at_then ?_
  refine at_seq ?_
  refine at_draw (by kernel_rfl) (by kernel_rfl) (by kernel_rfl) (List.cons_ne_nil _ _) ?_
  refine dr_op rfl rfl (opr_load0 rfl rfl Try.underlying34 rfl size34) ?_
  refine dr_op rfl rfl (opr_move rfl rfl) ?_
  refine dr_op rfl rfl (opr_nilCheck rfl rfl) ?_
  refine dr_op rfl rfl (opr_slice (a := 40) (b := 48) (off' := ox + 40) rfl rfl rfl rfl Try.underlying29 (by decide) (by decide) (by decide) size5 rfl) ?_
  refine dr_op rfl rfl (opr_move rfl rfl) ?_
  refine dr_last rfl rfl (opr_call rfl rfl rfl Try.func14 (by kernel_rfl) rfl (putUint64_ct (get_set (get_set (get_set (get_set (get_set hx))))) (Nat.le_trans (by omega) (ple (ple (ple (ple (ple hle (by omega)) (by omega)) (by omega)) (by omega)) (by omega))) (Nat.mod_lt _ (by decide)) (by decide))) ?_
  refine at_then ?_
  refine at_draw (by kernel_rfl) (by kernel_rfl) (by kernel_rfl) (List.cons_ne_nil _ _) ?_
  refine dr_op rfl rfl (opr_load0 rfl rfl Try.underlying34 rfl size34) ?_
  refine dr_op rfl rfl (opr_move rfl rfl) ?_
  refine dr_op rfl rfl (opr_nilCheck rfl rfl) ?_
  refine dr_op rfl rfl (opr_slice (a := 48) (b := 56) (off' := ox + 48) rfl rfl rfl rfl Try.underlying29 (by decide) (by decide) (by decide) size5 rfl) ?_
  refine dr_op rfl rfl (opr_move rfl rfl) ?_
  refine dr_last rfl rfl (opr_call rfl rfl rfl Try.func14 (by kernel_rfl) rfl (putUint64_ct (get_set (get_set (get_set (get_set (get_set (get_set hx)))))) (Nat.le_trans (by omega) (ple (ple (ple (ple (ple (ple hle (by omega)) (by omega)) (by omega)) (by omega)) (by omega)) (by omega))) (Nat.mod_lt _ (by decide)) (by decide))) ?_
  exact done_of (res0 rfl) ⟨rfl, (put7 (List.getElem?_eq_some_iff.1 hkx).1 hox (Nat.mod_lt _ (by decide)) (Nat.mod_lt _ (by decide)) (Nat.mod_lt _ (by decide)) (Nat.mod_lt _ (by decide)) (Nat.mod_lt _ (by decide)) (Nat.mod_lt _ (by decide)) (Nat.mod_lt _ (by decide))).trans (congrArg (fun r => M.set ix ⟨gx, Tx, EE (lx.set kx r)⟩) (words7 ha))⟩ (List.Sublist.refl _)
theorem cmovGeneric1_ct {M : Mem} {ix iy gx gy Tx Ty kx ky ox oy a b : Nat} {lx ly : List Nat} (hx : M[ix]? = some ⟨gx, Tx, EE lx⟩) (hkx : lx[kx]? = some a) (hox : 56 * kx = ox) (hy : M[iy]? = some ⟨gy, Ty, EE ly⟩) (hky : ly[ky]? = some b) (hoy : 56 * ky = oy) (ha : a < RR) (hb : b < RR) : Ct Try.prog 12 #[.pointer (some ⟨gx, ox, none⟩), .pointer (some ⟨gy, oy, none⟩), .int .u64 1] M (Det (.tuple #[]) (M.set ix ⟨gx, Tx, EE (lx.set kx b)⟩)) := by
  have hle : ox + 56 ≤ (EE lx).length := by rw [EE_length]; have := (List.getElem?_eq_some_iff.1 hkx).1; omega
  have hle2 : oy + 56 ≤ (EE ly).length := by rw [EE_length]; have := (List.getElem?_eq_some_iff.1 hky).1; omega
  refine ct_of (vs := [.pointer (some ⟨gx, ox, none⟩), .pointer (some ⟨gy, oy, none⟩), .int .u64 1]) Try.func12 rfl Try.ntmps12 rfl fun w0 => ?_
  refine at_seq ?_
  refine at_region ?_
  refine at_d rfl rfl (opr_move rfl rfl) ?_
  refine at_d rfl rfl (opr_binOp (v := .int .u64 1) rfl rfl rfl (fun _ => rfl)) ?_
  refine at_d rfl rfl (opr_unOp (u := .int .u64 18446744073709551615) rfl rfl (fun _ => rfl)) ?_
  refine at_d rfl rfl (opr_assign rfl rfl) ?_
  refine at_nil ?_
  refine at_then ?_
  refine at_seq ?_
  refine at_draw (by kernel_rfl) (by kernel_rfl) (by kernel_rfl) (List.cons_ne_nil _ _) ?_
  refine dr_op rfl rfl (opr_load0 rfl rfl Try.underlying34 rfl size34) ?_
  refine dr_op rfl rfl (opr_move rfl rfl) ?_
  refine dr_op rfl rfl (opr_nilCheck rfl rfl) ?_
  refine dr_op rfl rfl (opr_slice (a := 0) (b := 8) (off' := ox) rfl rfl rfl rfl Try.underlying29 (by decide) (by decide) (by decide) size5 rfl) ?_
  refine dr_op rfl rfl (opr_call rfl rfl rfl Try.func13 (by kernel_rfl) rfl (uint64_ct (x := a / 256 ^ (8 * 0)) hx (EE_word hkx (i := 0) (by decide) (by omega)) (by decide))) ?_
  refine dr_last rfl rfl (opr_assign rfl rfl) ?_
  refine at_then ?_
  refine at_seq ?_
  refine at_draw (by kernel_rfl) (by kernel_rfl) (by kernel_rfl) (List.cons_ne_nil _ _) ?_
  refine dr_op rfl rfl (opr_load0 rfl rfl Try.underlying34 rfl size34) ?_
  refine dr_op rfl rfl (opr_move rfl rfl) ?_
  refine dr_op rfl rfl (opr_nilCheck rfl rfl) ?_
  refine dr_op rfl rfl (opr_slice (a := 8) (b := 16) (off' := ox + 8) rfl rfl rfl rfl Try.underlying29 (by decide) (by decide) (by decide) size5 rfl) ?_
  refine dr_op rfl rfl (opr_call rfl rfl rfl Try.func13 (by kernel_rfl) rfl (uint64_ct (x := a / 256 ^ (8 * 1)) hx (EE_word hkx (i := 1) (by decide) (by omega)) (by decide))) ?_
  refine dr_last rfl rfl (opr_assign rfl rfl) ?_
  refine at_then ?_
  refine at_seq ?_
  refine at_draw (by kernel_rfl) (by kernel_rfl) (by kernel_rfl) (List.cons_ne_nil _ _) ?_
  refine dr_op rfl rfl (opr_load0 rfl rfl Try.underlying34 rfl size34) ?_
  refine dr_op rfl rfl (opr_move rfl rfl) ?_
  refine dr_op rfl rfl (opr_nilCheck rfl rfl) ?_
  refine dr_op rfl rfl (opr_slice (a := 16) (b := 24) (off' := ox + 16) rfl rfl rfl rfl Try.underlying29 (by decide) (by decide) (by decide) size5 rfl) ?_
  refine dr_op rfl rfl (opr_call rfl rfl rfl Try.func13 (by kernel_rfl) rfl (uint64_ct (x := a / 256 ^ (8 * 2)) hx (EE_word hkx (i := 2) (by decide) (by omega)) (by decide))) ?_
  refine dr_last rfl rfl (opr_assign rfl rfl) ?_
  refine at_then ?_
  refine at_seq ?_
  refine at_draw (by kernel_rfl) (by kernel_rfl) (by kernel_rfl) (List.cons_ne_nil _ _) ?_
  refine dr_op rfl rfl (opr_load0 rfl rfl Try.underlying34 rfl size34) ?_
  refine dr_op rfl rfl (opr_move rfl rfl) ?_
  refine dr_op rfl rfl (opr_nilCheck rfl rfl) ?_
  refine dr_op rfl rfl (opr_slice (a := 24) (b := 32) (off' := ox + 24) rfl rfl rfl rfl Try.underlying29 (by decide) (by decide) (by decide) size5 rfl) ?_
  refine dr_op rfl rfl (opr_call rfl rfl rfl Try.func13 (by kernel_rfl) rfl (uint64_ct (x := a / 256 ^ (8 * 3)) hx (EE_word hkx (i := 3) (by decide) (by omega)) (by decide))) ?_
  refine dr_last rfl rfl (opr_assign rfl rfl) ?_
  refine at_then ?_
  refine at_seq ?_
  refine at_draw (by kernel_rfl) (by kernel_rfl) (by kernel_rfl) (List.cons_ne_nil _ _) ?_
  refine dr_op rfl rfl (opr_load0 rfl rfl Try.underlying34 rfl size34) ?_
  refine dr_op rfl rfl (opr_move rfl rfl) ?_
  refine dr_op rfl rfl (opr_nilCheck rfl rfl) ?_
  refine dr_op rfl rfl (opr_slice (a := 32) (b := 40) (off' := ox + 32) rfl rfl rfl rfl Try.underlying29 (by decide) (by decide) (by decide) size5 rfl) ?_
  refine dr_op rfl rfl (opr_call rfl rfl rfl Try.func13 (by kernel_rfl) rfl (uint64_ct (x := a / 256 ^ (8 * 4)) hx (EE_word hkx (i := 4) (by decide) (by omega)) (by decide))) ?_
  refine dr_last rfl rfl (opr_assign rfl rfl) ?_
  refine at_then ?_
  refine at_seq ?_
  refine at_draw (by kernel_rfl) (by kernel_rfl) (by kernel_rfl) (List.cons_ne_nil _ _) ?_
  refine dr_op rfl rfl (opr_load0 rfl rfl Try.underlying34 rfl size34) ?_
  refine dr_op rfl rfl (opr_move rfl rfl) ?_
  refine dr_op rfl rfl (opr_nilCheck rfl rfl) ?_
  refine dr_op rfl rfl (opr_slice (a := 40) (b := 48) (off' := ox + 40) rfl rfl rfl rfl Try.underlying29 (by decide) (by decide) (by decide) size5 rfl) ?_
  refine dr_op rfl rfl (opr_call rfl rfl rfl Try.func13 (by kernel_rfl) rfl (uint64_ct (x := a / 256 ^ (8 * 5)) hx (EE_word hkx (i := 5) (by decide) (by omega)) (by decide))) ?_
  refine dr_last rfl rfl (opr_assign rfl rfl) ?_
  refine at_then ?_
  refine at_seq ?_
  refine at_draw (by kernel_rfl) (by kernel_rfl) (by kernel_rfl) (List.cons_ne_nil _ _) ?_
  refine dr_op rfl rfl (opr_load0 rfl rfl Try.underlying34 rfl size34) ?_
  refine dr_op rfl rfl (opr_move rfl rfl) ?_
  refine dr_op rfl rfl (opr_nilCheck rfl rfl) ?_
  refine dr_op rfl rfl (opr_slice (a := 48) (b := 56) (off' := ox + 48) rfl rfl rfl rfl Try.underlying29 (by decide) (by decide) (by decide) size5 rfl) ?_
  refine dr_op rfl rfl (opr_call rfl rfl rfl Try.func13 (by kernel_rfl) rfl (uint64_ct (x := a / 256 ^ (8 * 6)) hx (EE_word hkx (i := 6) (by decide) (by omega)) (by decide))) ?_
  refine dr_last rfl rfl (opr_assign rfl rfl) ?_
  refine at_then ?_
  refine at_seq ?_
  refine at_draw (by kernel_rfl) (by kernel_rfl) (by kernel_rfl) (List.cons_ne_nil _ _) ?_
  refine dr_op rfl rfl (opr_load0 rfl rfl Try.underlying34 rfl size34) ?_
  refine dr_op rfl rfl (opr_move rfl rfl) ?_
  refine dr_op rfl rfl (opr_nilCheck rfl rfl) ?_
  refine dr_op rfl rfl (opr_slice (a := 0) (b := 8) (off' := oy) rfl rfl rfl rfl Try.underlying29 (by decide) (by decide) (by decide) size5 rfl) ?_
  refine dr_op rfl rfl (opr_call rfl rfl rfl Try.func13 (by kernel_rfl) rfl (uint64_ct (x := b / 256 ^ (8 * 0)) hy (EE_word hky (i := 0) (by decide) (by omega)) (by decide))) ?_
  refine dr_last rfl rfl (opr_assign rfl rfl) ?_
  refine at_then ?_
  refine at_seq ?_
  refine at_draw (by kernel_rfl) (by kernel_rfl) (by kernel_rfl) (List.cons_ne_nil _ _) ?_
  refine dr_op rfl rfl (opr_load0 rfl rfl Try.underlying34 rfl size34) ?_
  refine dr_op rfl rfl (opr_move rfl rfl) ?_
  refine dr_op rfl rfl (opr_nilCheck rfl rfl) ?_
  refine dr_op rfl rfl (opr_slice (a := 8) (b := 16) (off' := oy + 8) rfl rfl rfl rfl Try.underlying29 (by decide) (by decide) (by decide) size5 rfl) ?_
  refine dr_op rfl rfl (opr_call rfl rfl rfl Try.func13 (by kernel_rfl) rfl (uint64_ct (x := b / 256 ^ (8 * 1)) hy (EE_word hky (i := 1) (by decide) (by omega)) (by decide))) ?_
  refine dr_last rfl rfl (opr_assign rfl rfl) ?_
  refine at_then ?_
  refine at_seq ?_
  refine at_draw (by kernel_rfl) (by kernel_rfl) (by kernel_rfl) (List.cons_ne_nil _ _) ?_
  refine dr_op rfl rfl (opr_load0 rfl rfl Try.underlying34 rfl size34) ?_
  refine dr_op rfl rfl (opr_move rfl rfl) ?_
  refine dr_op rfl rfl (opr_nilCheck rfl rfl) ?_
  refine dr_op rfl rfl (opr_slice (a := 16) (b := 24) (off' := oy + 16) rfl rfl rfl rfl Try.underlying29 (by decide) (by decide) (by decide) size5 rfl) ?_
  refine dr_op rfl rfl (opr_call rfl rfl rfl Try.func13 (by kernel_rfl) rfl (uint64_ct (x := b / 256 ^ (8 * 2)) hy (EE_word hky (i := 2) (by decide) (by omega)) (by decide))) ?_
  refine dr_last rfl rfl (opr_assign rfl rfl) ?_
  refine at_then ?_
  refine at_seq ?_
  refine at_draw (by kernel_rfl) (by kernel_rfl) (by kernel_rfl) (List.cons_ne_nil _ _) ?_
  refine dr_op rfl rfl (opr_load0 rfl rfl Try.underlying34 rfl size34) ?_
  refine dr_op rfl rfl (opr_move rfl rfl) ?_
  refine dr_op rfl rfl (opr_nilCheck rfl rfl) ?_
  refine dr_op rfl rfl (opr_slice (a := 24) (b := 32) (off' := oy + 24) rfl rfl rfl rfl Try.underlying29 (by decide) (by decide) (by decide) size5 rfl) ?_
  refine dr_op rfl rfl (opr_call rfl rfl rfl Try.func13 (by kernel_rfl) rfl (uint64_ct (x := b / 256 ^ (8 * 3)) hy (EE_word hky (i := 3) (by decide) (by omega)) (by decide))) ?_
  refine dr_last rfl rfl (opr_assign rfl rfl) ?_
  refine at_then ?_
  refine at_seq ?_
  refine at_draw (by kernel_rfl) (by kernel_rfl) (by kernel_rfl) (List.cons_ne_nil _ _) ?_
  refine dr_op rfl rfl (opr_load0 rfl rfl Try.underlying34 rfl size34) ?_
  refine dr_op rfl rfl (opr_move rfl rfl) ?_
  refine dr_op rfl rfl (opr_nilCheck rfl rfl) ?_
  refine dr_op rfl rfl (opr_slice (a := 32) (b := 40) (off' := oy + 32) rfl rfl rfl rfl Try.underlying29 (by decide) (by decide) (by decide) size5 rfl) ?_
  refine dr_op rfl rfl (opr_call rfl rfl rfl Try.func13 (by kernel_rfl) rfl (uint64_ct (x := b / 256 ^ (8 * 4)) hy (EE_word hky (i := 4) (by decide) (by omega)) (by decide))) ?_
  refine dr_last rfl rfl (opr_assign rfl rfl) ?_
  refine at_then ?_
  refine at_seq ?_
  refine at_draw (by kernel_rfl) (by kernel_rfl) (by kernel_rfl) (List.cons_ne_nil _ _) ?_
  refine dr_op rfl rfl (opr_load0 rfl rfl Try.underlying34 rfl size34) ?_
  refine dr_op rfl rfl (opr_move rfl rfl) ?_
  refine dr_op rfl rfl (opr_nilCheck rfl rfl) ?_
  refine dr_op rfl rfl (opr_slice (a := 40) (b := 48) (off' := oy + 40) rfl rfl rfl rfl Try.underlying29 (by decide) (by decide) (by decide) size5 rfl) ?_
  refine dr_op rfl rfl (opr_call rfl rfl rfl Try.func13 (by kernel_rfl) rfl (uint64_ct (x := b / 256 ^ (8 * 5)) hy (EE_word hky (i := 5) (by decide) (by omega)) (by decide))) ?_
  refine dr_last rfl rfl (opr_assign rfl rfl) ?_
  refine at_then ?_
  refine at_seq ?_
  refine at_draw (by kernel_rfl) (by kernel_rfl) (by kernel_rfl) (List.cons_ne_nil _ _) ?_
  refine dr_op rfl rfl (opr_load0 rfl rfl Try.underlying34 rfl size34) ?_
  refine dr_op rfl rfl (opr_move rfl rfl) ?_
  refine dr_op rfl rfl (opr_nilCheck rfl rfl) ?_
  refine dr_op rfl rfl (opr_slice (a := 48) (b := 56) (off' := oy + 48) rfl rfl rfl rfl Try.underlying29 (by decide) (by decide) (by decide) size5 rfl) ?_
  refine dr_op rfl rfl (opr_call rfl rfl rfl Try.func13 (by kernel_rfl) rfl (uint64_ct (x := b / 256 ^ (8 * 6)) hy (EE_word hky (i := 6) (by decide) (by omega)) (by decide))) ?_
  refine dr_last rfl rfl (opr_assign rfl rfl) ?_
  refine at_then ?_
  refine at_seq ?_
  refine at_region ?_
  refine at_d rfl rfl (opr_move rfl rfl) ?_
  refine at_d rfl rfl (opr_move rfl rfl) ?_
  refine at_d rfl rfl (opr_andn1 rfl rfl rfl) ?_
  refine at_d rfl rfl (opr_move rfl rfl) ?_
  refine at_d rfl rfl (opr_move rfl rfl) ?_
  refine at_d rfl rfl (opr_eq (opr_and64 (b := 18446744073709551615) rfl rfl rfl (Nat.mod_lt _ (by decide)) (by decide)) (u64_eq (and_ones (Nat.mod_lt _ (by decide))))) ?_
  refine at_d rfl rfl (opr_eq (opr_or64 rfl rfl rfl (by decide) (Nat.mod_lt _ (by decide))) (u64_eq (Nat.zero_or _))) ?_
  refine at_d rfl rfl (opr_assign rfl rfl) ?_
  refine at_nil ?_
  refine at_then ?_
  refine at_seq ?_
  refine at_region ?_
  refine at_d rfl rfl (opr_move rfl rfl) ?_
  refine at_d rfl rfl (opr_move rfl rfl) ?_
  refine at_d rfl rfl (opr_andn1 rfl rfl rfl) ?_
  refine at_d rfl rfl (opr_move rfl rfl) ?_
  refine at_d rfl rfl (opr_move rfl rfl) ?_
  refine at_d rfl rfl (opr_eq (opr_and64 (b := 18446744073709551615) rfl rfl rfl (Nat.mod_lt _ (by decide)) (by decide)) (u64_eq (and_ones (Nat.mod_lt _ (by decide))))) ?_
  refine at_d rfl rfl (opr_eq (opr_or64 rfl rfl rfl (by decide) (Nat.mod_lt _ (by decide))) (u64_eq (Nat.zero_or _))) ?_
  refine at_d rfl rfl (opr_assign rfl rfl) ?_
  refine at_nil ?_
  refine at_then ?_
  refine at_seq ?_
  refine at_region ?_
  refine at_d rfl rfl (opr_move rfl rfl) ?_
  refine at_d rfl rfl (opr_move rfl rfl) ?_
  refine at_d rfl rfl (opr_andn1 rfl rfl rfl) ?_
  refine at_d rfl rfl (opr_move rfl rfl) ?_
  refine at_d rfl rfl (opr_move rfl rfl) ?_
  refine at_d rfl rfl (opr_eq (opr_and64 (b := 18446744073709551615) rfl rfl rfl (Nat.mod_lt _ (by decide)) (by decide)) (u64_eq (and_ones (Nat.mod_lt _ (by decide))))) ?_
  refine at_d rfl rfl (opr_eq (opr_or64 rfl rfl rfl (by decide) (Nat.mod_lt _ (by decide))) (u64_eq (Nat.zero_or _))) ?_
  refine at_d rfl rfl (opr_assign rfl rfl) ?_
  refine at_nil ?_
  refine at_then ?_
  refine at_seq ?_
  refine at_region ?_
  refine at_d rfl rfl (opr_move rfl rfl) ?_
  refine at_d rfl rfl (opr_move rfl rfl) ?_
  refine at_d rfl rfl (opr_andn1 rfl rfl rfl) ?_
  refine at_d rfl rfl (opr_move rfl rfl) ?_
  refine at_d rfl rfl (opr_move rfl rfl) ?_
  refine at_d rfl rfl (opr_eq (opr_and64 (b := 18446744073709551615) rfl rfl rfl (Nat.mod_lt _ (by decide)) (by decide)) (u64_eq (and_ones (Nat.mod_lt _ (by decide))))) ?_
  refine at_d rfl rfl (opr_eq (opr_or64 rfl rfl rfl (by decide) (Nat.mod_lt _ (by decide))) (u64_eq (Nat.zero_or _))) ?_
  refine at_d rfl rfl (opr_assign rfl rfl) ?_
  refine at_nil ?_
  refine at_then ?_
  refine at_seq ?_
  refine at_region ?_
  refine at_d rfl rfl (opr_move rfl rfl) ?_
  refine at_d rfl rfl (opr_move rfl rfl) ?_
  refine at_d rfl rfl (opr_andn1 rfl rfl rfl) ?_
  refine at_d rfl rfl (opr_move rfl rfl) ?_
  refine at_d rfl rfl (opr_move rfl rfl) ?_
  refine at_d rfl rfl (opr_eq (opr_and64 (b := 18446744073709551615) rfl rfl rfl (Nat.mod_lt _ (by decide)) (by decide)) (u64_eq (and_ones (Nat.mod_lt _ (by decide))))) ?_
  refine at_d rfl rfl (opr_eq (opr_or64 rfl rfl rfl (by decide) (Nat.mod_lt _ (by decide))) (u64_eq (Nat.zero_or _))) ?_
  refine at_d rfl rfl (opr_assign rfl rfl) ?_
  refine at_nil ?_
  refine at_then ?_
  refine at_seq ?_
  refine at_region ?_
  refine at_d rfl rfl (opr_move rfl rfl) ?_
  refine at_d rfl rfl (opr_move rfl rfl) ?_
  refine at_d rfl rfl (opr_andn1 rfl rfl rfl) ?_
  refine at_d rfl rfl (opr_move rfl rfl) ?_
  refine at_d rfl rfl (opr_move rfl rfl) ?_
  refine at_d rfl rfl (opr_eq (opr_and64 (b := 18446744073709551615) rfl rfl rfl (Nat.mod_lt _ (by decide)) (by decide)) (u64_eq (and_ones (Nat.mod_lt _ (by decide))))) ?_
  refine at_d rfl rfl (opr_eq (opr_or64 rfl rfl rfl (by decide) (Nat.mod_lt _ (by decide))) (u64_eq (Nat.zero_or _))) ?_
  refine at_d rfl rfl (opr_assign rfl rfl) ?_
  refine at_nil ?_
  refine at_then ?_
  refine at_seq ?_
  refine at_region ?_
  refine at_d rfl rfl (opr_move rfl rfl) ?_
  refine at_d rfl rfl (opr_move rfl rfl) ?_
  refine at_d rfl rfl (opr_andn1 rfl rfl rfl) ?_
  refine at_d rfl rfl (opr_move rfl rfl) ?_
  refine at_d rfl rfl (opr_move rfl rfl) ?_
  refine at_d rfl rfl (opr_eq (opr_and64 (b := 18446744073709551615) rfl rfl rfl (Nat.mod_lt _ (by decide)) (by decide)) (u64_eq (and_ones (Nat.mod_lt _ (by decide))))) ?_
  refine at_d rfl rfl (opr_eq (opr_or64 rfl rfl rfl (by decide) (Nat.mod_lt _ (by decide))) (u64_eq (Nat.zero_or _))) ?_
  refine at_d rfl rfl (opr_assign rfl rfl) ?_
  refine at_nil ?_
  refine at_then ?_
  refine at_seq ?_
  refine at_draw (by kernel_rfl) (by kernel_rfl) (by kernel_rfl) (List.cons_ne_nil _ _) ?_
  refine dr_op rfl rfl (opr_load0 rfl rfl Try.underlying34 rfl size34) ?_
  refine dr_op rfl rfl (opr_move rfl rfl) ?_
  refine dr_op rfl rfl (opr_nilCheck rfl rfl) ?_
  refine dr_op rfl rfl (opr_slice (a := 0) (b := 8) (off' := ox) rfl rfl rfl rfl Try.underlying29 (by decide) (by decide) (by decide) size5 rfl) ?_
  refine dr_op rfl rfl (opr_move rfl rfl) ?_
  refine dr_last rfl rfl (opr_call rfl rfl rfl Try.func14 (by kernel_rfl) rfl (putUint64_ct hx (Nat.le_trans (by omega) hle) (Nat.mod_lt _ (by decide)) (by decide))) ?_
  refine at_then ?_
  refine at_seq ?_
  refine at_draw (by kernel_rfl) (by kernel_rfl) (by kernel_rfl) (List.cons_ne_nil _ _) ?_
  refine dr_op rfl rfl (opr_load0 rfl rfl Try.underlying34 rfl size34) ?_
  refine dr_op rfl rfl (opr_move rfl rfl) ?_
  refine dr_op rfl rfl (opr_nilCheck rfl rfl) ?_
  refine dr_op rfl rfl (opr_slice (a := 8) (b := 16) (off' := ox + 8) rfl rfl rfl rfl Try.underlying29 (by decide) (by decide) (by decide) size5 rfl) ?_
  refine dr_op rfl rfl (opr_move rfl rfl) ?_
  refine dr_last rfl rfl (opr_call rfl rfl rfl Try.func14 (by kernel_rfl) rfl (putUint64_ct (get_set hx) (Nat.le_trans (by omega) (ple hle (by omega))) (Nat.mod_lt _ (by decide)) (by decide))) ?_
  refine at_then ?_
  refine at_seq ?_
  refine at_draw (by kernel_rfl) (by kernel_rfl) (by kernel_rfl) (List.cons_ne_nil _ _) ?_
  refine dr_op rfl rfl (opr_load0 rfl rfl Try.underlying34 rfl size34) ?_
  refine dr_op rfl rfl (opr_move rfl rfl) ?_
  refine dr_op rfl rfl (opr_nilCheck rfl rfl) ?_
  refine dr_op rfl rfl (opr_slice (a := 16) (b := 24) (off' := ox + 16) rfl rfl rfl rfl Try.underlying29 (by decide) (by decide) (by decide) size5 rfl) ?_
  refine dr_op rfl rfl (opr_move rfl rfl) ?_
  refine dr_last rfl rfl (opr_call rfl rfl rfl Try.func14 (by kernel_rfl) rfl (putUint64_ct (get_set (get_set hx)) (Nat.le_trans (by omega) (ple (ple hle (by omega)) (by omega))) (Nat.mod_lt _ (by decide)) (by decide))) ?_
  refine at_then ?_
  refine at_seq ?_
  refine at_draw (by kernel_rfl) (by kernel_rfl) (by kernel_rfl) (List.cons_ne_nil _ _) ?_
  refine dr_op rfl rfl (opr_load0 rfl rfl Try.underlying34 rfl size34) ?_
  refine dr_op rfl rfl (opr_move rfl rfl) ?_
  refine dr_op rfl rfl (opr_nilCheck rfl rfl) ?_
  refine dr_op rfl rfl (opr_slice (a := 24) (b := 32) (off' := ox + 24) rfl rfl rfl rfl Try.underlying29 (by decide) (by decide) (by decide) size5 rfl) ?_
  refine dr_op rfl rfl (opr_move rfl rfl) ?_
  refine dr_last rfl rfl (opr_call rfl rfl rfl Try.func14 (by kernel_rfl) rfl (putUint64_ct (get_set (get_set (get_set hx))) (Nat.le_trans (by omega) (ple (ple (ple hle (by omega)) (by omega)) (by omega))) (Nat.mod_lt _ (by decide)) (by decide))) ?_
  refine at_then ?_
  refine at_seq ?_
  refine at_draw (by kernel_rfl) (by kernel_rfl) (by kernel_rfl) (List.cons_ne_nil _ _) ?_
  refine dr_op rfl rfl (opr_load0 rfl rfl Try.underlying34 rfl size34) ?_
  refine dr_op rfl rfl (opr_move rfl rfl) ?_
  refine dr_op rfl rfl (opr_nilCheck rfl rfl) ?_
  refine dr_op rfl rfl (opr_slice (a := 32) (b := 40) (off' := ox + 32) rfl rfl rfl rfl Try.underlying29 (by decide) (by decide) (by decide) size5 rfl) ?_
  refine dr_op rfl rfl (opr_move rfl rfl) ?_
  refine dr_last rfl rfl (opr_call rfl rfl rfl Try.func14 (by kernel_rfl) rfl (putUint64_ct (get_set (get_set (get_set (get_set hx)))) (Nat.le_trans (by omega) (ple (ple (ple (ple hle (by omega)) (by omega)) (by omega)) (by omega))) (Nat.mod_lt _ (by decide)) (by decide))) ?_
  refine at_then ?_
  refine at_seq ?_
  refine at_draw (by kernel_rfl) (by kernel_rfl) (by kernel_rfl) (List.cons_ne_nil _ _) ?_
  refine dr_op rfl rfl (opr_load0 rfl rfl Try.underlying34 rfl size34) ?_
  refine dr_op rfl rfl (opr_move rfl rfl) ?_
  refine dr_op rfl rfl (opr_nilCheck rfl rfl) ?_
  refine dr_op rfl rfl (opr_slice (a := 40) (b := 48) (off' := ox + 40) rfl rfl rfl rfl Try.underlying29 (by decide) (by decide) (by decide) size5 rfl) ?_
  refine dr_op rfl rfl (opr_move rfl rfl) ?_
  refine dr_last rfl rfl (opr_call rfl rfl rfl Try.func14 (by kernel_rfl) rfl (putUint64_ct (get_set (get_set (get_set (get_set (get_set hx))))) (Nat.le_trans (by omega) (ple (ple (ple (ple (ple hle (by omega)) (by omega)) (by omega)) (by omega)) (by omega))) (Nat.mod_lt _ (by decide)) (by decide))) ?_
  refine at_then ?_
  refine at_draw (by kernel_rfl) (by kernel_rfl) (by kernel_rfl) (List.cons_ne_nil _ _) ?_
  refine dr_op rfl rfl (opr_load0 rfl rfl Try.underlying34 rfl size34) ?_
  refine dr_op rfl rfl (opr_move rfl rfl) ?_
  refine dr_op rfl rfl (opr_nilCheck rfl rfl) ?_
  refine dr_op rfl rfl (opr_slice (a := 48) (b := 56) (off' := ox + 48) rfl rfl rfl rfl Try.underlying29 (by decide) (by decide) (by decide) size5 rfl) ?_
  refine dr_op rfl rfl (opr_move rfl rfl) ?_
  refine dr_last rfl rfl (opr_call rfl rfl rfl Try.func14 (by kernel_rfl) rfl (putUint64_ct (get_set (get_set (get_set (get_set (get_set (get_set hx)))))) (Nat.le_trans (by omega) (ple (ple (ple (ple (ple (ple hle (by omega)) (by omega)) (by omega)) (by omega)) (by omega)) (by omega))) (Nat.mod_lt _ (by decide)) (by decide))) ?_
  exact done_of (res0 rfl) ⟨rfl, (put7 (List.getElem?_eq_some_iff.1 hkx).1 hox (Nat.mod_lt _ (by decide)) (Nat.mod_lt _ (by decide)) (Nat.mod_lt _ (by decide)) (Nat.mod_lt _ (by decide)) (Nat.mod_lt _ (by decide)) (Nat.mod_lt _ (by decide)) (Nat.mod_lt _ (by decide))).trans (congrArg (fun r => M.set ix ⟨gx, Tx, EE (lx.set kx r)⟩) (words7 hb))⟩ (List.Sublist.refl _)
theorem Cmov_ct {t : Nat} (ht : t = 0 ∨ t = 1) {M : Mem} {ix iy gx gy Tx Ty kx ky ox oy a b : Nat} {lx ly : List Nat} (hx : M[ix]? = some ⟨gx, Tx, EE lx⟩) (hkx : lx[kx]? = some a) (hox : 56 * kx = ox) (hy : M[iy]? = some ⟨gy, Ty, EE ly⟩) (hky : ly[ky]? = some b) (hoy : 56 * ky = oy) (ha : a < RR) (hb : b < RR) : Ct Try.prog 8 #[.pointer (some ⟨gx, ox, none⟩), .pointer (some ⟨gy, oy, none⟩), .int .u64 (t : Int)] M (Det (.tuple #[]) (M.set ix ⟨gx, Tx, EE (lx.set kx (sel t a b))⟩)) := by
  rcases ht with rfl | rfl
  · exact Cmov_pass (cmov_pass (cmovGeneric0_ct hx hkx hox hy hky hoy ha hb) (fun _ _ h => h.1)) (fun _ _ h => h.1)
  · exact Cmov_pass (cmov_pass (cmovGeneric1_ct hx hkx hox hy hky hoy ha hb) (fun _ _ h => h.1)) (fun _ _ h => h.1)
theorem cswapGeneric0_ct {M : Mem} {ix iy gx gy Tx Ty kx ky ox oy a b : Nat} {lx ly : List Nat} (hx : M[ix]? = some ⟨gx, Tx, EE lx⟩) (hkx : lx[kx]? = some a) (hox : 56 * kx = ox) (hy : M[iy]? = some ⟨gy, Ty, EE ly⟩) (hky : ly[ky]? = some b) (hoy : 56 * ky = oy) (hne : ix ≠ iy) (ha : a < RR) (hb : b < RR) : Ct Try.prog 11 #[.pointer (some ⟨gx, ox, none⟩), .pointer (some ⟨gy, oy, none⟩), .int .u64 0] M (Det (.tuple #[]) ((M.set ix ⟨gx, Tx, EE (lx.set kx a)⟩).set iy ⟨gy, Ty, EE (ly.set ky b)⟩)) := by
  have hle : ox + 56 ≤ (EE lx).length := by rw [EE_length]; have := (List.getElem?_eq_some_iff.1 hkx).1; omega
  have hle2 : oy + 56 ≤ (EE ly).length := by rw [EE_length]; have := (List.getElem?_eq_some_iff.1 hky).1; omega
  refine ct_of (vs := [.pointer (some ⟨gx, ox, none⟩), .pointer (some ⟨gy, oy, none⟩), .int .u64 0]) Try.func11 rfl Try.ntmps11 rfl fun w0 => ?_
  refine at_seq ?_
  refine at_region ?_
  refine at_d rfl rfl (opr_move rfl rfl) ?_
  refine at_d rfl rfl (opr_binOp (v := .int .u64 0) rfl rfl rfl (fun _ => rfl)) ?_
  refine at_d rfl rfl (opr_unOp (u := .int .u64 0) rfl rfl (fun _ => rfl)) ?_
  refine at_d rfl rfl (opr_assign rfl rfl) ?_
  refine at_nil ?_
  refine at_then ?_
  refine at_seq ?_
  refine at_draw (by kernel_rfl) (by kernel_rfl) (by kernel_rfl) (List.cons_ne_nil _ _) ?_
  refine dr_op rfl rfl (opr_load0 rfl rfl Try.underlying34 rfl size34) ?_
  refine dr_op rfl rfl (opr_move rfl rfl) ?_
  refine dr_op rfl rfl (opr_nilCheck rfl rfl) ?_
  refine dr_op rfl rfl (opr_slice (a := 0) (b := 8) (off' := ox) rfl rfl rfl rfl Try.underlying29 (by decide) (by decide) (by decide) size5 rfl) ?_
  refine dr_op rfl rfl (opr_call rfl rfl rfl Try.func13 (by kernel_rfl) rfl (uint64_ct (x := a / 256 ^ (8 * 0)) hx (EE_word hkx (i := 0) (by decide) (by omega)) (by decide))) ?_
  refine dr_last rfl rfl (opr_assign rfl rfl) ?_
  refine at_then ?_
  refine at_seq ?_
  refine at_draw (by kernel_rfl) (by kernel_rfl) (by kernel_rfl) (List.cons_ne_nil _ _) ?_
  refine dr_op rfl rfl (opr_load0 rfl rfl Try.underlying34 rfl size34) ?_
  refine dr_op rfl rfl (opr_move rfl rfl) ?_
  refine dr_op rfl rfl (opr_nilCheck rfl rfl) ?_
  refine dr_op rfl rfl (opr_slice (a := 8) (b := 16) (off' := ox + 8) rfl rfl rfl rfl Try.underlying29 (by decide) (by decide) (by decide) size5 rfl) ?_
  refine dr_op rfl rfl (opr_call rfl rfl rfl Try.func13 (by kernel_rfl) rfl (uint64_ct (x := a / 256 ^ (8 * 1)) hx (EE_word hkx (i := 1) (by decide) (by omega)) (by decide))) ?_
  refine dr_last rfl rfl (opr_assign rfl rfl) ?_
  refine at_then ?_
  refine at_seq ?_
  refine at_draw (by kernel_rfl) (by kernel_rfl) (by kernel_rfl) (List.cons_ne_nil _ _) ?_
  refine dr_op rfl rfl (opr_load0 rfl rfl Try.underlying34 rfl size34) ?_
  refine dr_op rfl rfl (opr_move rfl rfl) ?_
  refine dr_op rfl rfl (opr_nilCheck rfl rfl) ?_
  refine dr_op rfl rfl (opr_slice (a := 16) (b := 24) (off' := ox + 16) rfl rfl rfl rfl Try.underlying29 (by decide) (by decide) (by decide) size5 rfl) ?_
  refine dr_op rfl rfl (opr_call rfl rfl rfl Try.func13 (by kernel_rfl) rfl (uint64_ct (x := a / 256 ^ (8 * 2)) hx (EE_word hkx (i := 2) (by decide) (by omega)) (by decide))) ?_
  refine dr_last rfl rfl (opr_assign rfl rfl) ?_
  refine at_then ?_
  refine at_seq ?_
  refine at_draw (by kernel_rfl) (by kernel_rfl) (by kernel_rfl) (List.cons_ne_nil _ _) ?_
  refine dr_op rfl rfl (opr_load0 rfl rfl Try.underlying34 rfl size34) ?_
  refine dr_op rfl rfl (opr_move rfl rfl) ?_
  refine dr_op rfl rfl (opr_nilCheck rfl rfl) ?_
  refine dr_op rfl rfl (opr_slice (a := 24) (b := 32) (off' := ox + 24) rfl rfl rfl rfl Try.underlying29 (by decide) (by decide) (by decide) size5 rfl) ?_
  refine dr_op rfl rfl (opr_call rfl rfl rfl Try.func13 (by kernel_rfl) rfl (uint64_ct (x := a / 256 ^ (8 * 3)) hx (EE_word hkx (i := 3) (by decide) (by omega)) (by decide))) ?_
  refine dr_last rfl rfl (opr_assign rfl rfl) ?_
  refine at_then ?_
  refine at_seq ?_
  refine at_draw (by kernel_rfl) (by kernel_rfl) (by kernel_rfl) (List.cons_ne_nil _ _) ?_
  refine dr_op rfl rfl (opr_load0 rfl rfl Try.underlying34 rfl size34) ?_
  refine dr_op rfl rfl (opr_move rfl rfl) ?_
  refine dr_op rfl rfl (opr_nilCheck rfl rfl) ?_
  refine dr_op rfl rfl (opr_slice (a := 32) (b := 40) (off' := ox + 32) rfl rfl rfl rfl Try.underlying29 (by decide) (by decide) (by decide) size5 rfl) ?_
  refine dr_op rfl rfl (opr_call rfl rfl rfl Try.func13 (by kernel_rfl) rfl (uint64_ct (x := a / 256 ^ (8 * 4)) hx (EE_word hkx (i := 4) (by decide) (by omega)) (by decide))) ?_
  refine dr_last rfl rfl (opr_assign rfl rfl) ?_
  refine at_then ?_
  refine at_seq ?_
  refine at_draw (by kernel_rfl) (by kernel_rfl) (by kernel_rfl) (List.cons_ne_nil _ _) ?_
  refine dr_op rfl rfl (opr_load0 rfl rfl Try.underlying34 rfl size34) ?_
  refine dr_op rfl rfl (opr_move rfl rfl) ?_
  refine dr_op rfl rfl (opr_nilCheck rfl rfl) ?_
  refine dr_op rfl rfl (opr_slice (a := 40) (b := 48) (off' := ox + 40) rfl rfl rfl rfl Try.underlying29 (by decide) (by decide) (by decide) size5 rfl) ?_
  refine dr_op rfl rfl (opr_call rfl rfl rfl Try.func13 (by kernel_rfl) rfl (uint64_ct (x := a / 256 ^ (8 * 5)) hx (EE_word hkx (i := 5) (by decide) (by omega)) (by decide))) ?_
  refine dr_last rfl rfl (opr_assign rfl rfl) ?_
  refine at_then ?_
  refine at_seq ?_
  refine at_draw (by kernel_rfl) (by kernel_rfl) (by kernel_rfl) (List.cons_ne_nil _ _) ?_
  refine dr_op rfl rfl (opr_load0 rfl rfl Try.underlying34 rfl size34) ?_
  refine dr_op rfl rfl (opr_move rfl rfl) ?_
  refine dr_op rfl rfl (opr_nilCheck rfl rfl) ?_
  refine dr_op rfl rfl (opr_slice (a := 48) (b := 56) (off' := ox + 48) rfl rfl rfl rfl Try.underlying29 (by decide) (by decide) (by decide) size5 rfl) ?_
  refine dr_op rfl rfl (opr_call rfl rfl rfl Try.func13 (by kernel_rfl) rfl (uint64_ct (x := a / 256 ^ (8 * 6)) hx (EE_word hkx (i := 6) (by decide) (by omega)) (by decide))) ?_
  refine dr_last rfl rfl (opr_assign rfl rfl) ?_
  refine at_then ?_
  refine at_seq ?_
  refine at_draw (by kernel_rfl) (by kernel_rfl) (by kernel_rfl) (List.cons_ne_nil _ _) ?_
  refine dr_op rfl rfl (opr_load0 rfl rfl Try.underlying34 rfl size34) ?_
  refine dr_op rfl rfl (opr_move rfl rfl) ?_
  refine dr_op rfl rfl (opr_nilCheck rfl rfl) ?_
  refine dr_op rfl rfl (opr_slice (a := 0) (b := 8) (off' := oy) rfl rfl rfl rfl Try.underlying29 (by decide) (by decide) (by decide) size5 rfl) ?_
  refine dr_op rfl rfl (opr_call rfl rfl rfl Try.func13 (by kernel_rfl) rfl (uint64_ct (x := b / 256 ^ (8 * 0)) hy (EE_word hky (i := 0) (by decide) (by omega)) (by decide))) ?_
  refine dr_last rfl rfl (opr_assign rfl rfl) ?_
  refine at_then ?_
  refine at_seq ?_
  refine at_draw (by kernel_rfl) (by kernel_rfl) (by kernel_rfl) (List.cons_ne_nil _ _) ?_
  refine dr_op rfl rfl (opr_load0 rfl rfl Try.underlying34 rfl size34) ?_
  refine dr_op rfl rfl (opr_move rfl rfl) ?_
  refine dr_op rfl rfl (opr_nilCheck rfl rfl) ?_
  refine dr_op rfl rfl (opr_slice (a := 8) (b := 16) (off' := oy + 8) rfl rfl rfl rfl Try.underlying29 (by decide) (by decide) (by decide) size5 rfl) ?_
  refine dr_op rfl rfl (opr_call rfl rfl rfl Try.func13 (by kernel_rfl) rfl (uint64_ct (x := b / 256 ^ (8 * 1)) hy (EE_word hky (i := 1) (by decide) (by omega)) (by decide))) ?_
  refine dr_last rfl rfl (opr_assign rfl rfl) ?_
  refine at_then ?_
  refine at_seq ?_
  refine at_draw (by kernel_rfl) (by kernel_rfl) (by kernel_rfl) (List.cons_ne_nil _ _) ?_
  refine dr_op rfl rfl (opr_load0 rfl rfl Try.underlying34 rfl size34) ?_
  refine dr_op rfl rfl (opr_move rfl rfl) ?_
  refine dr_op rfl rfl (opr_nilCheck rfl rfl) ?_
  refine dr_op rfl rfl (opr_slice (a := 16) (b := 24) (off' := oy + 16) rfl rfl rfl rfl Try.underlying29 (by decide) (by decide) (by decide) size5 rfl) ?_
  refine dr_op rfl rfl (opr_call rfl rfl rfl Try.func13 (by kernel_rfl) rfl (uint64_ct (x := b / 256 ^ (8 * 2)) hy (EE_word hky (i := 2) (by decide) (by omega)) (by decide))) ?_
  refine dr_last rfl rfl (opr_assign rfl rfl) ?_
  refine at_then ?_
  refine at_seq ?_
  refine at_draw (by kernel_rfl) (by kernel_rfl) (by kernel_rfl) (List.cons_ne_nil _ _) ?_
  refine dr_op rfl rfl (opr_load0 rfl rfl Try.underlying34 rfl size34) ?_
  refine dr_op rfl rfl (opr_move rfl rfl) ?_
  refine dr_op rfl rfl (opr_nilCheck rfl rfl) ?_
  refine dr_op rfl rfl (opr_slice (a := 24) (b := 32) (off' := oy + 24) rfl rfl rfl rfl Try.underlying29 (by decide) (by decide) (by decide) size5 rfl) ?_
  refine dr_op rfl rfl (opr_call rfl rfl rfl Try.func13 (by kernel_rfl) rfl (uint64_ct (x := b / 256 ^ (8 * 3)) hy (EE_word hky (i := 3) (by decide) (by omega)) (by decide))) ?_
  refine dr_last rfl rfl (opr_assign rfl rfl) ?_
  refine at_then ?_
  refine at_seq ?_
  refine at_draw (by kernel_rfl) (by kernel_rfl) (by kernel_rfl) (List.cons_ne_nil _ _) ?_
  refine dr_op rfl rfl (opr_load0 rfl rfl Try.underlying34 rfl size34) ?_
  refine dr_op rfl rfl (opr_move rfl rfl) ?_
  refine dr_op rfl rfl (opr_nilCheck rfl rfl) ?_
  refine dr_op rfl rfl (opr_slice (a := 32) (b := 40) (off' := oy + 32) rfl rfl rfl rfl Try.underlying29 (by decide) (by decide) (by decide) size5 rfl) ?_
  refine dr_op rfl rfl (opr_call rfl rfl rfl Try.func13 (by kernel_rfl) rfl (uint64_ct (x := b / 256 ^ (8 * 4)) hy (EE_word hky (i := 4) (by decide) (by omega)) (by decide))) ?_
  refine dr_last rfl rfl (opr_assign rfl rfl) ?_
  refine at_then ?_
  refine at_seq ?_
  refine at_draw (by kernel_rfl) (by kernel_rfl) (by kernel_rfl) (List.cons_ne_nil _ _) ?_
  refine dr_op rfl rfl (opr_load0 rfl rfl Try.underlying34 rfl size34) ?_
  refine dr_op rfl rfl (opr_move rfl rfl) ?_
  refine dr_op rfl rfl (opr_nilCheck rfl rfl) ?_
  refine dr_op rfl rfl (opr_slice (a := 40) (b := 48) (off' := oy + 40) rfl rfl rfl rfl Try.underlying29 (by decide) (by decide) (by decide) size5 rfl) ?_
  refine dr_op rfl rfl (opr_call rfl rfl rfl Try.func13 (by kernel_rfl) rfl (uint64_ct (x := b / 256 ^ (8 * 5)) hy (EE_word hky (i := 5) (by decide) (by omega)) (by decide))) ?_
  refine dr_last rfl rfl (opr_assign rfl rfl) ?_
  refine at_then ?_
  refine at_seq ?_
  refine at_draw (by kernel_rfl) (by kernel_rfl) (by kernel_rfl) (List.cons_ne_nil _ _) ?_
  refine dr_op rfl rfl (opr_load0 rfl rfl Try.underlying34 rfl size34) ?_
  refine dr_op rfl rfl (opr_move rfl rfl) ?_
  refine dr_op rfl rfl (opr_nilCheck rfl rfl) ?_
  refine dr_op rfl rfl (opr_slice (a := 48) (b := 56) (off' := oy + 48) rfl rfl rfl rfl Try.underlying29 (by decide) (by decide) (by decide) size5 rfl) ?_
  refine dr_op rfl rfl (opr_call rfl rfl rfl Try.func13 (by kernel_rfl) rfl (uint64_ct (x := b / 256 ^ (8 * 6)) hy (EE_word hky (i := 6) (by decide) (by omega)) (by decide))) ?_
  refine dr_last rfl rfl (opr_assign rfl rfl) ?_
  refine at_then ?_
  refine at_seq ?_
  refine at_region ?_
  refine at_d rfl rfl (opr_move rfl rfl) ?_
  refine at_d rfl rfl (opr_move rfl rfl) ?_
  refine at_d rfl rfl (opr_move rfl rfl) ?_
  refine at_d rfl rfl (opr_xor64 rfl rfl rfl (Nat.mod_lt _ (by decide)) (Nat.mod_lt _ (by decide))) ?_
  refine at_d rfl rfl (opr_eq (opr_and64 (a := 0) rfl rfl rfl (by decide) (Nat.xor_lt_two_pow (n := 64) (Nat.mod_lt _ (by decide)) (Nat.mod_lt _ (by decide)))) (u64_eq (Nat.zero_and _))) ?_
  refine at_d rfl rfl (opr_assign rfl rfl) ?_
  refine at_nil ?_
  refine at_then ?_
  refine at_seq ?_
  refine at_region ?_
  refine at_d rfl rfl (opr_move rfl rfl) ?_
  refine at_d rfl rfl (opr_move rfl rfl) ?_
  refine at_d rfl rfl (opr_move rfl rfl) ?_
  refine at_d rfl rfl (opr_xor64 rfl rfl rfl (Nat.mod_lt _ (by decide)) (Nat.mod_lt _ (by decide))) ?_
  refine at_d rfl rfl (opr_eq (opr_and64 (a := 0) rfl rfl rfl (by decide) (Nat.xor_lt_two_pow (n := 64) (Nat.mod_lt _ (by decide)) (Nat.mod_lt _ (by decide)))) (u64_eq (Nat.zero_and _))) ?_
  refine at_d rfl rfl (opr_assign rfl rfl) ?_
  refine at_nil ?_
  refine at_then ?_
  refine at_seq ?_
  refine at_region ?_
  refine at_d rfl rfl (opr_move rfl rfl) ?_
  refine at_d rfl rfl (opr_move rfl rfl) ?_
  refine at_d rfl rfl (opr_move rfl rfl) ?_
  refine at_d rfl rfl (opr_xor64 rfl rfl rfl (Nat.mod_lt _ (by decide)) (Nat.mod_lt _ (by decide))) ?_
  refine at_d rfl rfl (opr_eq (opr_and64 (a := 0) rfl rfl rfl (by decide) (Nat.xor_lt_two_pow (n := 64) (Nat.mod_lt _ (by decide)) (Nat.mod_lt _ (by decide)))) (u64_eq (Nat.zero_and _))) ?_
  refine at_d rfl rfl (opr_assign rfl rfl) ?_
  refine at_nil ?_
  refine at_then ?_
  refine at_seq ?_
  refine at_region ?_
  refine at_d rfl rfl (opr_move rfl rfl) ?_
  refine at_d rfl rfl (opr_move rfl rfl) ?_
  refine at_d rfl rfl (opr_move rfl rfl) ?_
  refine at_d rfl rfl (opr_xor64 rfl rfl rfl (Nat.mod_lt _ (by decide)) (Nat.mod_lt _ (by decide))) ?_
  refine at_d rfl rfl (opr_eq (opr_and64 (a := 0) rfl rfl rfl (by decide) (Nat.xor_lt_two_pow (n := 64) (Nat.mod_lt _ (by decide)) (Nat.mod_lt _ (by decide)))) (u64_eq (Nat.zero_and _))) ?_
  refine at_d rfl rfl (opr_assign rfl rfl) ?_
  refine at_nil ?_
  refine at_then ?_
  refine at_seq ?_
  refine at_region ?_
  refine at_d rfl rfl (opr_move rfl rfl) ?_
  refine at_d rfl rfl (opr_move rfl rfl) ?_
  refine at_d rfl rfl (opr_move rfl rfl) ?_
  refine at_d rfl rfl (opr_xor64 rfl rfl rfl (Nat.mod_lt _ (by decide)) (Nat.mod_lt _ (by decide))) ?_
  refine at_d rfl rfl (opr_eq (opr_and64 (a := 0) rfl rfl rfl (by decide) (Nat.xor_lt_two_pow (n := 64) (Nat.mod_lt _ (by decide)) (Nat.mod_lt _ (by decide)))) (u64_eq (Nat.zero_and _))) ?_
  refine at_d rfl rfl (opr_assign rfl rfl) ?_
  refine at_nil ?_
  refine at_then ?_
  refine at_seq ?_
  refine at_region ?_
  refine at_d rfl rfl (opr_move rfl rfl) ?_
  refine at_d rfl rfl (opr_move rfl rfl) ?_
  refine at_d rfl rfl (opr_move rfl rfl) ?_
  refine at_d rfl rfl (opr_xor64 rfl rfl rfl (Nat.mod_lt _ (by decide)) (Nat.mod_lt _ (by decide))) ?_
  refine at_d rfl rfl (opr_eq (opr_and64 (a := 0) rfl rfl rfl (by decide) (Nat.xor_lt_two_pow (n := 64) (Nat.mod_lt _ (by decide)) (Nat.mod_lt _ (by decide)))) (u64_eq (Nat.zero_and _))) ?_
  refine at_d rfl rfl (opr_assign rfl rfl) ?_
  refine at_nil ?_
  refine at_then ?_
  refine at_seq ?_
  refine at_region ?_
  refine at_d rfl rfl (opr_move rfl rfl) ?_
  refine at_d rfl rfl (opr_move rfl rfl) ?_
  refine at_d rfl rfl (opr_move rfl rfl) ?_
  refine at_d rfl rfl (opr_xor64 rfl rfl rfl (Nat.mod_lt _ (by decide)) (Nat.mod_lt _ (by decide))) ?_
  refine at_d rfl rfl (opr_eq (opr_and64 (a := 0) rfl rfl rfl (by decide) (Nat.xor_lt_two_pow (n := 64) (Nat.mod_lt _ (by decide)) (Nat.mod_lt _ (by decide)))) (u64_eq (Nat.zero_and _))) ?_
  refine at_d rfl rfl (opr_assign rfl rfl) ?_
  refine at_nil ?_
  refine at_then ?_
  refine at_seq ?_
  refine at_region ?_
  refine at_d rfl rfl (opr_move rfl rfl) ?_
  refine at_d rfl rfl (opr_move rfl rfl) ?_
  refine at_d rfl rfl (opr_eq (opr_xor64 rfl rfl rfl (Nat.mod_lt _ (by decide)) (by decide)) (u64_eq (Nat.xor_zero _))) ?_
  refine at_d rfl rfl (opr_assign rfl rfl) ?_
  refine at_nil ?_
  refine at_then ?_
  refine at_seq ?_
  refine at_region ?_
  refine at_d rfl rfl (opr_move rfl rfl) ?_
  refine at_d rfl rfl (opr_move rfl rfl) ?_
  refine at_d rfl rfl (opr_eq (opr_xor64 rfl rfl rfl (Nat.mod_lt _ (by decide)) (by decide)) (u64_eq (Nat.xor_zero _))) ?_
  refine at_d rfl rfl (opr_assign rfl rfl) ?_
  refine at_nil ?_
  refine at_then ?_
  refine at_seq ?_
  refine at_region ?_
  refine at_d rfl rfl (opr_move rfl rfl) ?_
  refine at_d rfl rfl (opr_move rfl rfl) ?_
  refine at_d rfl rfl (opr_eq (opr_xor64 rfl rfl rfl (Nat.mod_lt _ (by decide)) (by decide)) (u64_eq (Nat.xor_zero _))) ?_
  refine at_d rfl rfl (opr_assign rfl rfl) ?_
  refine at_nil ?_
  refine at_then ?_
  refine at_seq ?_
  refine at_region ?_
  refine at_d rfl rfl (opr_move rfl rfl) ?_
  refine at_d rfl rfl (opr_move rfl rfl) ?_
  refine at_d rfl rfl (opr_eq (opr_xor64 rfl rfl rfl (Nat.mod_lt _ (by decide)) (by decide)) (u64_eq (Nat.xor_zero _))) ?_
  refine at_d rfl rfl (opr_assign rfl rfl) ?_
  refine at_nil ?_
  refine at_then ?_
  refine at_seq ?_
  refine at_region ?_
  refine at_d rfl rfl (opr_move rfl rfl) ?_
  refine at_d rfl rfl (opr_move rfl rfl) ?_
  refine at_d rfl rfl (opr_eq (opr_xor64 rfl rfl rfl (Nat.mod_lt _ (by decide)) (by decide)) (u64_eq (Nat.xor_zero _))) ?_
  refine at_d rfl rfl (opr_assign rfl rfl) ?_
  refine at_nil ?_
  refine at_then ?_
  refine at_seq ?_
  refine at_region ?_
  refine at_d rfl rfl (opr_move rfl rfl) ?_
  refine at_d rfl rfl (opr_move rfl rfl) ?_
  refine at_d rfl rfl (opr_eq (opr_xor64 rfl rfl rfl (Nat.mod_lt _ (by decide)) (by decide)) (u64_eq (Nat.xor_zero _))) ?_
  refine at_d rfl rfl (opr_assign rfl rfl) ?_
  refine at_nil ?_
  refine at_then ?_
  refine at_seq ?_
  refine at_region ?_
  refine at_d rfl rfl (opr_move rfl rfl) ?_
  refine at_d rfl rfl (opr_move rfl rfl) ?_
  refine at_d rfl rfl (opr_eq (opr_xor64 rfl rfl rfl (Nat.mod_lt _ (by decide)) (by decide)) (u64_eq (Nat.xor_zero _))) ?_
  refine at_d rfl rfl (opr_assign rfl rfl) ?_
  refine at_nil ?_
  refine at_then ?_
  refine at_seq ?_
  refine at_region ?_
  refine at_d rfl rfl (opr_move rfl rfl) ?_
  refine at_d rfl rfl (opr_move rfl rfl) ?_
  refine at_d rfl rfl (opr_eq (opr_xor64 rfl rfl rfl (Nat.mod_lt _ (by decide)) (by decide)) (u64_eq (Nat.xor_zero _))) ?_
  refine at_d rfl rfl (opr_assign rfl rfl) ?_
  refine at_nil ?_
  refine at_then ?_
  refine at_seq ?_
  refine at_region ?_
  refine at_d rfl rfl (opr_move rfl rfl) ?_
  refine at_d rfl rfl (opr_move rfl rfl) ?_
  refine at_d rfl rfl (opr_eq (opr_xor64 rfl rfl rfl (Nat.mod_lt _ (by decide)) (by decide)) (u64_eq (Nat.xor_zero _))) ?_
  refine at_d rfl rfl (opr_assign rfl rfl) ?_
  refine at_nil ?_
  refine at_then ?_
  refine at_seq ?_
  refine at_region ?_
  refine at_d rfl rfl (opr_move rfl rfl) ?_
  refine at_d rfl rfl (opr_move rfl rfl) ?_
  refine at_d rfl rfl (opr_eq (opr_xor64 rfl rfl rfl (Nat.mod_lt _ (by decide)) (by decide)) (u64_eq (Nat.xor_zero _))) ?_
  refine at_d rfl rfl (opr_assign rfl rfl) ?_
  refine at_nil ?_
  refine at_then ?_
  refine at_seq ?_
  refine at_region ?_
  refine at_d rfl rfl (opr_move rfl rfl) ?_
  refine at_d rfl rfl (opr_move rfl rfl) ?_
  refine at_d rfl rfl (opr_eq (opr_xor64 rfl rfl rfl (Nat.mod_lt _ (by decide)) (by decide)) (u64_eq (Nat.xor_zero _))) ?_
  refine at_d rfl rfl (opr_assign rfl rfl) ?_
  refine at_nil ?_
  refine at_then ?_
  refine at_seq ?_
  refine at_region ?_
  refine at_d rfl rfl (opr_move rfl rfl) ?_
  refine at_d rfl rfl (opr_move rfl rfl) ?_
  refine at_d rfl rfl (opr_eq (opr_xor64 rfl rfl rfl (Nat.mod_lt _ (by decide)) (by decide)) (u64_eq (Nat.xor_zero _))) ?_
  refine at_d rfl rfl (opr_assign rfl rfl) ?_
  refine at_nil ?_
  refine at_then ?_
  refine at_seq ?_
  refine at_region ?_
  refine at_d rfl rfl (opr_move rfl rfl) ?_
  refine at_d rfl rfl (opr_move rfl rfl) ?_
  refine at_d rfl rfl (opr_eq (opr_xor64 rfl rfl rfl (Nat.mod_lt _ (by decide)) (by decide)) (u64_eq (Nat.xor_zero _))) ?_
  refine at_d rfl rfl (opr_assign rfl rfl) ?_
  refine at_nil ?_
  refine at_then ?_
  refine at_seq ?_
  refine at_region ?_
  refine at_d rfl rfl (opr_move rfl rfl) ?_
  refine at_d rfl rfl (opr_move rfl rfl) ?_
  refine at_d rfl rfl (opr_eq (opr_xor64 rfl rfl rfl (Nat.mod_lt _ (by decide)) (by decide)) (u64_eq (Nat.xor_zero _))) ?_
  refine at_d rfl rfl (opr_assign rfl rfl) ?_
  refine at_nil ?_
  refine at_then ?_
  refine at_seq ?_
  refine at_draw (by kernel_rfl) (by kernel_rfl) (by kernel_rfl) (List.cons_ne_nil _ _) ?_
  refine dr_op rfl rfl (opr_load0 rfl rfl Try.underlying34 rfl size34) ?_
  refine dr_op rfl rfl (opr_move rfl rfl) ?_
  refine dr_op rfl rfl (opr_nilCheck rfl rfl) ?_
  refine dr_op rfl rfl (opr_slice (a := 0) (b := 8) (off' := ox) rfl rfl rfl rfl Try.underlying29 (by decide) (by decide) (by decide) size5 rfl) ?_
  refine dr_op rfl rfl (opr_move rfl rfl) ?_
  refine dr_last rfl rfl (opr_call rfl rfl rfl Try.func14 (by kernel_rfl) rfl (putUint64_ct hx (Nat.le_trans (by omega) hle) (Nat.mod_lt _ (by decide)) (by decide))) ?_
  refine at_then ?_
  refine at_seq ?_
  refine at_draw (by kernel_rfl) (by kernel_rfl) (by kernel_rfl) (List.cons_ne_nil _ _) ?_
  refine dr_op rfl rfl (opr_load0 rfl rfl Try.underlying34 rfl size34) ?_
  refine dr_op rfl rfl (opr_move rfl rfl) ?_
  refine dr_op rfl rfl (opr_nilCheck rfl rfl) ?_
  refine dr_op rfl rfl (opr_slice (a := 8) (b := 16) (off' := ox + 8) rfl rfl rfl rfl Try.underlying29 (by decide) (by decide) (by decide) size5 rfl) ?_
  refine dr_op rfl rfl (opr_move rfl rfl) ?_
  refine dr_last rfl rfl (opr_call rfl rfl rfl Try.func14 (by kernel_rfl) rfl (putUint64_ct (get_set hx) (Nat.le_trans (by omega) (ple hle (by omega))) (Nat.mod_lt _ (by decide)) (by decide))) ?_
  refine at_then ?_
  refine at_seq ?_
  refine at_draw (by kernel_rfl) (by kernel_rfl) (by kernel_rfl) (List.cons_ne_nil _ _) ?_
  refine dr_op rfl rfl (opr_load0 rfl rfl Try.underlying34 rfl size34) ?_
  refine dr_op rfl rfl (opr_move rfl rfl) ?_
  refine dr_op rfl rfl (opr_nilCheck rfl rfl) ?_
  refine dr_op rfl rfl (opr_slice (a := 16) (b := 24) (off' := ox + 16) rfl rfl rfl rfl Try.underlying29 (by decide) (by decide) (by decide) size5 rfl) ?_
  refine dr_op rfl rfl (opr_move rfl rfl) ?_
  refine dr_last rfl rfl (opr_call rfl rfl rfl Try.func14 (by kernel_rfl) rfl (putUint64_ct (get_set (get_set hx)) (Nat.le_trans (by omega) (ple (ple hle (by omega)) (by omega))) (Nat.mod_lt _ (by decide)) (by decide))) ?_
  refine at_then ?_
  refine at_seq ?_
  refine at_draw (by kernel_rfl) (by kernel_rfl) (by kernel_rfl) (List.cons_ne_nil _ _) ?_
  refine dr_op rfl rfl (opr_load0 rfl rfl Try.underlying34 rfl size34) ?_
  refine dr_op rfl rfl (opr_move rfl rfl) ?_
  refine dr_op rfl rfl (opr_nilCheck rfl rfl) ?_
  refine dr_op rfl rfl (opr_slice (a := 24) (b := 32) (off' := ox + 24) rfl rfl rfl rfl Try.underlying29 (by decide) (by decide) (by decide) size5 rfl) ?_
  refine dr_op rfl rfl (opr_move rfl rfl) ?_
  refine dr_last rfl rfl (opr_call rfl rfl rfl Try.func14 (by kernel_rfl) rfl (putUint64_ct (get_set (get_set (get_set hx))) (Nat.le_trans (by omega) (ple (ple (ple hle (by omega)) (by omega)) (by omega))) (Nat.mod_lt _ (by decide)) (by decide))) ?_
  refine at_then ?_
  refine at_seq ?_
  refine at_draw (by kernel_rfl) (by kernel_rfl) (by kernel_rfl) (List.cons_ne_nil _ _) ?_
  refine dr_op rfl rfl (opr_load0 rfl rfl Try.underlying34 rfl size34) ?_
  refine dr_op rfl rfl (opr_move rfl rfl) ?_
  refine dr_op rfl rfl (opr_nilCheck rfl rfl) ?_
  refine dr_op rfl rfl (opr_slice (a := 32) (b := 40) (off' := ox + 32) rfl rfl rfl rfl Try.underlying29 (by decide) (by decide) (by decide) size5 rfl) ?_
  refine dr_op rfl rfl (opr_move rfl rfl) ?_
  refine dr_last rfl rfl (opr_call rfl rfl rfl Try.func14 (by kernel_rfl) rfl (putUint64_ct (get_set (get_set (get_set (get_set hx)))) (Nat.le_trans (by omega) (ple (ple (ple (ple hle (by omega)) (by omega)) (by omega)) (by omega))) (Nat.mod_lt _ (by decide)) (by decide))) ?_
  refine at_then ?_
  refine at_seq ?_
  refine at_draw (by kernel_rfl) (by kernel_rfl) (by kernel_rfl) (List.cons_ne_nil _ _) ?_
  refine dr_op rfl rfl (opr_load0 rfl rfl Try.underlying34 rfl size34) ?_
  refine dr_op rfl rfl (opr_move rfl rfl) ?_
  refine dr_op rfl rfl (opr_nilCheck rfl rfl) ?_
  refine dr_op rfl rfl (opr_slice (a := 40) (b := 48) (off' := ox + 40) rfl rfl rfl rfl Try.underlying29 (by decide) (by decide) (by decide) size5 rfl) ?_
  refine dr_op rfl rfl (opr_move rfl rfl) ?_
  refine dr_last rfl rfl (opr_call rfl rfl rfl Try.func14 (by kernel_rfl) rfl (putUint64_ct (get_set (get_set (get_set (get_set (get_set hx))))) (Nat.le_trans (by omega) (ple (ple (ple (ple (ple hle (by omega)) (by omega)) (by omega)) (by omega)) (by omega))) (Nat.mod_lt _ (by decide)) (by decide))) ?_
  refine at_then ?_
  refine at_seq ?_
  refine at_draw (by kernel_rfl) (by kernel_rfl) (by kernel_rfl) (List.cons_ne_nil _ _) ?_
  refine dr_op rfl rfl (opr_load0 rfl rfl Try.underlying34 rfl size34) ?_
  refine dr_op rfl rfl (opr_move rfl rfl) ?_
  refine dr_op rfl rfl (opr_nilCheck rfl rfl) ?_
  refine dr_op rfl rfl (opr_slice (a := 48) (b := 56) (off' := ox + 48) rfl rfl rfl rfl Try.underlying29 (by decide) (by decide) (by decide) size5 rfl) ?_
  refine dr_op rfl rfl (opr_move rfl rfl) ?_
  refine dr_last rfl rfl (opr_call rfl rfl rfl Try.func14 (by kernel_rfl) rfl (putUint64_ct (get_set (get_set (get_set (get_set (get_set (get_set hx)))))) (Nat.le_trans (by omega) (ple (ple (ple (ple (ple (ple hle (by omega)) (by omega)) (by omega)) (by omega)) (by omega)) (by omega))) (Nat.mod_lt _ (by decide)) (by decide))) ?_
  refine at_mem0 (M2 := M.set ix ⟨gx, Tx, EE (lx.set kx a)⟩) ((put7 (List.getElem?_eq_some_iff.1 hkx).1 hox (Nat.mod_lt _ (by decide)) (Nat.mod_lt _ (by decide)) (Nat.mod_lt _ (by decide)) (Nat.mod_lt _ (by decide)) (Nat.mod_lt _ (by decide)) (Nat.mod_lt _ (by decide)) (Nat.mod_lt _ (by decide))).trans (congrArg (fun r => M.set ix ⟨gx, Tx, EE (lx.set kx r)⟩) (words7 ha))) ?_
  have hy2 : (M.set ix ⟨gx, Tx, EE (lx.set kx a)⟩)[iy]? = some ⟨gy, Ty, EE ly⟩ := get_set_ne hy hne
  refine at_then ?_
  refine at_seq ?_
  refine at_draw (by kernel_rfl) (by kernel_rfl) (by kernel_rfl) (List.cons_ne_nil _ _) ?_
  refine dr_op rfl rfl (opr_load0 rfl rfl Try.underlying34 rfl size34) ?_
  refine dr_op rfl rfl (opr_move rfl rfl) ?_
  refine dr_op rfl rfl (opr_nilCheck rfl rfl) ?_
  refine dr_op rfl rfl (opr_slice (a := 0) (b := 8) (off' := oy) rfl rfl rfl rfl Try.underlying29 (by decide) (by decide) (by decide) size5 rfl) ?_
  refine dr_op rfl rfl (opr_move rfl rfl) ?_
  refine dr_last rfl rfl (opr_call rfl rfl rfl Try.func14 (by kernel_rfl) rfl (putUint64_ct hy2 (Nat.le_trans (by omega) hle2) (Nat.mod_lt _ (by decide)) (by decide))) ?_
  refine at_then ?_
  refine at_seq ?_
  refine at_draw (by kernel_rfl) (by kernel_rfl) (by kernel_rfl) (List.cons_ne_nil _ _) ?_
  refine dr_op rfl rfl (opr_load0 rfl rfl Try.underlying34 rfl size34) ?_
  refine dr_op rfl rfl (opr_move rfl rfl) ?_
  refine dr_op rfl rfl (opr_nilCheck rfl rfl) ?_
  refine dr_op rfl rfl (opr_slice (a := 8) (b := 16) (off' := oy + 8) rfl rfl rfl rfl Try.underlying29 (by decide) (by decide) (by decide) size5 rfl) ?_
  refine dr_op rfl rfl (opr_move rfl rfl) ?_
  refine dr_last rfl rfl (opr_call rfl rfl rfl Try.func14 (by kernel_rfl) rfl (putUint64_ct (get_set hy2) (Nat.le_trans (by omega) (ple hle2 (by omega))) (Nat.mod_lt _ (by decide)) (by decide))) ?_
  refine at_then ?_
  refine at_seq ?_
  refine at_draw (by kernel_rfl) (by kernel_rfl) (by kernel_rfl) (List.cons_ne_nil _ _) ?_
  refine dr_op rfl rfl (opr_load0 rfl rfl Try.underlying34 rfl size34) ?_
  refine dr_op rfl rfl (opr_move rfl rfl) ?_
  refine dr_op rfl rfl (opr_nilCheck rfl rfl) ?_
  refine dr_op rfl rfl (opr_slice (a := 16) (b := 24) (off' := oy + 16) rfl rfl rfl rfl Try.underlying29 (by decide) (by decide) (by decide) size5 rfl) ?_
  refine dr_op rfl rfl (opr_move rfl rfl) ?_
  refine dr_last rfl rfl (opr_call rfl rfl rfl Try.func14 (by kernel_rfl) rfl (putUint64_ct (get_set (get_set hy2)) (Nat.le_trans (by omega) (ple (ple hle2 (by omega)) (by omega))) (Nat.mod_lt _ (by decide)) (by decide))) ?_
  refine at_then ?_
  refine at_seq ?_
  refine at_draw (by kernel_rfl) (by kernel_rfl) (by kernel_rfl) (List.cons_ne_nil _ _) ?_
  refine dr_op rfl rfl (opr_load0 rfl rfl Try.underlying34 rfl size34) ?_
  refine dr_op rfl rfl (opr_move rfl rfl) ?_
  refine dr_op rfl rfl (opr_nilCheck rfl rfl) ?_
  refine dr_op rfl rfl (opr_slice (a := 24) (b := 32) (off' := oy + 24) rfl rfl rfl rfl Try.underlying29 (by decide) (by decide) (by decide) size5 rfl) ?_
  refine dr_op rfl rfl (opr_move rfl rfl) ?_
  refine dr_last rfl rfl (opr_call rfl rfl rfl Try.func14 (by kernel_rfl) rfl (putUint64_ct (get_set (get_set (get_set hy2))) (Nat.le_trans (by omega) (ple (ple (ple hle2 (by omega)) (by omega)) (by omega))) (Nat.mod_lt _ (by decide)) (by decide))) ?_
  refine at_then ?_
  refine at_seq ?_
  refine at_draw (by kernel_rfl) (by kernel_rfl) (by kernel_rfl) (List.cons_ne_nil _ _) ?_
  refine dr_op rfl rfl (opr_load0 rfl rfl Try.underlying34 rfl size34) ?_
  refine dr_op rfl rfl (opr_move rfl rfl) ?_
  refine dr_op rfl rfl (opr_nilCheck rfl rfl) ?_
  refine dr_op rfl rfl (opr_slice (a := 32) (b := 40) (off' := oy + 32) rfl rfl rfl rfl Try.underlying29 (by decide) (by decide) (by decide) size5 rfl) ?_
  refine dr_op rfl rfl (opr_move rfl rfl) ?_
  refine dr_last rfl rfl (opr_call rfl rfl rfl Try.func14 (by kernel_rfl) rfl (putUint64_ct (get_set (get_set (get_set (get_set hy2)))) (Nat.le_trans (by omega) (ple (ple (ple (ple hle2 (by omega)) (by omega)) (by omega)) (by omega))) (Nat.mod_lt _ (by decide)) (by decide))) ?_
  refine at_then ?_
  refine at_seq ?_
  refine at_draw (by kernel_rfl) (by kernel_rfl) (by kernel_rfl) (List.cons_ne_nil _ _) ?_
  refine dr_op rfl rfl (opr_load0 rfl rfl Try.underlying34 rfl size34) ?_
  refine dr_op rfl rfl (opr_move rfl rfl) ?_
  refine dr_op rfl rfl (opr_nilCheck rfl rfl) ?_
  refine dr_op rfl rfl (opr_slice (a := 40) (b := 48) (off' := oy + 40) rfl rfl rfl rfl Try.underlying29 (by decide) (by decide) (by decide) size5 rfl) ?_
  refine dr_op rfl rfl (opr_move rfl rfl) ?_
  refine dr_last rfl rfl (opr_call rfl rfl rfl Try.func14 (by kernel_rfl) rfl (putUint64_ct (get_set (get_set (get_set (get_set (get_set hy2))))) (Nat.le_trans (by omega) (ple (ple (ple (ple (ple hle2 (by omega)) (by omega)) (by omega)) (by omega)) (by omega))) (Nat.mod_lt _ (by decide)) (by decide))) ?_
  refine at_then ?_
  refine at_draw (by kernel_rfl) (by kernel_rfl) (by kernel_rfl) (List.cons_ne_nil _ _) ?_
  refine dr_op rfl rfl (opr_load0 rfl rfl Try.underlying34 rfl size34) ?_
  refine dr_op rfl rfl (opr_move rfl rfl) ?_
  refine dr_op rfl rfl (opr_nilCheck rfl rfl) ?_
  refine dr_op rfl rfl (opr_slice (a := 48) (b := 56) (off' := oy + 48) rfl rfl rfl rfl Try.underlying29 (by decide) (by decide) (by decide) size5 rfl) ?_
  refine dr_op rfl rfl (opr_move rfl rfl) ?_
  refine dr_last rfl rfl (opr_call rfl rfl rfl Try.func14 (by kernel_rfl) rfl (putUint64_ct (get_set (get_set (get_set (get_set (get_set (get_set hy2)))))) (Nat.le_trans (by omega) (ple (ple (ple (ple (ple (ple hle2 (by omega)) (by omega)) (by omega)) (by omega)) (by omega)) (by omega))) (Nat.mod_lt _ (by decide)) (by decide))) ?_
  exact done_of (res0 rfl) ⟨rfl, (put7 (List.getElem?_eq_some_iff.1 hky).1 hoy (Nat.mod_lt _ (by decide)) (Nat.mod_lt _ (by decide)) (Nat.mod_lt _ (by decide)) (Nat.mod_lt _ (by decide)) (Nat.mod_lt _ (by decide)) (Nat.mod_lt _ (by decide)) (Nat.mod_lt _ (by decide))).trans (congrArg (fun r => (M.set ix ⟨gx, Tx, EE (lx.set kx a)⟩).set iy ⟨gy, Ty, EE (ly.set ky r)⟩) (words7 hb))⟩ (List.Sublist.refl _)
theorem cswapGeneric1_ct {M : Mem} {ix iy gx gy Tx Ty kx ky ox oy a b : Nat} {lx ly : List Nat} (hx : M[ix]? = some ⟨gx, Tx, EE lx⟩) (hkx : lx[kx]? = some a) (hox : 56 * kx = ox) (hy : M[iy]? = some ⟨gy, Ty, EE ly⟩) (hky : ly[ky]? = some b) (hoy : 56 * ky = oy) (hne : ix ≠ iy) (ha : a < RR) (hb : b < RR) : Ct Try.prog 11 #[.pointer (some ⟨gx, ox, none⟩), .pointer (some ⟨gy, oy, none⟩), .int .u64 1] M (Det (.tuple #[]) ((M.set ix ⟨gx, Tx, EE (lx.set kx b)⟩).set iy ⟨gy, Ty, EE (ly.set ky a)⟩)) := by
  have hle : ox + 56 ≤ (EE lx).length := by rw [EE_length]; have := (List.getElem?_eq_some_iff.1 hkx).1; omega
  have hle2 : oy + 56 ≤ (EE ly).length := by rw [EE_length]; have := (List.getElem?_eq_some_iff.1 hky).1; omega
  refine ct_of (vs := [.pointer (some ⟨gx, ox, none⟩), .pointer (some ⟨gy, oy, none⟩), .int .u64 1]) Try.func11 rfl Try.ntmps11 rfl fun w0 => ?_
  refine at_seq ?_
  refine at_region ?_
  refine at_d rfl rfl (opr_move rfl rfl) ?_
  refine at_d rfl rfl (opr_binOp (v := .int .u64 1) rfl rfl rfl (fun _ => rfl)) ?_
  refine at_d rfl rfl (opr_unOp (u := .int .u64 18446744073709551615) rfl rfl (fun _ => rfl)) ?_
  refine at_d rfl rfl (opr_assign rfl rfl) ?_
  refine at_nil ?_
  refine at_then ?_
  refine at_seq ?_
  refine at_draw (by kernel_rfl) (by kernel_rfl) (by kernel_rfl) (List.cons_ne_nil _ _) ?_
  refine dr_op rfl rfl (opr_load0 rfl rfl Try.underlying34 rfl size34) ?_
  refine dr_op rfl rfl (opr_move rfl rfl) ?_
  refine dr_op rfl rfl (opr_nilCheck rfl rfl) ?_
  refine dr_op rfl rfl (opr_slice (a := 0) (b := 8) (off' := ox) rfl rfl rfl rfl Try.underlying29 (by decide) (by decide) (by decide) size5 rfl) ?_
  refine dr_op rfl rfl (opr_call rfl rfl rfl Try.func13 (by kernel_rfl) rfl (uint64_ct (x := a / 256 ^ (8 * 0)) hx (EE_word hkx (i := 0) (by decide) (by omega)) (by decide))) ?_
  refine dr_last rfl rfl (opr_assign rfl rfl) ?_
  refine at_then ?_
  refine at_seq ?_
  refine at_draw (by kernel_rfl) (by kernel_rfl) (by kernel_rfl) (List.cons_ne_nil _ _) ?_
  refine dr_op rfl rfl (opr_load0 rfl rfl Try.underlying34 rfl size34) ?_
  refine dr_op rfl rfl (opr_move rfl rfl) ?_
  refine dr_op rfl rfl (opr_nilCheck rfl rfl) ?_
  refine dr_op rfl rfl (opr_slice (a := 8) (b := 16) (off' := ox + 8) rfl rfl rfl rfl Try.underlying29 (by decide) (by decide) (by decide) size5 rfl) ?_
  refine dr_op rfl rfl (opr_call rfl rfl rfl Try.func13 (by kernel_rfl) rfl (uint64_ct (x := a / 256 ^ (8 * 1)) hx (EE_word hkx (i := 1) (by decide) (by omega)) (by decide))) ?_
  refine dr_last rfl rfl (opr_assign rfl rfl) ?_
  refine at_then ?_
  refine at_seq ?_
  refine at_draw (by kernel_rfl) (by kernel_rfl) (by kernel_rfl) (List.cons_ne_nil _ _) ?_
  refine dr_op rfl rfl (opr_load0 rfl rfl Try.underlying34 rfl size34) ?_
  refine dr_op rfl rfl (opr_move rfl rfl) ?_
  refine dr_op rfl rfl (opr_nilCheck rfl rfl) ?_
  refine dr_op rfl rfl (opr_slice (a := 16) (b := 24) (off' := ox + 16) rfl rfl rfl rfl Try.underlying29 (by decide) (by decide) (by decide) size5 rfl) ?_
  refine dr_op rfl rfl (opr_call rfl rfl rfl Try.func13 (by kernel_rfl) rfl (uint64_ct (x := a / 256 ^ (8 * 2)) hx (EE_word hkx (i := 2) (by decide) (by omega)) (by decide))) ?_
  refine dr_last rfl rfl (opr_assign rfl rfl) ?_
  refine at_then ?_
  refine at_seq ?_
  refine at_draw (by kernel_rfl) (by kernel_rfl) (by kernel_rfl) (List.cons_ne_nil _ _) ?_
  refine dr_op rfl rfl (opr_load0 rfl rfl Try.underlying34 rfl size34) ?_
  refine dr_op rfl rfl (opr_move rfl rfl) ?_
  refine dr_op rfl rfl (opr_nilCheck rfl rfl) ?_
  refine dr_op rfl rfl (opr_slice (a := 24) (b := 32) (off' := ox + 24) rfl rfl rfl rfl Try.underlying29 (by decide) (by decide) (by decide) size5 rfl) ?_
  refine dr_op rfl rfl (opr_call rfl rfl rfl Try.func13 (by kernel_rfl) rfl (uint64_ct (x := a / 256 ^ (8 * 3)) hx (EE_word hkx (i := 3) (by decide) (by omega)) (by decide))) ?_
  refine dr_last rfl rfl (opr_assign rfl rfl) ?_
  refine at_then ?_
  refine at_seq ?_
  refine at_draw (by kernel_rfl) (by kernel_rfl) (by kernel_rfl) (List.cons_ne_nil _ _) ?_
  refine dr_op rfl rfl (opr_load0 rfl rfl Try.underlying34 rfl size34) ?_
  refine dr_op rfl rfl (opr_move rfl rfl) ?_
  refine dr_op rfl rfl (opr_nilCheck rfl rfl) ?_
  refine dr_op rfl rfl (opr_slice (a := 32) (b := 40) (off' := ox + 32) rfl rfl rfl rfl Try.underlying29 (by decide) (by decide) (by decide) size5 rfl) ?_
  refine dr_op rfl rfl (opr_call rfl rfl rfl Try.func13 (by kernel_rfl) rfl (uint64_ct (x := a / 256 ^ (8 * 4)) hx (EE_word hkx (i := 4) (by decide) (by omega)) (by decide))) ?_
  refine dr_last rfl rfl (opr_assign rfl rfl) ?_
  refine at_then ?_
  refine at_seq ?_
  refine at_draw (by kernel_rfl) (by kernel_rfl) (by kernel_rfl) (List.cons_ne_nil _ _) ?_
  refine dr_op rfl rfl (opr_load0 rfl rfl Try.underlying34 rfl size34) ?_
  refine dr_op rfl rfl (opr_move rfl rfl) ?_
  refine dr_op rfl rfl (opr_nilCheck rfl rfl) ?_
  refine dr_op rfl rfl (opr_slice (a := 40) (b := 48) (off' := ox + 40) rfl rfl rfl rfl Try.underlying29 (by decide) (by decide) (by decide) size5 rfl) ?_
  refine dr_op rfl rfl (opr_call rfl rfl rfl Try.func13 (by kernel_rfl) rfl (uint64_ct (x := a / 256 ^ (8 * 5)) hx (EE_word hkx (i := 5) (by decide) (by omega)) (by decide))) ?_
  refine dr_last rfl rfl (opr_assign rfl rfl) ?_
  refine at_then ?_
  refine at_seq ?_
  refine at_draw (by kernel_rfl) (by kernel_rfl) (by kernel_rfl) (List.cons_ne_nil _ _) ?_
  refine dr_op rfl rfl (opr_load0 rfl rfl Try.underlying34 rfl size34) ?_
  refine dr_op rfl rfl (opr_move rfl rfl) ?_
  refine dr_op rfl rfl (opr_nilCheck rfl rfl) ?_
  refine dr_op rfl rfl (opr_slice (a := 48) (b := 56) (off' := ox + 48) rfl rfl rfl rfl Try.underlying29 (by decide) (by decide) (by decide) size5 rfl) ?_
  refine dr_op rfl rfl (opr_call rfl rfl rfl Try.func13 (by kernel_rfl) rfl (uint64_ct (x := a / 256 ^ (8 * 6)) hx (EE_word hkx (i := 6) (by decide) (by omega)) (by decide))) ?_
  refine dr_last rfl rfl (opr_assign rfl rfl) ?_
  refine at_then ?_
  refine at_seq ?_
  refine at_draw (by kernel_rfl) (by kernel_rfl) (by kernel_rfl) (List.cons_ne_nil _ _) ?_
  refine dr_op rfl rfl (opr_load0 rfl rfl Try.underlying34 rfl size34) ?_
  refine dr_op rfl rfl (opr_move rfl rfl) ?_
  refine dr_op rfl rfl (opr_nilCheck rfl rfl) ?_
  refine dr_op rfl rfl (opr_slice (a := 0) (b := 8) (off' := oy) rfl rfl rfl rfl Try.underlying29 (by decide) (by decide) (by decide) size5 rfl) ?_
  refine dr_op rfl rfl (opr_call rfl rfl rfl Try.func13 (by kernel_rfl) rfl (uint64_ct (x := b / 256 ^ (8 * 0)) hy (EE_word hky (i := 0) (by decide) (by omega)) (by decide))) ?_
  refine dr_last rfl rfl (opr_assign rfl rfl) ?_
  refine at_then ?_
  refine at_seq ?_
  refine at_draw (by kernel_rfl) (by kernel_rfl) (by kernel_rfl) (List.cons_ne_nil _ _) ?_
  refine dr_op rfl rfl (opr_load0 rfl rfl Try.underlying34 rfl size34) ?_
  refine dr_op rfl rfl (opr_move rfl rfl) ?_
  refine dr_op rfl rfl (opr_nilCheck rfl rfl) ?_
  refine dr_op rfl rfl (opr_slice (a := 8) (b := 16) (off' := oy + 8) rfl rfl rfl rfl Try.underlying29 (by decide) (by decide) (by decide) size5 rfl) ?_
  refine dr_op rfl rfl (opr_call rfl rfl rfl Try.func13 (by kernel_rfl) rfl (uint64_ct (x := b / 256 ^ (8 * 1)) hy (EE_word hky (i := 1) (by decide) (by omega)) (by decide))) ?_
  refine dr_last rfl rfl (opr_assign rfl rfl) ?_
  refine at_then ?_
  refine at_seq ?_
  refine at_draw (by kernel_rfl) (by kernel_rfl) (by kernel_rfl) (List.cons_ne_nil _ _) ?_
  refine dr_op rfl rfl (opr_load0 rfl rfl Try.underlying34 rfl size34) ?_
  refine dr_op rfl rfl (opr_move rfl rfl) ?_
  refine dr_op rfl rfl (opr_nilCheck rfl rfl) ?_
  refine dr_op rfl rfl (opr_slice (a := 16) (b := 24) (off' := oy + 16) rfl rfl rfl rfl Try.underlying29 (by decide) (by decide) (by decide) size5 rfl) ?_
  refine dr_op rfl rfl (opr_call rfl rfl rfl Try.func13 (by kernel_rfl) rfl (uint64_ct (x := b / 256 ^ (8 * 2)) hy (EE_word hky (i := 2) (by decide) (by omega)) (by decide))) ?_
  refine dr_last rfl rfl (opr_assign rfl rfl) ?_
  refine at_then ?_
  refine at_seq ?_
  refine at_draw (by kernel_rfl) (by kernel_rfl) (by kernel_rfl) (List.cons_ne_nil _ _) ?_
  refine dr_op rfl rfl (opr_load0 rfl rfl Try.underlying34 rfl size34) ?_
  refine dr_op rfl rfl (opr_move rfl rfl) ?_
  refine dr_op rfl rfl (opr_nilCheck rfl rfl) ?_
  refine dr_op rfl rfl (opr_slice (a := 24) (b := 32) (off' := oy + 24) rfl rfl rfl rfl Try.underlying29 (by decide) (by decide) (by decide) size5 rfl) ?_
  refine dr_op rfl rfl (opr_call rfl rfl rfl Try.func13 (by kernel_rfl) rfl (uint64_ct (x := b / 256 ^ (8 * 3)) hy (EE_word hky (i := 3) (by decide) (by omega)) (by decide))) ?_
  refine dr_last rfl rfl (opr_assign rfl rfl) ?_
  refine at_then ?_
  refine at_seq ?_
  refine at_draw (by kernel_rfl) (by kernel_rfl) (by kernel_rfl) (List.cons_ne_nil _ _) ?_
  refine dr_op rfl rfl (opr_load0 rfl rfl Try.underlying34 rfl size34) ?_
  refine dr_op rfl rfl (opr_move rfl rfl) ?_
  refine dr_op rfl rfl (opr_nilCheck rfl rfl) ?_
  refine dr_op rfl rfl (opr_slice (a := 32) (b := 40) (off' := oy + 32) rfl rfl rfl rfl Try.underlying29 (by decide) (by decide) (by decide) size5 rfl) ?_
  refine dr_op rfl rfl (opr_call rfl rfl rfl Try.func13 (by kernel_rfl) rfl (uint64_ct (x := b / 256 ^ (8 * 4)) hy (EE_word hky (i := 4) (by decide) (by omega)) (by decide))) ?_
  refine dr_last rfl rfl (opr_assign rfl rfl) ?_
  refine at_then ?_
  refine at_seq ?_
  refine at_draw (by kernel_rfl) (by kernel_rfl) (by kernel_rfl) (List.cons_ne_nil _ _) ?_
  refine dr_op rfl rfl (opr_load0 rfl rfl Try.underlying34 rfl size34) ?_
  refine dr_op rfl rfl (opr_move rfl rfl) ?_
  refine dr_op rfl rfl (opr_nilCheck rfl rfl) ?_
  refine dr_op rfl rfl (opr_slice (a := 40) (b := 48) (off' := oy + 40) rfl rfl rfl rfl Try.underlying29 (by decide) (by decide) (by decide) size5 rfl) ?_
  refine dr_op rfl rfl (opr_call rfl rfl rfl Try.func13 (by kernel_rfl) rfl (uint64_ct (x := b / 256 ^ (8 * 5)) hy (EE_word hky (i := 5) (by decide) (by omega)) (by decide))) ?_
  refine dr_last rfl rfl (opr_assign rfl rfl) ?_
  refine at_then ?_
  refine at_seq ?_
  refine at_draw (by kernel_rfl) (by kernel_rfl) (by kernel_rfl) (List.cons_ne_nil _ _) ?_
  refine dr_op rfl rfl (opr_load0 rfl rfl Try.underlying34 rfl size34) ?_
  refine dr_op rfl rfl (opr_move rfl rfl) ?_
  refine dr_op rfl rfl (opr_nilCheck rfl rfl) ?_
  refine dr_op rfl rfl (opr_slice (a := 48) (b := 56) (off' := oy + 48) rfl rfl rfl rfl Try.underlying29 (by decide) (by decide) (by decide) size5 rfl) ?_
  refine dr_op rfl rfl (opr_call rfl rfl rfl Try.func13 (by kernel_rfl) rfl (uint64_ct (x := b / 256 ^ (8 * 6)) hy (EE_word hky (i := 6) (by decide) (by omega)) (by decide))) ?_
  refine dr_last rfl rfl (opr_assign rfl rfl) ?_
  refine at_then ?_
  refine at_seq ?_
  refine at_region ?_
  refine at_d rfl rfl (opr_move rfl rfl) ?_
  refine at_d rfl rfl (opr_move rfl rfl) ?_
  refine at_d rfl rfl (opr_move rfl rfl) ?_
  refine at_d rfl rfl (opr_xor64 rfl rfl rfl (Nat.mod_lt _ (by decide)) (Nat.mod_lt _ (by decide))) ?_
  refine at_d rfl rfl (opr_eq (opr_and64 (a := 18446744073709551615) rfl rfl rfl (by decide) (Nat.xor_lt_two_pow (n := 64) (Nat.mod_lt _ (by decide)) (Nat.mod_lt _ (by decide)))) (u64_eq (ones_and (Nat.xor_lt_two_pow (n := 64) (Nat.mod_lt _ (by decide)) (Nat.mod_lt _ (by decide)))))) ?_
  refine at_d rfl rfl (opr_assign rfl rfl) ?_
  refine at_nil ?_
  refine at_then ?_
  refine at_seq ?_
  refine at_region ?_
  refine at_d rfl rfl (opr_move rfl rfl) ?_
  refine at_d rfl rfl (opr_move rfl rfl) ?_
  refine at_d rfl rfl (opr_move rfl rfl) ?_
  refine at_d rfl rfl (opr_xor64 rfl rfl rfl (Nat.mod_lt _ (by decide)) (Nat.mod_lt _ (by decide))) ?_
  refine at_d rfl rfl (opr_eq (opr_and64 (a := 18446744073709551615) rfl rfl rfl (by decide) (Nat.xor_lt_two_pow (n := 64) (Nat.mod_lt _ (by decide)) (Nat.mod_lt _ (by decide)))) (u64_eq (ones_and (Nat.xor_lt_two_pow (n := 64) (Nat.mod_lt _ (by decide)) (Nat.mod_lt _ (by decide)))))) ?_
  refine at_d rfl rfl (opr_assign rfl rfl) ?_
  refine at_nil ?_
  refine at_then ?_
  refine at_seq ?_
  refine at_region ?_
  refine at_d rfl rfl (opr_move rfl rfl) ?_
  refine at_d rfl rfl (opr_move rfl rfl) ?_
  refine at_d rfl rfl (opr_move rfl rfl) ?_
  refine at_d rfl rfl (opr_xor64 rfl rfl rfl (Nat.mod_lt _ (by decide)) (Nat.mod_lt _ (by decide))) ?_
  refine at_d rfl rfl (opr_eq (opr_and64 (a := 18446744073709551615) rfl rfl rfl (by decide) (Nat.xor_lt_two_pow (n := 64) (Nat.mod_lt _ (by decide)) (Nat.mod_lt _ (by decide)))) (u64_eq (ones_and (Nat.xor_lt_two_pow (n := 64) (Nat.mod_lt _ (by decide)) (Nat.mod_lt _ (by decide)))))) ?_
  refine at_d rfl rfl (opr_assign rfl rfl) ?_
  refine at_nil ?_
  refine at_then ?_
  refine at_seq ?_
  refine at_region ?_
  refine at_d rfl rfl (opr_move rfl rfl) ?_
  refine at_d rfl rfl (opr_move rfl rfl) ?_
  refine at_d rfl rfl (opr_move rfl rfl) ?_
  refine at_d rfl rfl (opr_xor64 rfl rfl rfl (Nat.mod_lt _ (by decide)) (Nat.mod_lt _ (by decide))) ?_
  refine at_d rfl rfl (opr_eq (opr_and64 (a := 18446744073709551615) rfl rfl rfl (by decide) (Nat.xor_lt_two_pow (n := 64) (Nat.mod_lt _ (by decide)) (Nat.mod_lt _ (by decide)))) (u64_eq (ones_and (Nat.xor_lt_two_pow (n := 64) (Nat.mod_lt _ (by decide)) (Nat.mod_lt _ (by decide)))))) ?_
  refine at_d rfl rfl (opr_assign rfl rfl) ?_
  refine at_nil ?_
  refine at_then ?_
  refine at_seq ?_
  refine at_region ?_
  refine at_d rfl rfl (opr_move rfl rfl) ?_
  refine at_d rfl rfl (opr_move rfl rfl) ?_
  refine at_d rfl rfl (opr_move rfl rfl) ?_
  refine at_d rfl rfl (opr_xor64 rfl rfl rfl (Nat.mod_lt _ (by decide)) (Nat.mod_lt _ (by decide))) ?_
  refine at_d rfl rfl (opr_eq (opr_and64 (a := 18446744073709551615) rfl rfl rfl (by decide) (Nat.xor_lt_two_pow (n := 64) (Nat.mod_lt _ (by decide)) (Nat.mod_lt _ (by decide)))) (u64_eq (ones_and (Nat.xor_lt_two_pow (n := 64) (Nat.mod_lt _ (by decide)) (Nat.mod_lt _ (by decide)))))) ?_
  refine at_d rfl rfl (opr_assign rfl rfl) ?_
  refine at_nil ?_
  refine at_then ?_
  refine at_seq ?_
  refine at_region ?_
  refine at_d rfl rfl (opr_move rfl rfl) ?_
  refine at_d rfl rfl (opr_move rfl rfl) ?_
  refine at_d rfl rfl (opr_move rfl rfl) ?_
  refine at_d rfl rfl (opr_xor64 rfl rfl rfl (Nat.mod_lt _ (by decide)) (Nat.mod_lt _ (by decide))) ?_
  refine at_d rfl rfl (opr_eq (opr_and64 (a := 18446744073709551615) rfl rfl rfl (by decide) (Nat.xor_lt_two_pow (n := 64) (Nat.mod_lt _ (by decide)) (Nat.mod_lt _ (by decide)))) (u64_eq (ones_and (Nat.xor_lt_two_pow (n := 64) (Nat.mod_lt _ (by decide)) (Nat.mod_lt _ (by decide)))))) ?_
  refine at_d rfl rfl (opr_assign rfl rfl) ?_
  refine at_nil ?_
  refine at_then ?_
  refine at_seq ?_
  refine at_region ?_
  refine at_d rfl rfl (opr_move rfl rfl) ?_
  refine at_d rfl rfl (opr_move rfl rfl) ?_
  refine at_d rfl rfl (opr_move rfl rfl) ?_
  refine at_d rfl rfl (opr_xor64 rfl rfl rfl (Nat.mod_lt _ (by decide)) (Nat.mod_lt _ (by decide))) ?_
  refine at_d rfl rfl (opr_eq (opr_and64 (a := 18446744073709551615) rfl rfl rfl (by decide) (Nat.xor_lt_two_pow (n := 64) (Nat.mod_lt _ (by decide)) (Nat.mod_lt _ (by decide)))) (u64_eq (ones_and (Nat.xor_lt_two_pow (n := 64) (Nat.mod_lt _ (by decide)) (Nat.mod_lt _ (by decide)))))) ?_
  refine at_d rfl rfl (opr_assign rfl rfl) ?_
  refine at_nil ?_
  refine at_then ?_
  refine at_seq ?_
  refine at_region ?_
  refine at_d rfl rfl (opr_move rfl rfl) ?_
  refine at_d rfl rfl (opr_move rfl rfl) ?_
  refine at_d rfl rfl (opr_eq (opr_xor64 rfl rfl rfl (Nat.mod_lt _ (by decide)) (Nat.xor_lt_two_pow (n := 64) (Nat.mod_lt _ (by decide)) (Nat.mod_lt _ (by decide)))) (u64_eq (xor_back))) ?_
  refine at_d rfl rfl (opr_assign rfl rfl) ?_
  refine at_nil ?_
  refine at_then ?_
  refine at_seq ?_
  refine at_region ?_
  refine at_d rfl rfl (opr_move rfl rfl) ?_
  refine at_d rfl rfl (opr_move rfl rfl) ?_
  refine at_d rfl rfl (opr_eq (opr_xor64 rfl rfl rfl (Nat.mod_lt _ (by decide)) (Nat.xor_lt_two_pow (n := 64) (Nat.mod_lt _ (by decide)) (Nat.mod_lt _ (by decide)))) (u64_eq (xor_back))) ?_
  refine at_d rfl rfl (opr_assign rfl rfl) ?_
  refine at_nil ?_
  refine at_then ?_
  refine at_seq ?_
  refine at_region ?_
  refine at_d rfl rfl (opr_move rfl rfl) ?_
  refine at_d rfl rfl (opr_move rfl rfl) ?_
  refine at_d rfl rfl (opr_eq (opr_xor64 rfl rfl rfl (Nat.mod_lt _ (by decide)) (Nat.xor_lt_two_pow (n := 64) (Nat.mod_lt _ (by decide)) (Nat.mod_lt _ (by decide)))) (u64_eq (xor_back))) ?_
  refine at_d rfl rfl (opr_assign rfl rfl) ?_
  refine at_nil ?_
  refine at_then ?_
  refine at_seq ?_
  refine at_region ?_
  refine at_d rfl rfl (opr_move rfl rfl) ?_
  refine at_d rfl rfl (opr_move rfl rfl) ?_
  refine at_d rfl rfl (opr_eq (opr_xor64 rfl rfl rfl (Nat.mod_lt _ (by decide)) (Nat.xor_lt_two_pow (n := 64) (Nat.mod_lt _ (by decide)) (Nat.mod_lt _ (by decide)))) (u64_eq (xor_back))) ?_
  refine at_d rfl rfl (opr_assign rfl rfl) ?_
  refine at_nil ?_
  refine at_then ?_
  refine at_seq ?_
  refine at_region ?_
  refine at_d rfl rfl (opr_move rfl rfl) ?_
  refine at_d rfl rfl (opr_move rfl rfl) ?_
  refine at_d rfl rfl (opr_eq (opr_xor64 rfl rfl rfl (Nat.mod_lt _ (by decide)) (Nat.xor_lt_two_pow (n := 64) (Nat.mod_lt _ (by decide)) (Nat.mod_lt _ (by decide)))) (u64_eq (xor_back))) ?_
  refine at_d rfl rfl (opr_assign rfl rfl) ?_
  refine at_nil ?_
  refine at_then ?_
  refine at_seq ?_
  refine at_region ?_
  refine at_d rfl rfl (opr_move rfl rfl) ?_
  refine at_d rfl rfl (opr_move rfl rfl) ?_
  refine at_d rfl rfl (opr_eq (opr_xor64 rfl rfl rfl (Nat.mod_lt _ (by decide)) (Nat.xor_lt_two_pow (n := 64) (Nat.mod_lt _ (by decide)) (Nat.mod_lt _ (by decide)))) (u64_eq (xor_back))) ?_
  refine at_d rfl rfl (opr_assign rfl rfl) ?_
  refine at_nil ?_
  refine at_then ?_
  refine at_seq ?_
  refine at_region ?_
  refine at_d rfl rfl (opr_move rfl rfl) ?_
  refine at_d rfl rfl (opr_move rfl rfl) ?_
  refine at_d rfl rfl (opr_eq (opr_xor64 rfl rfl rfl (Nat.mod_lt _ (by decide)) (Nat.xor_lt_two_pow (n := 64) (Nat.mod_lt _ (by decide)) (Nat.mod_lt _ (by decide)))) (u64_eq (xor_back))) ?_
  refine at_d rfl rfl (opr_assign rfl rfl) ?_
  refine at_nil ?_
  refine at_then ?_
  refine at_seq ?_
  refine at_region ?_
  refine at_d rfl rfl (opr_move rfl rfl) ?_
  refine at_d rfl rfl (opr_move rfl rfl) ?_
  refine at_d rfl rfl (opr_eq (opr_xor64 rfl rfl rfl (Nat.mod_lt _ (by decide)) (Nat.xor_lt_two_pow (n := 64) (Nat.mod_lt _ (by decide)) (Nat.mod_lt _ (by decide)))) (u64_eq (xor_back'))) ?_
  refine at_d rfl rfl (opr_assign rfl rfl) ?_
  refine at_nil ?_
  refine at_then ?_
  refine at_seq ?_
  refine at_region ?_
  refine at_d rfl rfl (opr_move rfl rfl) ?_
  refine at_d rfl rfl (opr_move rfl rfl) ?_
  refine at_d rfl rfl (opr_eq (opr_xor64 rfl rfl rfl (Nat.mod_lt _ (by decide)) (Nat.xor_lt_two_pow (n := 64) (Nat.mod_lt _ (by decide)) (Nat.mod_lt _ (by decide)))) (u64_eq (xor_back'))) ?_
  refine at_d rfl rfl (opr_assign rfl rfl) ?_
  refine at_nil ?_
  refine at_then ?_
  refine at_seq ?_
  refine at_region ?_
  refine at_d rfl rfl (opr_move rfl rfl) ?_
  refine at_d rfl rfl (opr_move rfl rfl) ?_
  refine at_d rfl rfl (opr_eq (opr_xor64 rfl rfl rfl (Nat.mod_lt _ (by decide)) (Nat.xor_lt_two_pow (n := 64) (Nat.mod_lt _ (by decide)) (Nat.mod_lt _ (by decide)))) (u64_eq (xor_back'))) ?_
  refine at_d rfl rfl (opr_assign rfl rfl) ?_
  refine at_nil ?_
  refine at_then ?_
  refine at_seq ?_
  refine at_region ?_
  refine at_d rfl rfl (opr_move rfl rfl) ?_
  refine at_d rfl rfl (opr_move rfl rfl) ?_
  refine at_d rfl rfl (opr_eq (opr_xor64 rfl rfl rfl (Nat.mod_lt _ (by decide)) (Nat.xor_lt_two_pow (n := 64) (Nat.mod_lt _ (by decide)) (Nat.mod_lt _ (by decide)))) (u64_eq (xor_back'))) ?_
  refine at_d rfl rfl (opr_assign rfl rfl) ?_
  refine at_nil ?_
  refine at_then ?_
  refine at_seq ?_
  refine at_region ?_
  refine at_d rfl rfl (opr_move rfl rfl) ?_
  refine at_d rfl rfl (opr_move rfl rfl) ?_
  refine at_d rfl rfl (opr_eq (opr_xor64 rfl rfl rfl (Nat.mod_lt _ (by decide)) (Nat.xor_lt_two_pow (n := 64) (Nat.mod_lt _ (by decide)) (Nat.mod_lt _ (by decide)))) (u64_eq (xor_back'))) ?_
  refine at_d rfl rfl (opr_assign rfl rfl) ?_
  refine at_nil ?_
  refine at_then ?_
  refine at_seq ?_
  refine at_region ?_
  refine at_d rfl rfl (opr_move rfl rfl) ?_
  refine at_d rfl rfl (opr_move rfl rfl) ?_
  refine at_d rfl rfl (opr_eq (opr_xor64 rfl rfl rfl (Nat.mod_lt _ (by decide)) (Nat.xor_lt_two_pow (n := 64) (Nat.mod_lt _ (by decide)) (Nat.mod_lt _ (by decide)))) (u64_eq (xor_back'))) ?_
  refine at_d rfl rfl (opr_assign rfl rfl) ?_
  refine at_nil ?_
  refine at_then ?_
  refine at_seq ?_
  refine at_region ?_
  refine at_d rfl rfl (opr_move rfl rfl) ?_
  refine at_d rfl rfl (opr_move rfl rfl) ?_
  refine at_d rfl rfl (opr_eq (opr_xor64 rfl rfl rfl (Nat.mod_lt _ (by decide)) (Nat.xor_lt_two_pow (n := 64) (Nat.mod_lt _ (by decide)) (Nat.mod_lt _ (by decide)))) (u64_eq (xor_back'))) ?_
  refine at_d rfl rfl (opr_assign rfl rfl) ?_
  refine at_nil ?_
  refine at_then ?_
  refine at_seq ?_
  refine at_draw (by kernel_rfl) (by kernel_rfl) (by kernel_rfl) (List.cons_ne_nil _ _) ?_
  refine dr_op rfl rfl (opr_load0 rfl rfl Try.underlying34 rfl size34) ?_
  refine dr_op rfl rfl (opr_move rfl rfl) ?_
  refine dr_op rfl rfl (opr_nilCheck rfl rfl) ?_
  refine dr_op rfl rfl (opr_slice (a := 0) (b := 8) (off' := ox) rfl rfl rfl rfl Try.underlying29 (by decide) (by decide) (by decide) size5 rfl) ?_
  refine dr_op rfl rfl (opr_move rfl rfl) ?_
  refine dr_last rfl rfl (opr_call rfl rfl rfl Try.func14 (by kernel_rfl) rfl (putUint64_ct hx (Nat.le_trans (by omega) hle) (Nat.mod_lt _ (by decide)) (by decide))) ?_
  refine at_then ?_
  refine at_seq ?_
  refine at_draw (by kernel_rfl) (by kernel_rfl) (by kernel_rfl) (List.cons_ne_nil _ _) ?_
  refine dr_op rfl rfl (opr_load0 rfl rfl Try.underlying34 rfl size34) ?_
  refine dr_op rfl rfl (opr_move rfl rfl) ?_
  refine dr_op rfl rfl (opr_nilCheck rfl rfl) ?_
  refine dr_op rfl rfl (opr_slice (a := 8) (b := 16) (off' := ox + 8) rfl rfl rfl rfl Try.underlying29 (by decide) (by decide) (by decide) size5 rfl) ?_
  refine dr_op rfl rfl (opr_move rfl rfl) ?_
  refine dr_last rfl rfl (opr_call rfl rfl rfl Try.func14 (by kernel_rfl) rfl (putUint64_ct (get_set hx) (Nat.le_trans (by omega) (ple hle (by omega))) (Nat.mod_lt _ (by decide)) (by decide))) ?_
  refine at_then ?_
  refine at_seq ?_
  refine at_draw (by kernel_rfl) (by kernel_rfl) (by kernel_rfl) (List.cons_ne_nil _ _) ?_
  refine dr_op rfl rfl (opr_load0 rfl rfl Try.underlying34 rfl size34) ?_
  refine dr_op rfl rfl (opr_move rfl rfl) ?_
  refine dr_op rfl rfl (opr_nilCheck rfl rfl) ?_
  refine dr_op rfl rfl (opr_slice (a := 16) (b := 24) (off' := ox + 16) rfl rfl rfl rfl Try.underlying29 (by decide) (by decide) (by decide) size5 rfl) ?_
  refine dr_op rfl rfl (opr_move rfl rfl) ?_
  refine dr_last rfl rfl (opr_call rfl rfl rfl Try.func14 (by kernel_rfl) rfl (putUint64_ct (get_set (get_set hx)) (Nat.le_trans (by omega) (ple (ple hle (by omega)) (by omega))) (Nat.mod_lt _ (by decide)) (by decide))) ?_
  refine at_then ?_
  refine at_seq ?_
  refine at_draw (by kernel_rfl) (by kernel_rfl) (by kernel_rfl) (List.cons_ne_nil _ _) ?_
  refine dr_op rfl rfl (opr_load0 rfl rfl Try.underlying34 rfl size34) ?_
  refine dr_op rfl rfl (opr_move rfl rfl) ?_
  refine dr_op rfl rfl (opr_nilCheck rfl rfl) ?_
  refine dr_op rfl rfl (opr_slice (a := 24) (b := 32) (off' := ox + 24) rfl rfl rfl rfl Try.underlying29 (by decide) (by decide) (by decide) size5 rfl) ?_
  refine dr_op rfl rfl (opr_move rfl rfl) ?_
  refine dr_last rfl rfl (opr_call rfl rfl rfl Try.func14 (by kernel_rfl) rfl (putUint64_ct (get_set (get_set (get_set hx))) (Nat.le_trans (by omega) (ple (ple (ple hle (by omega)) (by omega)) (by omega))) (Nat.mod_lt _ (by decide)) (by decide))) ?_
  refine at_then ?_
  refine at_seq ?_
  refine at_draw (by kernel_rfl) (by kernel_rfl) (by kernel_rfl) (List.cons_ne_nil _ _) ?_
  refine dr_op rfl rfl (opr_load0 rfl rfl Try.underlying34 rfl size34) ?_
  refine dr_op rfl rfl (opr_move rfl rfl) ?_
  refine dr_op rfl rfl (opr_nilCheck rfl rfl) ?_
  refine dr_op rfl rfl (opr_slice (a := 32) (b := 40) (off' := ox + 32) rfl rfl rfl rfl Try.underlying29 (by decide) (by decide) (by decide) size5 rfl) ?_
  refine dr_op rfl rfl (opr_move rfl rfl) ?_
  refine dr_last rfl rfl (opr_call rfl rfl rfl Try.func14 (by kernel_rfl) rfl (putUint64_ct (get_set (get_set (get_set (get_set hx)))) (Nat.le_trans (by omega) (ple (ple (ple (ple hle (by omega)) (by omega)) (by omega)) (by omega))) (Nat.mod_lt _ (by decide)) (by decide))) ?_
  refine at_then ?_
  refine at_seq ?_
  refine at_draw (by kernel_rfl) (by kernel_rfl) (by kernel_rfl) (List.cons_ne_nil _ _) ?_
  refine dr_op rfl rfl (opr_load0 rfl rfl Try.underlying34 rfl size34) ?_
  refine dr_op rfl rfl (opr_move rfl rfl) ?_
  refine dr_op rfl rfl (opr_nilCheck rfl rfl) ?_
  refine dr_op rfl rfl (opr_slice (a := 40) (b := 48) (off' := ox + 40) rfl rfl rfl rfl Try.underlying29 (by decide) (by decide) (by decide) size5 rfl) ?_
  refine dr_op rfl rfl (opr_move rfl rfl) ?_
  refine dr_last rfl rfl (opr_call rfl rfl rfl Try.func14 (by kernel_rfl) rfl (putUint64_ct (get_set (get_set (get_set (get_set (get_set hx))))) (Nat.le_trans (by omega) (ple (ple (ple (ple (ple hle (by omega)) (by omega)) (by omega)) (by omega)) (by omega))) (Nat.mod_lt _ (by decide)) (by decide))) ?_
  refine at_then ?_
  refine at_seq ?_
  refine at_draw (by kernel_rfl) (by kernel_rfl) (by kernel_rfl) (List.cons_ne_nil _ _) ?_
  refine dr_op rfl rfl (opr_load0 rfl rfl Try.underlying34 rfl size34) ?_
  refine dr_op rfl rfl (opr_move rfl rfl) ?_
  refine dr_op rfl rfl (opr_nilCheck rfl rfl) ?_
  refine dr_op rfl rfl (opr_slice (a := 48) (b := 56) (off' := ox + 48) rfl rfl rfl rfl Try.underlying29 (by decide) (by decide) (by decide) size5 rfl) ?_
  refine dr_op rfl rfl (opr_move rfl rfl) ?_
  refine dr_last rfl rfl (opr_call rfl rfl rfl Try.func14 (by kernel_rfl) rfl (putUint64_ct (get_set (get_set (get_set (get_set (get_set (get_set hx)))))) (Nat.le_trans (by omega) (ple (ple (ple (ple (ple (ple hle (by omega)) (by omega)) (by omega)) (by omega)) (by omega)) (by omega))) (Nat.mod_lt _ (by decide)) (by decide))) ?_
  refine at_mem0 (M2 := M.set ix ⟨gx, Tx, EE (lx.set kx b)⟩) ((put7 (List.getElem?_eq_some_iff.1 hkx).1 hox (Nat.mod_lt _ (by decide)) (Nat.mod_lt _ (by decide)) (Nat.mod_lt _ (by decide)) (Nat.mod_lt _ (by decide)) (Nat.mod_lt _ (by decide)) (Nat.mod_lt _ (by decide)) (Nat.mod_lt _ (by decide))).trans (congrArg (fun r => M.set ix ⟨gx, Tx, EE (lx.set kx r)⟩) (words7 hb))) ?_
  have hy2 : (M.set ix ⟨gx, Tx, EE (lx.set kx b)⟩)[iy]? = some ⟨gy, Ty, EE ly⟩ := get_set_ne hy hne
  refine at_then ?_
  refine at_seq ?_
  refine at_draw (by kernel_rfl) (by kernel_rfl) (by kernel_rfl) (List.cons_ne_nil _ _) ?_
  refine dr_op rfl rfl (opr_load0 rfl rfl Try.underlying34 rfl size34) ?_
  refine dr_op rfl rfl (opr_move rfl rfl) ?_
  refine dr_op rfl rfl (opr_nilCheck rfl rfl) ?_
  refine dr_op rfl rfl (opr_slice (a := 0) (b := 8) (off' := oy) rfl rfl rfl rfl Try.underlying29 (by decide) (by decide) (by decide) size5 rfl) ?_
  refine dr_op rfl rfl (opr_move rfl rfl) ?_
  refine dr_last rfl rfl (opr_call rfl rfl rfl Try.func14 (by kernel_rfl) rfl (putUint64_ct hy2 (Nat.le_trans (by omega) hle2) (Nat.mod_lt _ (by decide)) (by decide))) ?_
  refine at_then ?_
  refine at_seq ?_
  refine at_draw (by kernel_rfl) (by kernel_rfl) (by kernel_rfl) (List.cons_ne_nil _ _) ?_
  refine dr_op rfl rfl (opr_load0 rfl rfl Try.underlying34 rfl size34) ?_
  refine dr_op rfl rfl (opr_move rfl rfl) ?_
  refine dr_op rfl rfl (opr_nilCheck rfl rfl) ?_
  refine dr_op rfl rfl (opr_slice (a := 8) (b := 16) (off' := oy + 8) rfl rfl rfl rfl Try.underlying29 (by decide) (by decide) (by decide) size5 rfl) ?_
  refine dr_op rfl rfl (opr_move rfl rfl) ?_
  refine dr_last rfl rfl (opr_call rfl rfl rfl Try.func14 (by kernel_rfl) rfl (putUint64_ct (get_set hy2) (Nat.le_trans (by omega) (ple hle2 (by omega))) (Nat.mod_lt _ (by decide)) (by decide))) ?_
  refine at_then ?_
  refine at_seq ?_
  refine at_draw (by kernel_rfl) (by kernel_rfl) (by kernel_rfl) (List.cons_ne_nil _ _) ?_
  refine dr_op rfl rfl (opr_load0 rfl rfl Try.underlying34 rfl size34) ?_
  refine dr_op rfl rfl (opr_move rfl rfl) ?_
  refine dr_op rfl rfl (opr_nilCheck rfl rfl) ?_
  refine dr_op rfl rfl (opr_slice (a := 16) (b := 24) (off' := oy + 16) rfl rfl rfl rfl Try.underlying29 (by decide) (by decide) (by decide) size5 rfl) ?_
  refine dr_op rfl rfl (opr_move rfl rfl) ?_
  refine dr_last rfl rfl (opr_call rfl rfl rfl Try.func14 (by kernel_rfl) rfl (putUint64_ct (get_set (get_set hy2)) (Nat.le_trans (by omega) (ple (ple hle2 (by omega)) (by omega))) (Nat.mod_lt _ (by decide)) (by decide))) ?_
  refine at_then ?_
  refine at_seq ?_
  refine at_draw (by kernel_rfl) (by kernel_rfl) (by kernel_rfl) (List.cons_ne_nil _ _) ?_
  refine dr_op rfl rfl (opr_load0 rfl rfl Try.underlying34 rfl size34) ?_
  refine dr_op rfl rfl (opr_move rfl rfl) ?_
  refine dr_op rfl rfl (opr_nilCheck rfl rfl) ?_
  refine dr_op rfl rfl (opr_slice (a := 24) (b := 32) (off' := oy + 24) rfl rfl rfl rfl Try.underlying29 (by decide) (by decide) (by decide) size5 rfl) ?_
  refine dr_op rfl rfl (opr_move rfl rfl) ?_
  refine dr_last rfl rfl (opr_call rfl rfl rfl Try.func14 (by kernel_rfl) rfl (putUint64_ct (get_set (get_set (get_set hy2))) (Nat.le_trans (by omega) (ple (ple (ple hle2 (by omega)) (by omega)) (by omega))) (Nat.mod_lt _ (by decide)) (by decide))) ?_
  refine at_then ?_
  refine at_seq ?_
  refine at_draw (by kernel_rfl) (by kernel_rfl) (by kernel_rfl) (List.cons_ne_nil _ _) ?_
  refine dr_op rfl rfl (opr_load0 rfl rfl Try.underlying34 rfl size34) ?_
  refine dr_op rfl rfl (opr_move rfl rfl) ?_
  refine dr_op rfl rfl (opr_nilCheck rfl rfl) ?_
  refine dr_op rfl rfl (opr_slice (a := 32) (b := 40) (off' := oy + 32) rfl rfl rfl rfl Try.underlying29 (by decide) (by decide) (by decide) size5 rfl) ?_
  refine dr_op rfl rfl (opr_move rfl rfl) ?_
  refine dr_last rfl rfl (opr_call rfl rfl rfl Try.func14 (by kernel_rfl) rfl (putUint64_ct (get_set (get_set (get_set (get_set hy2)))) (Nat.le_trans (by omega) (ple (ple (ple (ple hle2 (by omega)) (by omega)) (by omega)) (by omega))) (Nat.mod_lt _ (by decide)) (by decide))) ?_
  refine at_then ?_
  refine at_seq ?_
  refine at_draw (by kernel_rfl) (by kernel_rfl) (by kernel_rfl) (List.cons_ne_nil _ _) ?_
  refine dr_op rfl rfl (opr_load0 rfl rfl Try.underlying34 rfl size34) ?_
  refine dr_op rfl rfl (opr_move rfl rfl) ?_
  refine dr_op rfl rfl (opr_nilCheck rfl rfl) ?_
  refine dr_op rfl rfl (opr_slice (a := 40) (b := 48) (off' := oy + 40) rfl rfl rfl rfl Try.underlying29 (by decide) (by decide) (by decide) size5 rfl) ?_
  refine dr_op rfl rfl (opr_move rfl rfl) ?_
  refine dr_last rfl rfl (opr_call rfl rfl rfl Try.func14 (by kernel_rfl) rfl (putUint64_ct (get_set (get_set (get_set (get_set (get_set hy2))))) (Nat.le_trans (by omega) (ple (ple (ple (ple (ple hle2 (by omega)) (by omega)) (by omega)) (by omega)) (by omega))) (Nat.mod_lt _ (by decide)) (by decide))) ?_
  refine at_then ?_
  refine at_draw (by kernel_rfl) (by kernel_rfl) (by kernel_rfl) (List.cons_ne_nil _ _) ?_
  refine dr_op rfl rfl (opr_load0 rfl rfl Try.underlying34 rfl size34) ?_
  refine dr_op rfl rfl (opr_move rfl rfl) ?_
  refine dr_op rfl rfl (opr_nilCheck rfl rfl) ?_
  refine dr_op rfl rfl (opr_slice (a := 48) (b := 56) (off' := oy + 48) rfl rfl rfl rfl Try.underlying29 (by decide) (by decide) (by decide) size5 rfl) ?_
  refine dr_op rfl rfl (opr_move rfl rfl) ?_
  refine dr_last rfl rfl (opr_call rfl rfl rfl Try.func14 (by kernel_rfl) rfl (putUint64_ct (get_set (get_set (get_set (get_set (get_set (get_set hy2)))))) (Nat.le_trans (by omega) (ple (ple (ple (ple (ple (ple hle2 (by omega)) (by omega)) (by omega)) (by omega)) (by omega)) (by omega))) (Nat.mod_lt _ (by decide)) (by decide))) ?_
  exact done_of (res0 rfl) ⟨rfl, (put7 (List.getElem?_eq_some_iff.1 hky).1 hoy (Nat.mod_lt _ (by decide)) (Nat.mod_lt _ (by decide)) (Nat.mod_lt _ (by decide)) (Nat.mod_lt _ (by decide)) (Nat.mod_lt _ (by decide)) (Nat.mod_lt _ (by decide)) (Nat.mod_lt _ (by decide))).trans (congrArg (fun r => (M.set ix ⟨gx, Tx, EE (lx.set kx b)⟩).set iy ⟨gy, Ty, EE (ly.set ky r)⟩) (words7 ha))⟩ (List.Sublist.refl _)
theorem Cswap_ct {t : Nat} (ht : t = 0 ∨ t = 1) {M : Mem} {ix iy gx gy Tx Ty kx ky ox oy a b : Nat} {lx ly : List Nat} (hx : M[ix]? = some ⟨gx, Tx, EE lx⟩) (hkx : lx[kx]? = some a) (hox : 56 * kx = ox) (hy : M[iy]? = some ⟨gy, Ty, EE ly⟩) (hky : ly[ky]? = some b) (hoy : 56 * ky = oy) (hne : ix ≠ iy) (ha : a < RR) (hb : b < RR) : Ct Try.prog 7 #[.pointer (some ⟨gx, ox, none⟩), .pointer (some ⟨gy, oy, none⟩), .int .u64 (t : Int)] M (Det (.tuple #[]) ((M.set ix ⟨gx, Tx, EE (lx.set kx (sel t a b))⟩).set iy ⟨gy, Ty, EE (ly.set ky (sel t b a))⟩)) := by
  rcases ht with rfl | rfl
  · exact Cswap_pass (cswap_pass (cswapGeneric0_ct hx hkx hox hy hky hoy hne ha hb) (fun _ _ h => h.1)) (fun _ _ h => h.1)
  · exact Cswap_pass (cswap_pass (cswapGeneric1_ct hx hkx hox hy hky hoy hne ha hb) (fun _ _ h => h.1)) (fun _ _ h => h.1)
theorem iCmov_ct {t : Nat} (ht : t = 0 ∨ t = 1) {M : Mem} {a b : Nat} (ha : a < RR) (hb : b < RR) : Ct Try.prog 5 #[.agg (E a).toArray, .agg (E b).toArray, .int .u64 (t : Int)] M (Det (.agg (E (sel t a b)).toArray) M) := by
  refine ct_of (vs := [.agg (E a).toArray, .agg (E b).toArray, .int .u64 (t : Int)]) Try.func5 rfl Try.ntmps5 rfl fun w0 => ?_
  refine at_seq ?_
  refine at_region ?_
  refine at_n rfl rfl (opr_box (cs := EE [a]) rfl rfl (E_box _)) ?_
  intro g0
  refine at_n rfl rfl (opr_box (cs := EE [b]) rfl rfl (E_box _)) ?_
  intro g1
  refine at_n rfl rfl (opr_alloc rfl zero22 rfl) ?_
  intro g2
  refine at_nil ?_
  refine at_then ?_
  refine at_seq ?_
  refine at_drawG (B := [⟨g2, 22, EE [0]⟩, ⟨g1, 22, EE [b]⟩, ⟨g0, 22, EE [a]⟩]) (E := [⟨.pure [2], 0, [], .v (.agg (E (a)).toArray)⟩, ⟨.pure [1], 0, [], .v (.agg (E (b)).toArray)⟩, ⟨.alloc, 29, EE [0], .p 2 0⟩, ⟨.alloc, 29, EE [0], .p 3 0⟩, ⟨.storeA 2, 0, EE [a], .v undef⟩, ⟨.storeA 3, 0, EE [b], .v undef⟩]) (by kernel_rfl) (by kernel_rfl) (by kernel_rfl) (fun γ0 => ?_)
  refine gs_pure rfl rfl (fun M' sB sT => ?_) ?_
  · obtain ⟨iB2, hB2⟩ := sB 2 _ rfl rfl; exact opr_load (i := iB2) rfl rfl hB2 Try.underlying22 rfl size22 (E_length _) (EE_at (k := 0) rfl rfl rfl)
  refine gs_pure rfl rfl (fun M' sB sT => ?_) ?_
  · obtain ⟨iB1, hB1⟩ := sB 1 _ rfl rfl; exact opr_load (i := iB1) rfl rfl hB1 Try.underlying22 rfl size22 (E_length _) (EE_at (k := 0) rfl rfl rfl)
  refine gs_alloc rfl rfl (fun M' => opr_alloc rfl zero29 rfl) ?_
  refine gs_alloc rfl rfl (fun M' => opr_alloc rfl zero29 rfl) ?_
  refine gs_storeA rfl rfl rfl rfl rfl (fun M' j hj => opr_store (i := j) rfl rfl rfl rfl hj size29 (E_length _) (by rw [EE_length]; exact Nat.le_of_ble_eq_true rfl) (E_flat _) (EE_set (k := 0) (Nat.le_of_ble_eq_true rfl) rfl)) ?_
  refine gs_storeA rfl rfl rfl rfl rfl (fun M' j hj => opr_store (i := j) rfl rfl rfl rfl hj size29 (E_length _) (by rw [EE_length]; exact Nat.le_of_ble_eq_true rfl) (E_flat _) (EE_set (k := 0) (Nat.le_of_ble_eq_true rfl) rfl)) ?_
  refine gs_nil ?_
  refine (show At _ _ (⟨(γ0 3), 29, EE [b]⟩ :: ⟨(γ0 2), 29, EE [a]⟩ :: ⟨g2, 22, EE [0]⟩ :: ⟨g1, 22, EE [b]⟩ :: ⟨g0, 22, EE [a]⟩ :: _) _ from ?_)
  refine at_then ?_
  refine at_seq ?_
  refine at_region ?_
  refine at_d rfl rfl (opr_move rfl rfl) ?_
  refine at_d rfl rfl (opr_call rfl rfl rfl Try.func8 (by kernel_rfl) rfl (Cmov_ct ht (ix := 1) (iy := 0) (kx := 0) (ky := 0) rfl rfl rfl rfl rfl rfl ha hb)) ?_
  refine at_nil ?_
  refine at_then ?_
  refine at_seq ?_
  refine at_region ?_
  refine at_d rfl rfl (opr_load (i := 1) rfl rfl rfl Try.underlying29 rfl size29 (E_length _) (EE_at (k := 0) rfl rfl rfl)) ?_
  refine at_d rfl rfl (opr_store (i := 2) rfl rfl rfl rfl rfl size22 (E_length _) (by rw [EE_length]; exact Nat.le_of_ble_eq_true rfl) (E_flat _) (EE_set (k := 0) (Nat.le_of_ble_eq_true rfl) rfl)) ?_
  refine at_nil ?_
  refine at_then ?_
  refine at_ret ?_
  exact done_of (res1 Try.results5 (res_cell (i := 2) rfl rfl Try.underlying22 rfl size22 (E_length _) (EE_at (k := 0) rfl rfl rfl))) ⟨rfl, rfl⟩ (by repeat (first | exact List.Sublist.refl _ | apply List.Sublist.cons))
theorem iCswap_ct {t : Nat} (ht : t = 0 ∨ t = 1) {M : Mem} {a b : Nat} (ha : a < RR) (hb : b < RR) : Ct Try.prog 4 #[.agg (E a).toArray, .agg (E b).toArray, .int .u64 (t : Int)] M (Det (.tuple #[.agg (E (sel t a b)).toArray, .agg (E (sel t b a)).toArray]) M) := by
  refine ct_of (vs := [.agg (E a).toArray, .agg (E b).toArray, .int .u64 (t : Int)]) Try.func4 rfl Try.ntmps4 rfl fun w0 => ?_
  refine at_seq ?_
  refine at_region ?_
  refine at_n rfl rfl (opr_box (cs := EE [a]) rfl rfl (E_box _)) ?_
  intro g0
  refine at_n rfl rfl (opr_box (cs := EE [b]) rfl rfl (E_box _)) ?_
  intro g1
  refine at_n rfl rfl (opr_alloc rfl zero22 rfl) ?_
  intro g2
  refine at_n rfl rfl (opr_alloc rfl zero22 rfl) ?_
  intro g3
  refine at_nil ?_
  refine at_then ?_
  refine at_seq ?_
  refine at_drawG (B := [⟨g3, 22, EE [0]⟩, ⟨g2, 22, EE [0]⟩, ⟨g1, 22, EE [b]⟩, ⟨g0, 22, EE [a]⟩]) (E := [⟨.pure [3], 0, [], .v (.agg (E (a)).toArray)⟩, ⟨.pure [2], 0, [], .v (.agg (E (b)).toArray)⟩, ⟨.alloc, 29, EE [0], .p 2 0⟩, ⟨.alloc, 29, EE [0], .p 3 0⟩, ⟨.storeA 2, 0, EE [a], .v undef⟩, ⟨.storeA 3, 0, EE [b], .v undef⟩]) (by kernel_rfl) (by kernel_rfl) (by kernel_rfl) (fun γ0 => ?_)
  refine gs_pure rfl rfl (fun M' sB sT => ?_) ?_
  · obtain ⟨iB3, hB3⟩ := sB 3 _ rfl rfl; exact opr_load (i := iB3) rfl rfl hB3 Try.underlying22 rfl size22 (E_length _) (EE_at (k := 0) rfl rfl rfl)
  refine gs_pure rfl rfl (fun M' sB sT => ?_) ?_
  · obtain ⟨iB2, hB2⟩ := sB 2 _ rfl rfl; exact opr_load (i := iB2) rfl rfl hB2 Try.underlying22 rfl size22 (E_length _) (EE_at (k := 0) rfl rfl rfl)
  refine gs_alloc rfl rfl (fun M' => opr_alloc rfl zero29 rfl) ?_
  refine gs_alloc rfl rfl (fun M' => opr_alloc rfl zero29 rfl) ?_
  refine gs_storeA rfl rfl rfl rfl rfl (fun M' j hj => opr_store (i := j) rfl rfl rfl rfl hj size29 (E_length _) (by rw [EE_length]; exact Nat.le_of_ble_eq_true rfl) (E_flat _) (EE_set (k := 0) (Nat.le_of_ble_eq_true rfl) rfl)) ?_
  refine gs_storeA rfl rfl rfl rfl rfl (fun M' j hj => opr_store (i := j) rfl rfl rfl rfl hj size29 (E_length _) (by rw [EE_length]; exact Nat.le_of_ble_eq_true rfl) (E_flat _) (EE_set (k := 0) (Nat.le_of_ble_eq_true rfl) rfl)) ?_
  refine gs_nil ?_
  refine (show At _ _ (⟨(γ0 3), 29, EE [b]⟩ :: ⟨(γ0 2), 29, EE [a]⟩ :: ⟨g3, 22, EE [0]⟩ :: ⟨g2, 22, EE [0]⟩ :: ⟨g1, 22, EE [b]⟩ :: ⟨g0, 22, EE [a]⟩ :: _) _ from ?_)
  refine at_then ?_
  refine at_seq ?_
  refine at_region ?_
  refine at_d rfl rfl (opr_move rfl rfl) ?_
  refine at_d rfl rfl (opr_call rfl rfl rfl Try.func7 (by kernel_rfl) rfl (Cswap_ct ht (ix := 1) (iy := 0) (kx := 0) (ky := 0) rfl rfl rfl rfl rfl rfl (by decide) ha hb)) ?_
  refine at_nil ?_
  refine at_then ?_
  refine at_seq ?_
  refine at_drawG (B := [⟨(γ0 3), 29, EE [(sel t b a)]⟩, ⟨(γ0 2), 29, EE [(sel t a b)]⟩, ⟨g3, 22, EE [0]⟩, ⟨g2, 22, EE [0]⟩, ⟨g1, 22, EE [b]⟩, ⟨g0, 22, EE [a]⟩]) (E := [⟨.pure [1], 0, [], .v (.agg (E ((sel t a b))).toArray)⟩, ⟨.pure [0], 0, [], .v (.agg (E ((sel t b a))).toArray)⟩, ⟨.storeB 3, 0, EE [(sel t a b)], .v undef⟩, ⟨.storeB 2, 0, EE [(sel t b a)], .v undef⟩]) (by kernel_rfl) (by kernel_rfl) (by kernel_rfl) (fun γ1 => ?_)
  refine gs_pure rfl rfl (fun M' sB sT => ?_) ?_
  · obtain ⟨iB1, hB1⟩ := sB 1 _ rfl rfl; exact opr_load (i := iB1) rfl rfl hB1 Try.underlying29 rfl size29 (E_length _) (EE_at (k := 0) rfl rfl rfl)
  refine gs_pure rfl rfl (fun M' sB sT => ?_) ?_
  · obtain ⟨iB0, hB0⟩ := sB 0 _ rfl rfl; exact opr_load (i := iB0) rfl rfl hB0 Try.underlying29 rfl size29 (E_length _) (EE_at (k := 0) rfl rfl rfl)
  refine gs_storeB rfl rfl rfl (fun M' j hj => opr_store (i := j) rfl rfl rfl rfl hj size22 (E_length _) (by rw [EE_length]; exact Nat.le_of_ble_eq_true rfl) (E_flat _) (EE_set (k := 0) (Nat.le_of_ble_eq_true rfl) rfl)) ?_
  refine gs_storeB rfl rfl rfl (fun M' j hj => opr_store (i := j) rfl rfl rfl rfl hj size22 (E_length _) (by rw [EE_length]; exact Nat.le_of_ble_eq_true rfl) (E_flat _) (EE_set (k := 0) (Nat.le_of_ble_eq_true rfl) rfl)) ?_
  refine gs_nil ?_
  refine (show At _ _ (⟨(γ0 3), 29, EE [(sel t b a)]⟩ :: ⟨(γ0 2), 29, EE [(sel t a b)]⟩ :: ⟨g3, 22, EE [(sel t b a)]⟩ :: ⟨g2, 22, EE [(sel t a b)]⟩ :: ⟨g1, 22, EE [b]⟩ :: ⟨g0, 22, EE [a]⟩ :: _) _ from ?_)
  refine at_then ?_
  refine at_ret ?_
  exact done_of (res2 Try.results4 (res_cell (i := 3) rfl rfl Try.underlying22 rfl size22 (E_length _) (EE_at (k := 0) rfl rfl rfl)) (res_cell (i := 2) rfl rfl Try.underlying22 rfl size22 (E_length _) (EE_at (k := 0) rfl rfl rfl))) ⟨rfl, rfl⟩ (by repeat (first | exact List.Sublist.refl _ | apply List.Sublist.cons))
theorem one_ct {M : Mem} : Ct Try.prog 6 #[] M (Det (.agg (E 1).toArray) M) := by
  refine ct_of (vs := []) Try.func6 rfl Try.ntmps6 rfl fun w0 => ?_
  refine at_seq ?_
  refine at_region ?_
  refine at_n rfl rfl (opr_alloc rfl zero22 rfl) ?_
  intro g0
  refine at_nil ?_
  refine at_then ?_
  refine at_seq ?_
  refine at_region ?_
  refine at_d rfl rfl (opr_buildE rfl rfl (built_small 1) (E_small (by decide))) ?_
  refine at_d rfl rfl (opr_store (i := 0) rfl rfl rfl rfl rfl size22 (E_length _) (by rw [EE_length]; exact Nat.le_of_ble_eq_true rfl) (E_flat _) (EE_set (k := 0) (Nat.le_of_ble_eq_true rfl) rfl)) ?_
  refine at_nil ?_
  refine at_then ?_
  refine at_ret ?_
  refine done_of (res1 Try.results6 (res_cell (i := 0) rfl rfl Try.underlying22 rfl size22 (E_length _) (EE_at (k := 0) rfl rfl rfl))) ⟨rfl, rfl⟩ (by repeat (first | exact List.Sublist.refl _ | apply List.Sublist.cons))
theorem fnMove_ct0 {M : Mem} {a b : Nat} (ha : a < RR) (hb : b < RR) : Ct Try.prog 3 #[.agg (E a).toArray, .agg (E b).toArray, .bool false] M (Det (.bool true) M) := by
  refine ct_of (vs := [.agg (E a).toArray, .agg (E b).toArray, .bool false]) Try.func3 rfl Try.ntmps3 rfl fun w0 => ?_
  refine at_seq ?_
  refine at_region ?_
  refine at_n rfl rfl (opr_box (cs := EE [a]) rfl rfl (E_box _)) ?_
  intro g0
  refine at_n rfl rfl (opr_box (cs := EE [b]) rfl rfl (E_box _)) ?_
  intro g1
  refine at_d rfl rfl (opr_assign rfl rfl) ?_
  refine at_nil ?_
  refine at_then ?_
  refine at_seq ?_
  refine at_region ?_
  refine at_d rfl rfl (opr_assign rfl rfl) ?_
  refine at_nil ?_
  refine at_then ?_
  refine at_seq ?_
  refine at_drawG (B := [⟨g1, 22, EE [b]⟩, ⟨g0, 22, EE [a]⟩]) (E := [⟨.pure [1], 0, [], .v (.agg (E (a)).toArray)⟩, ⟨.pure [0], 0, [], .v (.agg (E (b)).toArray)⟩, ⟨.alloc, 22, EE [0], .p 2 0⟩, ⟨.alloc, 22, EE [0], .p 3 0⟩, ⟨.storeA 2, 0, EE [a], .v undef⟩, ⟨.storeA 3, 0, EE [b], .v undef⟩]) (by kernel_rfl) (by kernel_rfl) (by kernel_rfl) (fun γ0 => ?_)
  refine gs_pure rfl rfl (fun M' sB sT => ?_) ?_
  · obtain ⟨iB1, hB1⟩ := sB 1 _ rfl rfl; exact opr_load (i := iB1) rfl rfl hB1 Try.underlying22 rfl size22 (E_length _) (EE_at (k := 0) rfl rfl rfl)
  refine gs_pure rfl rfl (fun M' sB sT => ?_) ?_
  · obtain ⟨iB0, hB0⟩ := sB 0 _ rfl rfl; exact opr_load (i := iB0) rfl rfl hB0 Try.underlying22 rfl size22 (E_length _) (EE_at (k := 0) rfl rfl rfl)
  refine gs_alloc rfl rfl (fun M' => opr_alloc rfl zero22 rfl) ?_
  refine gs_alloc rfl rfl (fun M' => opr_alloc rfl zero22 rfl) ?_
  refine gs_storeA rfl rfl rfl rfl rfl (fun M' j hj => opr_store (i := j) rfl rfl rfl rfl hj size22 (E_length _) (by rw [EE_length]; exact Nat.le_of_ble_eq_true rfl) (E_flat _) (EE_set (k := 0) (Nat.le_of_ble_eq_true rfl) rfl)) ?_
  refine gs_storeA rfl rfl rfl rfl rfl (fun M' j hj => opr_store (i := j) rfl rfl rfl rfl hj size22 (E_length _) (by rw [EE_length]; exact Nat.le_of_ble_eq_true rfl) (E_flat _) (EE_set (k := 0) (Nat.le_of_ble_eq_true rfl) rfl)) ?_
  refine gs_nil ?_
  refine (show At _ _ (⟨(γ0 3), 22, EE [b]⟩ :: ⟨(γ0 2), 22, EE [a]⟩ :: ⟨g1, 22, EE [b]⟩ :: ⟨g0, 22, EE [a]⟩ :: _) _ from ?_)
  refine at_then ?_
  refine at_seq ?_
  refine at_seq ?_
  refine at_region ?_
  refine at_d rfl rfl (opr_move rfl rfl) ?_
  refine at_nil ?_
  refine at_then ?_
  refine at_cond_false rfl ?_
  refine at_skip ?_
  refine at_then ?_
  refine at_seq ?_
  refine at_region ?_
  refine at_d rfl rfl (opr_load (i := 3) rfl rfl rfl Try.underlying22 rfl size22 (E_length _) (EE_at (k := 0) rfl rfl rfl)) ?_
  refine at_d rfl rfl (opr_load (i := 2) rfl rfl rfl Try.underlying22 rfl size22 (E_length _) (EE_at (k := 0) rfl rfl rfl)) ?_
  refine at_d rfl rfl (opr_move rfl rfl) ?_
  refine at_d rfl rfl (opr_call rfl rfl rfl Try.func4 (by kernel_rfl) rfl (iCswap_ct (t := 0) (.inl rfl) ha hb)) ?_
  refine at_d rfl rfl (opr_move rfl rfl) ?_
  refine at_d rfl rfl (opr_extract rfl rfl rfl) ?_
  refine at_d rfl rfl (opr_extract rfl rfl rfl) ?_
  refine at_n rfl rfl (opr_alloc rfl zero22 rfl) ?_
  intro g2
  refine at_n rfl rfl (opr_alloc rfl zero22 rfl) ?_
  intro g3
  refine at_d rfl rfl (opr_store (i := 1) rfl rfl rfl rfl rfl size22 (E_length _) (by rw [EE_length]; exact Nat.le_of_ble_eq_true rfl) (E_flat _) (EE_set (k := 0) (Nat.le_of_ble_eq_true rfl) rfl)) ?_
  refine at_d rfl rfl (opr_store (i := 0) rfl rfl rfl rfl rfl size22 (E_length _) (by rw [EE_length]; exact Nat.le_of_ble_eq_true rfl) (E_flat _) (EE_set (k := 0) (Nat.le_of_ble_eq_true rfl) rfl)) ?_
  refine at_nil ?_
  refine at_then ?_
  refine at_seq ?_
  refine at_drawQ (by kernel_rfl) (by kernel_rfl) (List.cons_ne_nil _ _) ?_
  refine dr_op rfl rfl (opr_load (i := 5) rfl rfl rfl Try.underlying22 rfl size22 (E_length _) (EE_at (k := 0) rfl rfl rfl)) ?_
  refine dr_op rfl rfl (opr_load (i := 4) rfl rfl rfl Try.underlying22 rfl size22 (E_length _) (EE_at (k := 0) rfl rfl rfl)) ?_
  refine dr_op rfl rfl (opr_move rfl rfl) ?_
  refine dr_op rfl rfl (opr_call rfl rfl rfl Try.func5 (by kernel_rfl) rfl (iCmov_ct (t := 0) (.inl rfl) ha hb)) ?_
  refine dr_op rfl rfl (opr_load (i := 3) rfl rfl rfl Try.underlying22 rfl size22 (E_length _) (EE_at (k := 0) rfl rfl rfl)) ?_
  refine dr_op rfl rfl (opr_eqlT rfl rfl rfl Try.underlying22 Try.underlying5 size5 (by kernel_rfl) rfl ha) ?_
  refine dr_op rfl rfl (opr_move rfl rfl) ?_
  refine dr_op rfl rfl (opr_load (i := 1) rfl rfl rfl Try.underlying22 rfl size22 (E_length _) (EE_at (k := 0) rfl rfl rfl)) ?_
  refine dr_op rfl rfl (opr_load (i := 3) rfl rfl rfl Try.underlying22 rfl size22 (E_length _) (EE_at (k := 0) rfl rfl rfl)) ?_
  refine dr_op rfl rfl (opr_eqlT rfl rfl rfl Try.underlying22 Try.underlying5 size5 (by kernel_rfl) rfl ha) ?_
  refine dr_op rfl rfl (opr_pickT rfl rfl rfl) ?_
  refine dr_op rfl rfl (opr_move rfl rfl) ?_
  refine dr_op rfl rfl (opr_load (i := 0) rfl rfl rfl Try.underlying22 rfl size22 (E_length _) (EE_at (k := 0) rfl rfl rfl)) ?_
  refine dr_op rfl rfl (opr_load (i := 2) rfl rfl rfl Try.underlying22 rfl size22 (E_length _) (EE_at (k := 0) rfl rfl rfl)) ?_
  refine dr_op rfl rfl (opr_eqlT rfl rfl rfl Try.underlying22 Try.underlying5 size5 (by kernel_rfl) rfl hb) ?_
  refine dr_op rfl rfl (opr_pickT rfl rfl rfl) ?_
  refine dr_op rfl rfl (opr_move rfl rfl) ?_
  refine dr_op rfl rfl (opr_buildE rfl rfl built_zero E_zero0) ?_
  refine dr_op rfl rfl (opr_call rfl rfl rfl Try.func6 (by kernel_rfl) rfl (one_ct)) ?_
  refine dr_op rfl rfl (opr_call rfl rfl rfl Try.func5 (by kernel_rfl) rfl (iCmov_ct (t := 1) (.inr rfl) RR_zero RR_one)) ?_
  refine dr_op rfl rfl (opr_call rfl rfl rfl Try.func6 (by kernel_rfl) rfl (one_ct)) ?_
  refine dr_op rfl rfl (opr_eqlT rfl rfl rfl Try.underlying22 Try.underlying5 size5 (by kernel_rfl) rfl RR_one) ?_
  refine dr_op rfl rfl (opr_pickT rfl rfl rfl) ?_
  refine dr_last rfl rfl (opr_assign rfl rfl) ?_
  refine ⟨rfl, ?_⟩
  refine at_then ?_
  refine at_ret ?_
  refine done_of (res1 Try.results3 (res_tmp rfl)) ⟨rfl, rfl⟩ (by repeat (first | exact List.Sublist.refl _ | apply List.Sublist.cons))
theorem fnMove_ct1 {M : Mem} {a b : Nat} (ha : a < RR) (hb : b < RR) : Ct Try.prog 3 #[.agg (E a).toArray, .agg (E b).toArray, .bool true] M (Det (.bool true) M) := by
  refine ct_of (vs := [.agg (E a).toArray, .agg (E b).toArray, .bool true]) Try.func3 rfl Try.ntmps3 rfl fun w0 => ?_
  refine at_seq ?_
  refine at_region ?_
  refine at_n rfl rfl (opr_box (cs := EE [a]) rfl rfl (E_box _)) ?_
  intro g0
  refine at_n rfl rfl (opr_box (cs := EE [b]) rfl rfl (E_box _)) ?_
  intro g1
  refine at_d rfl rfl (opr_assign rfl rfl) ?_
  refine at_nil ?_
  refine at_then ?_
  refine at_seq ?_
  refine at_region ?_
  refine at_d rfl rfl (opr_assign rfl rfl) ?_
  refine at_nil ?_
  refine at_then ?_
  refine at_seq ?_
  refine at_drawG (B := [⟨g1, 22, EE [b]⟩, ⟨g0, 22, EE [a]⟩]) (E := [⟨.pure [1], 0, [], .v (.agg (E (a)).toArray)⟩, ⟨.pure [0], 0, [], .v (.agg (E (b)).toArray)⟩, ⟨.alloc, 22, EE [0], .p 2 0⟩, ⟨.alloc, 22, EE [0], .p 3 0⟩, ⟨.storeA 2, 0, EE [a], .v undef⟩, ⟨.storeA 3, 0, EE [b], .v undef⟩]) (by kernel_rfl) (by kernel_rfl) (by kernel_rfl) (fun γ0 => ?_)
  refine gs_pure rfl rfl (fun M' sB sT => ?_) ?_
  · obtain ⟨iB1, hB1⟩ := sB 1 _ rfl rfl; exact opr_load (i := iB1) rfl rfl hB1 Try.underlying22 rfl size22 (E_length _) (EE_at (k := 0) rfl rfl rfl)
  refine gs_pure rfl rfl (fun M' sB sT => ?_) ?_
  · obtain ⟨iB0, hB0⟩ := sB 0 _ rfl rfl; exact opr_load (i := iB0) rfl rfl hB0 Try.underlying22 rfl size22 (E_length _) (EE_at (k := 0) rfl rfl rfl)
  refine gs_alloc rfl rfl (fun M' => opr_alloc rfl zero22 rfl) ?_
  refine gs_alloc rfl rfl (fun M' => opr_alloc rfl zero22 rfl) ?_
  refine gs_storeA rfl rfl rfl rfl rfl (fun M' j hj => opr_store (i := j) rfl rfl rfl rfl hj size22 (E_length _) (by rw [EE_length]; exact Nat.le_of_ble_eq_true rfl) (E_flat _) (EE_set (k := 0) (Nat.le_of_ble_eq_true rfl) rfl)) ?_
  refine gs_storeA rfl rfl rfl rfl rfl (fun M' j hj => opr_store (i := j) rfl rfl rfl rfl hj size22 (E_length _) (by rw [EE_length]; exact Nat.le_of_ble_eq_true rfl) (E_flat _) (EE_set (k := 0) (Nat.le_of_ble_eq_true rfl) rfl)) ?_
  refine gs_nil ?_
  refine (show At _ _ (⟨(γ0 3), 22, EE [b]⟩ :: ⟨(γ0 2), 22, EE [a]⟩ :: ⟨g1, 22, EE [b]⟩ :: ⟨g0, 22, EE [a]⟩ :: _) _ from ?_)
  refine at_then ?_
  refine at_seq ?_
  refine at_seq ?_
  refine at_region ?_
  refine at_d rfl rfl (opr_move rfl rfl) ?_
  refine at_nil ?_
  refine at_then ?_
  refine at_cond_true rfl ?_
  refine at_seq ?_
  refine at_region ?_
  refine at_d rfl rfl (opr_assign rfl rfl) ?_
  refine at_nil ?_
  refine at_then ?_
  refine at_drawG (B := [⟨(γ0 3), 22, EE [b]⟩, ⟨(γ0 2), 22, EE [a]⟩, ⟨g1, 22, EE [b]⟩, ⟨g0, 22, EE [a]⟩]) (E := [⟨.pure [2], 0, [], .v (.agg (E (b)).toArray)⟩, ⟨.pure [3], 0, [], .v (.agg (E (a)).toArray)⟩, ⟨.storeB 1, 0, EE [b], .v undef⟩, ⟨.storeB 0, 0, EE [a], .v undef⟩]) (by kernel_rfl) (by kernel_rfl) (by kernel_rfl) (fun γ1 => ?_)
  refine gs_pure rfl rfl (fun M' sB sT => ?_) ?_
  · obtain ⟨iB2, hB2⟩ := sB 2 _ rfl rfl; exact opr_load (i := iB2) rfl rfl hB2 Try.underlying22 rfl size22 (E_length _) (EE_at (k := 0) rfl rfl rfl)
  refine gs_pure rfl rfl (fun M' sB sT => ?_) ?_
  · obtain ⟨iB3, hB3⟩ := sB 3 _ rfl rfl; exact opr_load (i := iB3) rfl rfl hB3 Try.underlying22 rfl size22 (E_length _) (EE_at (k := 0) rfl rfl rfl)
  refine gs_storeB rfl rfl rfl (fun M' j hj => opr_store (i := j) rfl rfl rfl rfl hj size22 (E_length _) (by rw [EE_length]; exact Nat.le_of_ble_eq_true rfl) (E_flat _) (EE_set (k := 0) (Nat.le_of_ble_eq_true rfl) rfl)) ?_
  refine gs_storeB rfl rfl rfl (fun M' j hj => opr_store (i := j) rfl rfl rfl rfl hj size22 (E_length _) (by rw [EE_length]; exact Nat.le_of_ble_eq_true rfl) (E_flat _) (EE_set (k := 0) (Nat.le_of_ble_eq_true rfl) rfl)) ?_
  refine gs_nil ?_
  refine (show At _ _ (⟨(γ0 3), 22, EE [a]⟩ :: ⟨(γ0 2), 22, EE [b]⟩ :: ⟨g1, 22, EE [b]⟩ :: ⟨g0, 22, EE [a]⟩ :: _) _ from ?_)
  refine at_then ?_
  refine at_seq ?_
  refine at_region ?_
  refine at_d rfl rfl (opr_load (i := 3) rfl rfl rfl Try.underlying22 rfl size22 (E_length _) (EE_at (k := 0) rfl rfl rfl)) ?_
  refine at_d rfl rfl (opr_load (i := 2) rfl rfl rfl Try.underlying22 rfl size22 (E_length _) (EE_at (k := 0) rfl rfl rfl)) ?_
  refine at_d rfl rfl (opr_move rfl rfl) ?_
  refine at_d rfl rfl (opr_call rfl rfl rfl Try.func4 (by kernel_rfl) rfl (iCswap_ct (t := 1) (.inr rfl) ha hb)) ?_
  refine at_d rfl rfl (opr_move rfl rfl) ?_
  refine at_d rfl rfl (opr_extract rfl rfl rfl) ?_
  refine at_d rfl rfl (opr_extract rfl rfl rfl) ?_
  refine at_n rfl rfl (opr_alloc rfl zero22 rfl) ?_
  intro g2
  refine at_n rfl rfl (opr_alloc rfl zero22 rfl) ?_
  intro g3
  refine at_d rfl rfl (opr_store (i := 1) rfl rfl rfl rfl rfl size22 (E_length _) (by rw [EE_length]; exact Nat.le_of_ble_eq_true rfl) (E_flat _) (EE_set (k := 0) (Nat.le_of_ble_eq_true rfl) rfl)) ?_
  refine at_d rfl rfl (opr_store (i := 0) rfl rfl rfl rfl rfl size22 (E_length _) (by rw [EE_length]; exact Nat.le_of_ble_eq_true rfl) (E_flat _) (EE_set (k := 0) (Nat.le_of_ble_eq_true rfl) rfl)) ?_
  refine at_nil ?_
  refine at_then ?_
  refine at_seq ?_
  refine at_drawQ (by kernel_rfl) (by kernel_rfl) (List.cons_ne_nil _ _) ?_
  refine dr_op rfl rfl (opr_load (i := 5) rfl rfl rfl Try.underlying22 rfl size22 (E_length _) (EE_at (k := 0) rfl rfl rfl)) ?_
  refine dr_op rfl rfl (opr_load (i := 4) rfl rfl rfl Try.underlying22 rfl size22 (E_length _) (EE_at (k := 0) rfl rfl rfl)) ?_
  refine dr_op rfl rfl (opr_move rfl rfl) ?_
  refine dr_op rfl rfl (opr_call rfl rfl rfl Try.func5 (by kernel_rfl) rfl (iCmov_ct (t := 1) (.inr rfl) ha hb)) ?_
  refine dr_op rfl rfl (opr_load (i := 3) rfl rfl rfl Try.underlying22 rfl size22 (E_length _) (EE_at (k := 0) rfl rfl rfl)) ?_
  refine dr_op rfl rfl (opr_eqlT rfl rfl rfl Try.underlying22 Try.underlying5 size5 (by kernel_rfl) rfl hb) ?_
  refine dr_op rfl rfl (opr_move rfl rfl) ?_
  refine dr_op rfl rfl (opr_load (i := 1) rfl rfl rfl Try.underlying22 rfl size22 (E_length _) (EE_at (k := 0) rfl rfl rfl)) ?_
  refine dr_op rfl rfl (opr_load (i := 3) rfl rfl rfl Try.underlying22 rfl size22 (E_length _) (EE_at (k := 0) rfl rfl rfl)) ?_
  refine dr_op rfl rfl (opr_eqlT rfl rfl rfl Try.underlying22 Try.underlying5 size5 (by kernel_rfl) rfl hb) ?_
  refine dr_op rfl rfl (opr_pickT rfl rfl rfl) ?_
  refine dr_op rfl rfl (opr_move rfl rfl) ?_
  refine dr_op rfl rfl (opr_load (i := 0) rfl rfl rfl Try.underlying22 rfl size22 (E_length _) (EE_at (k := 0) rfl rfl rfl)) ?_
  refine dr_op rfl rfl (opr_load (i := 2) rfl rfl rfl Try.underlying22 rfl size22 (E_length _) (EE_at (k := 0) rfl rfl rfl)) ?_
  refine dr_op rfl rfl (opr_eqlT rfl rfl rfl Try.underlying22 Try.underlying5 size5 (by kernel_rfl) rfl ha) ?_
  refine dr_op rfl rfl (opr_pickT rfl rfl rfl) ?_
  refine dr_op rfl rfl (opr_move rfl rfl) ?_
  refine dr_op rfl rfl (opr_buildE rfl rfl built_zero E_zero0) ?_
  refine dr_op rfl rfl (opr_call rfl rfl rfl Try.func6 (by kernel_rfl) rfl (one_ct)) ?_
  refine dr_op rfl rfl (opr_call rfl rfl rfl Try.func5 (by kernel_rfl) rfl (iCmov_ct (t := 1) (.inr rfl) RR_zero RR_one)) ?_
  refine dr_op rfl rfl (opr_call rfl rfl rfl Try.func6 (by kernel_rfl) rfl (one_ct)) ?_
  refine dr_op rfl rfl (opr_eqlT rfl rfl rfl Try.underlying22 Try.underlying5 size5 (by kernel_rfl) rfl RR_one) ?_
  refine dr_op rfl rfl (opr_pickT rfl rfl rfl) ?_
  refine dr_last rfl rfl (opr_assign rfl rfl) ?_
  refine ⟨rfl, ?_⟩
  refine at_then ?_
  refine at_ret ?_
  refine done_of (res1 Try.results3 (res_tmp rfl)) ⟨rfl, rfl⟩ (by repeat (first | exact List.Sublist.refl _ | apply List.Sublist.cons))
theorem fnMove_ct {M : Mem} {a b : Nat} {c : Bool} (ha : a < RR) (hb : b < RR) : Ct Try.prog 3 #[.agg (E a).toArray, .agg (E b).toArray, .bool c] M (Det (.bool true) M) := by
  cases c
  · exact fnMove_ct0 ha hb
  · exact fnMove_ct1 ha hb
end Go.Proofs.Ytcddfhafnaobjaa
