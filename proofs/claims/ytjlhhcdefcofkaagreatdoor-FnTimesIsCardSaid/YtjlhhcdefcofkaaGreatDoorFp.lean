/- The field's functions: sums, differences. -/
import Derived.Test.YtjlhhcdefcofkaaGreatDoorBin
import Derived.Test.YtjlhhcdefcofkaaGreatDoorWords
import Derived.Shelf.Spec.BitsCarry
namespace Go.Proofs.YtjlhhcdefcofkaaGreatDoor
open Go
set_option maxRecDepth 100000
theorem size131 : (Tryz.prog.info? 131).map (·.size) = some 0 := by kernel_rfl
theorem ple {cs : List Value} {a n x : Nat} (h : n ≤ cs.length) (ha : a + 8 ≤ n) : n ≤ (splice cs a (B8 x)).length := by
  rw [splice_length (by rw [B8_length]; omega)]; exact h
def Add64R (a b c : Nat) (M : Mem) : Value → Mem → Prop := fun v M' => ∃ s k : Nat, v = .tuple #[.int .u64 (s : Int), .int .u64 (k : Int)] ∧ s + 18446744073709551616 * k = a + b + c ∧ s < 18446744073709551616 ∧ k ≤ 1 ∧ M' = M
theorem opr_Add64 {St : Slots} {M : Mem} {o : Oper} {xs : List Operand} {ts : Array TypeId} {fo : Operand} {a b c : Nat} (ho : o.op = .call { callee := .value fo, args := xs.toArray, argTypes := ts })
    (hfo : evalS St fo = some (.func (.func 92) #[] #[])) (hxs : evalL St xs = some [.int .u64 (a : Int), .int .u64 (b : Int), .int .u64 (c : Int)]) (hc : c ≤ 1) (ha : a < 18446744073709551616) (hb : b < 18446744073709551616) : OpR Tryz.prog St M o (Add64R a b c M) := by
  have h := opr_extern (P := Tryz.prog) (M := M) (v := .tuple #[.int .u64 (((a : Int) + b + c) % 18446744073709551616), .int .u64 (((a : Int) + b + c) / 18446744073709551616)]) ho hfo hxs (fun w => by
    rw [run_callFunc_extern Tryz.func92 (by kernel_rfl) (by kernel_rfl) (by kernel_rfl) (e := add64Entry) (by kernel_rfl), run_add64 a b c (by omega) (by omega) (by omega) (by omega)]
    rfl)
  refine h.mono ?_
  rintro v M' ⟨rfl, rfl⟩
  refine ⟨(a + b + c) % 18446744073709551616, (a + b + c) / 18446744073709551616, ?_, by omega, by omega, by omega, rfl⟩
  congr 4 <;> omega
def Sub64R (a b c : Nat) (M : Mem) : Value → Mem → Prop := fun v M' => ∃ s k : Nat, v = .tuple #[.int .u64 (s : Int), .int .u64 (k : Int)] ∧ s + b + c = a + 18446744073709551616 * k ∧ s < 18446744073709551616 ∧ k ≤ 1 ∧ M' = M
theorem opr_Sub64 {St : Slots} {M : Mem} {o : Oper} {xs : List Operand} {ts : Array TypeId} {fo : Operand} {a b c : Nat} (ho : o.op = .call { callee := .value fo, args := xs.toArray, argTypes := ts })
    (hfo : evalS St fo = some (.func (.func 96) #[] #[])) (hxs : evalL St xs = some [.int .u64 (a : Int), .int .u64 (b : Int), .int .u64 (c : Int)]) (hc : c ≤ 1) (ha : a < 18446744073709551616) (hb : b < 18446744073709551616) : OpR Tryz.prog St M o (Sub64R a b c M) := by
  have h := opr_extern (P := Tryz.prog) (M := M) (v := .tuple #[.int .u64 (((a + 18446744073709551616 - b - c) % 18446744073709551616 : Nat) : Int), .int .u64 ((if a < b + c then 1 else 0 : Nat) : Int)]) ho hfo hxs (fun w => by
    rw [run_callFunc_extern Tryz.func96 (by kernel_rfl) (by kernel_rfl) (by kernel_rfl) (e := sub64Entry) (by kernel_rfl), run_sub64 a b c hc]
    rfl)
  refine h.mono ?_
  rintro v M' ⟨rfl, rfl⟩
  refine ⟨(a + 18446744073709551616 - b - c) % 18446744073709551616, if a < b + c then 1 else 0, ?_, by split <;> omega, by omega, by split <;> omega, rfl⟩
  rfl
theorem addGeneric_ct {M : Mem} {iz ix iy gz gx gy Tz Tx Ty kz kx ky oz ox oy a b : Nat} {lz lx ly : List Nat} (hz : M[iz]? = some ⟨gz, Tz, EE lz⟩) (hkz : kz < lz.length) (hoz : 56 * kz = oz) (hx : M[ix]? = some ⟨gx, Tx, EE lx⟩) (hkx : lx[kx]? = some a) (hox : 56 * kx = ox) (hy : M[iy]? = some ⟨gy, Ty, EE ly⟩) (hky : ly[ky]? = some b) (hoy : 56 * ky = oy) (ha : a < RR) (hb : b < RR) :
    Ct Tryz.prog 100 #[.pointer (some ⟨gz, oz, none⟩), .pointer (some ⟨gx, ox, none⟩), .pointer (some ⟨gy, oy, none⟩)] M (Det (.tuple #[]) (M.set iz ⟨gz, Tz, EE (lz.set kz (addF a b))⟩)) := by
  have hle : oz + 56 ≤ (EE lz).length := by rw [EE_length]; omega
  refine ct_of (vs := [.pointer (some ⟨gz, oz, none⟩), .pointer (some ⟨gx, ox, none⟩), .pointer (some ⟨gy, oy, none⟩)]) Tryz.func100 rfl Tryz.ntmps100 rfl fun w0 => ?_
  refine at_seq ?_
  refine at_draw (by kernel_rfl) (by kernel_rfl) (by kernel_rfl) (List.cons_ne_nil _ _) ?_
  refine dr_op rfl rfl (opr_load0 rfl rfl Tryz.underlying131 rfl size131) ?_
  refine dr_op rfl rfl (opr_move rfl rfl) ?_
  refine dr_op rfl rfl (opr_nilCheck rfl rfl) ?_
  refine dr_op rfl rfl (opr_slice (a := 0) (b := 8) (off' := ox) rfl rfl rfl rfl Tryz.underlying60 (by decide) (by decide) (by decide) size5 rfl) ?_
  refine dr_op rfl rfl (opr_call rfl rfl rfl Tryz.func90 (by kernel_rfl) rfl (uint64_ct (x := a / 256 ^ (8 * 0)) hx (EE_word hkx (i := 0) (by decide) (by omega)) (by decide))) ?_
  refine dr_last rfl rfl (opr_assign rfl rfl) ?_
  refine at_then ?_
  refine at_seq ?_
  refine at_draw (by kernel_rfl) (by kernel_rfl) (by kernel_rfl) (List.cons_ne_nil _ _) ?_
  refine dr_op rfl rfl (opr_load0 rfl rfl Tryz.underlying131 rfl size131) ?_
  refine dr_op rfl rfl (opr_move rfl rfl) ?_
  refine dr_op rfl rfl (opr_nilCheck rfl rfl) ?_
  refine dr_op rfl rfl (opr_slice (a := 8) (b := 16) (off' := ox + 8) rfl rfl rfl rfl Tryz.underlying60 (by decide) (by decide) (by decide) size5 rfl) ?_
  refine dr_op rfl rfl (opr_call rfl rfl rfl Tryz.func90 (by kernel_rfl) rfl (uint64_ct (x := a / 256 ^ (8 * 1)) hx (EE_word hkx (i := 1) (by decide) (by omega)) (by decide))) ?_
  refine dr_last rfl rfl (opr_assign rfl rfl) ?_
  refine at_then ?_
  refine at_seq ?_
  refine at_draw (by kernel_rfl) (by kernel_rfl) (by kernel_rfl) (List.cons_ne_nil _ _) ?_
  refine dr_op rfl rfl (opr_load0 rfl rfl Tryz.underlying131 rfl size131) ?_
  refine dr_op rfl rfl (opr_move rfl rfl) ?_
  refine dr_op rfl rfl (opr_nilCheck rfl rfl) ?_
  refine dr_op rfl rfl (opr_slice (a := 16) (b := 24) (off' := ox + 16) rfl rfl rfl rfl Tryz.underlying60 (by decide) (by decide) (by decide) size5 rfl) ?_
  refine dr_op rfl rfl (opr_call rfl rfl rfl Tryz.func90 (by kernel_rfl) rfl (uint64_ct (x := a / 256 ^ (8 * 2)) hx (EE_word hkx (i := 2) (by decide) (by omega)) (by decide))) ?_
  refine dr_last rfl rfl (opr_assign rfl rfl) ?_
  refine at_then ?_
  refine at_seq ?_
  refine at_draw (by kernel_rfl) (by kernel_rfl) (by kernel_rfl) (List.cons_ne_nil _ _) ?_
  refine dr_op rfl rfl (opr_load0 rfl rfl Tryz.underlying131 rfl size131) ?_
  refine dr_op rfl rfl (opr_move rfl rfl) ?_
  refine dr_op rfl rfl (opr_nilCheck rfl rfl) ?_
  refine dr_op rfl rfl (opr_slice (a := 24) (b := 32) (off' := ox + 24) rfl rfl rfl rfl Tryz.underlying60 (by decide) (by decide) (by decide) size5 rfl) ?_
  refine dr_op rfl rfl (opr_call rfl rfl rfl Tryz.func90 (by kernel_rfl) rfl (uint64_ct (x := a / 256 ^ (8 * 3)) hx (EE_word hkx (i := 3) (by decide) (by omega)) (by decide))) ?_
  refine dr_last rfl rfl (opr_assign rfl rfl) ?_
  refine at_then ?_
  refine at_seq ?_
  refine at_draw (by kernel_rfl) (by kernel_rfl) (by kernel_rfl) (List.cons_ne_nil _ _) ?_
  refine dr_op rfl rfl (opr_load0 rfl rfl Tryz.underlying131 rfl size131) ?_
  refine dr_op rfl rfl (opr_move rfl rfl) ?_
  refine dr_op rfl rfl (opr_nilCheck rfl rfl) ?_
  refine dr_op rfl rfl (opr_slice (a := 32) (b := 40) (off' := ox + 32) rfl rfl rfl rfl Tryz.underlying60 (by decide) (by decide) (by decide) size5 rfl) ?_
  refine dr_op rfl rfl (opr_call rfl rfl rfl Tryz.func90 (by kernel_rfl) rfl (uint64_ct (x := a / 256 ^ (8 * 4)) hx (EE_word hkx (i := 4) (by decide) (by omega)) (by decide))) ?_
  refine dr_last rfl rfl (opr_assign rfl rfl) ?_
  refine at_then ?_
  refine at_seq ?_
  refine at_draw (by kernel_rfl) (by kernel_rfl) (by kernel_rfl) (List.cons_ne_nil _ _) ?_
  refine dr_op rfl rfl (opr_load0 rfl rfl Tryz.underlying131 rfl size131) ?_
  refine dr_op rfl rfl (opr_move rfl rfl) ?_
  refine dr_op rfl rfl (opr_nilCheck rfl rfl) ?_
  refine dr_op rfl rfl (opr_slice (a := 40) (b := 48) (off' := ox + 40) rfl rfl rfl rfl Tryz.underlying60 (by decide) (by decide) (by decide) size5 rfl) ?_
  refine dr_op rfl rfl (opr_call rfl rfl rfl Tryz.func90 (by kernel_rfl) rfl (uint64_ct (x := a / 256 ^ (8 * 5)) hx (EE_word hkx (i := 5) (by decide) (by omega)) (by decide))) ?_
  refine dr_last rfl rfl (opr_assign rfl rfl) ?_
  refine at_then ?_
  refine at_seq ?_
  refine at_draw (by kernel_rfl) (by kernel_rfl) (by kernel_rfl) (List.cons_ne_nil _ _) ?_
  refine dr_op rfl rfl (opr_load0 rfl rfl Tryz.underlying131 rfl size131) ?_
  refine dr_op rfl rfl (opr_move rfl rfl) ?_
  refine dr_op rfl rfl (opr_nilCheck rfl rfl) ?_
  refine dr_op rfl rfl (opr_slice (a := 48) (b := 56) (off' := ox + 48) rfl rfl rfl rfl Tryz.underlying60 (by decide) (by decide) (by decide) size5 rfl) ?_
  refine dr_op rfl rfl (opr_call rfl rfl rfl Tryz.func90 (by kernel_rfl) rfl (uint64_ct (x := a / 256 ^ (8 * 6)) hx (EE_word hkx (i := 6) (by decide) (by omega)) (by decide))) ?_
  refine dr_last rfl rfl (opr_assign rfl rfl) ?_
  refine at_then ?_
  refine at_seq ?_
  refine at_draw (by kernel_rfl) (by kernel_rfl) (by kernel_rfl) (List.cons_ne_nil _ _) ?_
  refine dr_op rfl rfl (opr_load0 rfl rfl Tryz.underlying131 rfl size131) ?_
  refine dr_op rfl rfl (opr_move rfl rfl) ?_
  refine dr_op rfl rfl (opr_nilCheck rfl rfl) ?_
  refine dr_op rfl rfl (opr_slice (a := 0) (b := 8) (off' := oy) rfl rfl rfl rfl Tryz.underlying60 (by decide) (by decide) (by decide) size5 rfl) ?_
  refine dr_op rfl rfl (opr_call rfl rfl rfl Tryz.func90 (by kernel_rfl) rfl (uint64_ct (x := b / 256 ^ (8 * 0)) hy (EE_word hky (i := 0) (by decide) (by omega)) (by decide))) ?_
  refine dr_last rfl rfl (opr_assign rfl rfl) ?_
  refine at_then ?_
  refine at_seq ?_
  refine at_draw (by kernel_rfl) (by kernel_rfl) (by kernel_rfl) (List.cons_ne_nil _ _) ?_
  refine dr_op rfl rfl (opr_load0 rfl rfl Tryz.underlying131 rfl size131) ?_
  refine dr_op rfl rfl (opr_move rfl rfl) ?_
  refine dr_op rfl rfl (opr_nilCheck rfl rfl) ?_
  refine dr_op rfl rfl (opr_slice (a := 8) (b := 16) (off' := oy + 8) rfl rfl rfl rfl Tryz.underlying60 (by decide) (by decide) (by decide) size5 rfl) ?_
  refine dr_op rfl rfl (opr_call rfl rfl rfl Tryz.func90 (by kernel_rfl) rfl (uint64_ct (x := b / 256 ^ (8 * 1)) hy (EE_word hky (i := 1) (by decide) (by omega)) (by decide))) ?_
  refine dr_last rfl rfl (opr_assign rfl rfl) ?_
  refine at_then ?_
  refine at_seq ?_
  refine at_draw (by kernel_rfl) (by kernel_rfl) (by kernel_rfl) (List.cons_ne_nil _ _) ?_
  refine dr_op rfl rfl (opr_load0 rfl rfl Tryz.underlying131 rfl size131) ?_
  refine dr_op rfl rfl (opr_move rfl rfl) ?_
  refine dr_op rfl rfl (opr_nilCheck rfl rfl) ?_
  refine dr_op rfl rfl (opr_slice (a := 16) (b := 24) (off' := oy + 16) rfl rfl rfl rfl Tryz.underlying60 (by decide) (by decide) (by decide) size5 rfl) ?_
  refine dr_op rfl rfl (opr_call rfl rfl rfl Tryz.func90 (by kernel_rfl) rfl (uint64_ct (x := b / 256 ^ (8 * 2)) hy (EE_word hky (i := 2) (by decide) (by omega)) (by decide))) ?_
  refine dr_last rfl rfl (opr_assign rfl rfl) ?_
  refine at_then ?_
  refine at_seq ?_
  refine at_draw (by kernel_rfl) (by kernel_rfl) (by kernel_rfl) (List.cons_ne_nil _ _) ?_
  refine dr_op rfl rfl (opr_load0 rfl rfl Tryz.underlying131 rfl size131) ?_
  refine dr_op rfl rfl (opr_move rfl rfl) ?_
  refine dr_op rfl rfl (opr_nilCheck rfl rfl) ?_
  refine dr_op rfl rfl (opr_slice (a := 24) (b := 32) (off' := oy + 24) rfl rfl rfl rfl Tryz.underlying60 (by decide) (by decide) (by decide) size5 rfl) ?_
  refine dr_op rfl rfl (opr_call rfl rfl rfl Tryz.func90 (by kernel_rfl) rfl (uint64_ct (x := b / 256 ^ (8 * 3)) hy (EE_word hky (i := 3) (by decide) (by omega)) (by decide))) ?_
  refine dr_last rfl rfl (opr_assign rfl rfl) ?_
  refine at_then ?_
  refine at_seq ?_
  refine at_draw (by kernel_rfl) (by kernel_rfl) (by kernel_rfl) (List.cons_ne_nil _ _) ?_
  refine dr_op rfl rfl (opr_load0 rfl rfl Tryz.underlying131 rfl size131) ?_
  refine dr_op rfl rfl (opr_move rfl rfl) ?_
  refine dr_op rfl rfl (opr_nilCheck rfl rfl) ?_
  refine dr_op rfl rfl (opr_slice (a := 32) (b := 40) (off' := oy + 32) rfl rfl rfl rfl Tryz.underlying60 (by decide) (by decide) (by decide) size5 rfl) ?_
  refine dr_op rfl rfl (opr_call rfl rfl rfl Tryz.func90 (by kernel_rfl) rfl (uint64_ct (x := b / 256 ^ (8 * 4)) hy (EE_word hky (i := 4) (by decide) (by omega)) (by decide))) ?_
  refine dr_last rfl rfl (opr_assign rfl rfl) ?_
  refine at_then ?_
  refine at_seq ?_
  refine at_draw (by kernel_rfl) (by kernel_rfl) (by kernel_rfl) (List.cons_ne_nil _ _) ?_
  refine dr_op rfl rfl (opr_load0 rfl rfl Tryz.underlying131 rfl size131) ?_
  refine dr_op rfl rfl (opr_move rfl rfl) ?_
  refine dr_op rfl rfl (opr_nilCheck rfl rfl) ?_
  refine dr_op rfl rfl (opr_slice (a := 40) (b := 48) (off' := oy + 40) rfl rfl rfl rfl Tryz.underlying60 (by decide) (by decide) (by decide) size5 rfl) ?_
  refine dr_op rfl rfl (opr_call rfl rfl rfl Tryz.func90 (by kernel_rfl) rfl (uint64_ct (x := b / 256 ^ (8 * 5)) hy (EE_word hky (i := 5) (by decide) (by omega)) (by decide))) ?_
  refine dr_last rfl rfl (opr_assign rfl rfl) ?_
  refine at_then ?_
  refine at_seq ?_
  refine at_draw (by kernel_rfl) (by kernel_rfl) (by kernel_rfl) (List.cons_ne_nil _ _) ?_
  refine dr_op rfl rfl (opr_load0 rfl rfl Tryz.underlying131 rfl size131) ?_
  refine dr_op rfl rfl (opr_move rfl rfl) ?_
  refine dr_op rfl rfl (opr_nilCheck rfl rfl) ?_
  refine dr_op rfl rfl (opr_slice (a := 48) (b := 56) (off' := oy + 48) rfl rfl rfl rfl Tryz.underlying60 (by decide) (by decide) (by decide) size5 rfl) ?_
  refine dr_op rfl rfl (opr_call rfl rfl rfl Tryz.func90 (by kernel_rfl) rfl (uint64_ct (x := b / 256 ^ (8 * 6)) hy (EE_word hky (i := 6) (by decide) (by omega)) (by decide))) ?_
  refine dr_last rfl rfl (opr_assign rfl rfl) ?_
  refine at_then ?_
  refine at_seq ?_
  refine at_region ?_
  refine at_d rfl rfl (opr_move rfl rfl) ?_
  refine at_d rfl rfl (opr_move rfl rfl) ?_
  refine at_c rfl rfl (opr_Add64 rfl rfl rfl (by decide) (Nat.mod_lt _ (by decide)) (Nat.mod_lt _ (by decide))) ?_
  rintro _ _ ⟨s0, k0, rfl, e0, l0, m0, rfl⟩
  refine at_d rfl rfl (opr_move rfl rfl) ?_
  refine at_d rfl rfl (opr_extract rfl rfl rfl) ?_
  refine at_d rfl rfl (opr_extract rfl rfl rfl) ?_
  refine at_d rfl rfl (opr_assign rfl rfl) ?_
  refine at_d rfl rfl (opr_assign rfl rfl) ?_
  refine at_nil ?_
  refine at_then ?_
  refine at_seq ?_
  refine at_region ?_
  refine at_d rfl rfl (opr_move rfl rfl) ?_
  refine at_d rfl rfl (opr_move rfl rfl) ?_
  refine at_d rfl rfl (opr_move rfl rfl) ?_
  refine at_c rfl rfl (opr_Add64 rfl rfl rfl m0 (Nat.mod_lt _ (by decide)) (Nat.mod_lt _ (by decide))) ?_
  rintro _ _ ⟨s1, k1, rfl, e1, l1, m1, rfl⟩
  refine at_d rfl rfl (opr_move rfl rfl) ?_
  refine at_d rfl rfl (opr_extract rfl rfl rfl) ?_
  refine at_d rfl rfl (opr_extract rfl rfl rfl) ?_
  refine at_d rfl rfl (opr_assign rfl rfl) ?_
  refine at_d rfl rfl (opr_assign rfl rfl) ?_
  refine at_nil ?_
  refine at_then ?_
  refine at_seq ?_
  refine at_region ?_
  refine at_d rfl rfl (opr_move rfl rfl) ?_
  refine at_d rfl rfl (opr_move rfl rfl) ?_
  refine at_d rfl rfl (opr_move rfl rfl) ?_
  refine at_c rfl rfl (opr_Add64 rfl rfl rfl m1 (Nat.mod_lt _ (by decide)) (Nat.mod_lt _ (by decide))) ?_
  rintro _ _ ⟨s2, k2, rfl, e2, l2, m2, rfl⟩
  refine at_d rfl rfl (opr_move rfl rfl) ?_
  refine at_d rfl rfl (opr_extract rfl rfl rfl) ?_
  refine at_d rfl rfl (opr_extract rfl rfl rfl) ?_
  refine at_d rfl rfl (opr_assign rfl rfl) ?_
  refine at_d rfl rfl (opr_assign rfl rfl) ?_
  refine at_nil ?_
  refine at_then ?_
  refine at_seq ?_
  refine at_region ?_
  refine at_d rfl rfl (opr_move rfl rfl) ?_
  refine at_d rfl rfl (opr_move rfl rfl) ?_
  refine at_d rfl rfl (opr_move rfl rfl) ?_
  refine at_c rfl rfl (opr_Add64 rfl rfl rfl m2 (Nat.mod_lt _ (by decide)) (Nat.mod_lt _ (by decide))) ?_
  rintro _ _ ⟨s3, k3, rfl, e3, l3, m3, rfl⟩
  refine at_d rfl rfl (opr_move rfl rfl) ?_
  refine at_d rfl rfl (opr_extract rfl rfl rfl) ?_
  refine at_d rfl rfl (opr_extract rfl rfl rfl) ?_
  refine at_d rfl rfl (opr_assign rfl rfl) ?_
  refine at_d rfl rfl (opr_assign rfl rfl) ?_
  refine at_nil ?_
  refine at_then ?_
  refine at_seq ?_
  refine at_region ?_
  refine at_d rfl rfl (opr_move rfl rfl) ?_
  refine at_d rfl rfl (opr_move rfl rfl) ?_
  refine at_d rfl rfl (opr_move rfl rfl) ?_
  refine at_c rfl rfl (opr_Add64 rfl rfl rfl m3 (Nat.mod_lt _ (by decide)) (Nat.mod_lt _ (by decide))) ?_
  rintro _ _ ⟨s4, k4, rfl, e4, l4, m4, rfl⟩
  refine at_d rfl rfl (opr_move rfl rfl) ?_
  refine at_d rfl rfl (opr_extract rfl rfl rfl) ?_
  refine at_d rfl rfl (opr_extract rfl rfl rfl) ?_
  refine at_d rfl rfl (opr_assign rfl rfl) ?_
  refine at_d rfl rfl (opr_assign rfl rfl) ?_
  refine at_nil ?_
  refine at_then ?_
  refine at_seq ?_
  refine at_region ?_
  refine at_d rfl rfl (opr_move rfl rfl) ?_
  refine at_d rfl rfl (opr_move rfl rfl) ?_
  refine at_d rfl rfl (opr_move rfl rfl) ?_
  refine at_c rfl rfl (opr_Add64 rfl rfl rfl m4 (Nat.mod_lt _ (by decide)) (Nat.mod_lt _ (by decide))) ?_
  rintro _ _ ⟨s5, k5, rfl, e5, l5, m5, rfl⟩
  refine at_d rfl rfl (opr_move rfl rfl) ?_
  refine at_d rfl rfl (opr_extract rfl rfl rfl) ?_
  refine at_d rfl rfl (opr_extract rfl rfl rfl) ?_
  refine at_d rfl rfl (opr_assign rfl rfl) ?_
  refine at_d rfl rfl (opr_assign rfl rfl) ?_
  refine at_nil ?_
  refine at_then ?_
  refine at_seq ?_
  refine at_region ?_
  refine at_d rfl rfl (opr_move rfl rfl) ?_
  refine at_d rfl rfl (opr_move rfl rfl) ?_
  refine at_d rfl rfl (opr_move rfl rfl) ?_
  refine at_c rfl rfl (opr_Add64 rfl rfl rfl m5 (Nat.mod_lt _ (by decide)) (Nat.mod_lt _ (by decide))) ?_
  rintro _ _ ⟨s6, k6, rfl, e6, l6, m6, rfl⟩
  refine at_d rfl rfl (opr_move rfl rfl) ?_
  refine at_d rfl rfl (opr_extract rfl rfl rfl) ?_
  refine at_d rfl rfl (opr_extract rfl rfl rfl) ?_
  refine at_d rfl rfl (opr_assign rfl rfl) ?_
  refine at_d rfl rfl (opr_assign rfl rfl) ?_
  refine at_nil ?_
  refine at_then ?_
  refine at_seq ?_
  refine at_region ?_
  refine at_d rfl rfl (opr_move rfl rfl) ?_
  refine at_d rfl rfl (opr_move rfl rfl) ?_
  refine at_c rfl rfl (opr_Add64 rfl rfl rfl (by decide) l0 (Nat.lt_of_le_of_lt m6 (by decide))) ?_
  rintro _ _ ⟨s7, k7, rfl, e7, l7, m7, rfl⟩
  refine at_d rfl rfl (opr_move rfl rfl) ?_
  refine at_d rfl rfl (opr_extract rfl rfl rfl) ?_
  refine at_d rfl rfl (opr_extract rfl rfl rfl) ?_
  refine at_d rfl rfl (opr_assign rfl rfl) ?_
  refine at_d rfl rfl (opr_assign rfl rfl) ?_
  refine at_nil ?_
  refine at_then ?_
  refine at_seq ?_
  refine at_region ?_
  refine at_d rfl rfl (opr_move rfl rfl) ?_
  refine at_d rfl rfl (opr_move rfl rfl) ?_
  refine at_c rfl rfl (opr_Add64 rfl rfl rfl m7 l1 (by decide)) ?_
  rintro _ _ ⟨s8, k8, rfl, e8, l8, m8, rfl⟩
  refine at_d rfl rfl (opr_move rfl rfl) ?_
  refine at_d rfl rfl (opr_extract rfl rfl rfl) ?_
  refine at_d rfl rfl (opr_extract rfl rfl rfl) ?_
  refine at_d rfl rfl (opr_assign rfl rfl) ?_
  refine at_d rfl rfl (opr_assign rfl rfl) ?_
  refine at_nil ?_
  refine at_then ?_
  refine at_seq ?_
  refine at_region ?_
  refine at_d rfl rfl (opr_move rfl rfl) ?_
  refine at_d rfl rfl (opr_move rfl rfl) ?_
  refine at_c rfl rfl (opr_Add64 rfl rfl rfl m8 l2 (by decide)) ?_
  rintro _ _ ⟨s9, k9, rfl, e9, l9, m9, rfl⟩
  refine at_d rfl rfl (opr_move rfl rfl) ?_
  refine at_d rfl rfl (opr_extract rfl rfl rfl) ?_
  refine at_d rfl rfl (opr_extract rfl rfl rfl) ?_
  refine at_d rfl rfl (opr_assign rfl rfl) ?_
  refine at_d rfl rfl (opr_assign rfl rfl) ?_
  refine at_nil ?_
  refine at_then ?_
  refine at_seq ?_
  refine at_region ?_
  refine at_d rfl rfl (opr_move rfl rfl) ?_
  refine at_d rfl rfl (opr_move rfl rfl) ?_
  refine at_d rfl rfl (opr_shl64 rfl rfl rfl (by decide)) ?_
  refine at_d rfl rfl (opr_move rfl rfl) ?_
  refine at_c rfl rfl (opr_Add64 rfl rfl rfl m9 l3 (Nat.mod_lt _ (by decide))) ?_
  rintro _ _ ⟨s10, k10, rfl, e10, l10, m10, rfl⟩
  refine at_d rfl rfl (opr_move rfl rfl) ?_
  refine at_d rfl rfl (opr_extract rfl rfl rfl) ?_
  refine at_d rfl rfl (opr_extract rfl rfl rfl) ?_
  refine at_d rfl rfl (opr_assign rfl rfl) ?_
  refine at_d rfl rfl (opr_assign rfl rfl) ?_
  refine at_nil ?_
  refine at_then ?_
  refine at_seq ?_
  refine at_region ?_
  refine at_d rfl rfl (opr_move rfl rfl) ?_
  refine at_d rfl rfl (opr_move rfl rfl) ?_
  refine at_c rfl rfl (opr_Add64 rfl rfl rfl m10 l4 (by decide)) ?_
  rintro _ _ ⟨s11, k11, rfl, e11, l11, m11, rfl⟩
  refine at_d rfl rfl (opr_move rfl rfl) ?_
  refine at_d rfl rfl (opr_extract rfl rfl rfl) ?_
  refine at_d rfl rfl (opr_extract rfl rfl rfl) ?_
  refine at_d rfl rfl (opr_assign rfl rfl) ?_
  refine at_d rfl rfl (opr_assign rfl rfl) ?_
  refine at_nil ?_
  refine at_then ?_
  refine at_seq ?_
  refine at_region ?_
  refine at_d rfl rfl (opr_move rfl rfl) ?_
  refine at_d rfl rfl (opr_move rfl rfl) ?_
  refine at_c rfl rfl (opr_Add64 rfl rfl rfl m11 l5 (by decide)) ?_
  rintro _ _ ⟨s12, k12, rfl, e12, l12, m12, rfl⟩
  refine at_d rfl rfl (opr_move rfl rfl) ?_
  refine at_d rfl rfl (opr_extract rfl rfl rfl) ?_
  refine at_d rfl rfl (opr_extract rfl rfl rfl) ?_
  refine at_d rfl rfl (opr_assign rfl rfl) ?_
  refine at_d rfl rfl (opr_assign rfl rfl) ?_
  refine at_nil ?_
  refine at_then ?_
  refine at_seq ?_
  refine at_region ?_
  refine at_d rfl rfl (opr_move rfl rfl) ?_
  refine at_d rfl rfl (opr_move rfl rfl) ?_
  refine at_c rfl rfl (opr_Add64 rfl rfl rfl m12 l6 (by decide)) ?_
  rintro _ _ ⟨s13, k13, rfl, e13, l13, m13, rfl⟩
  refine at_d rfl rfl (opr_move rfl rfl) ?_
  refine at_d rfl rfl (opr_extract rfl rfl rfl) ?_
  refine at_d rfl rfl (opr_extract rfl rfl rfl) ?_
  refine at_d rfl rfl (opr_assign rfl rfl) ?_
  refine at_d rfl rfl (opr_assign rfl rfl) ?_
  refine at_nil ?_
  refine at_then ?_
  refine at_seq ?_
  refine at_region ?_
  refine at_d rfl rfl (opr_move rfl rfl) ?_
  refine at_d rfl rfl (opr_move rfl rfl) ?_
  refine at_c rfl rfl (opr_Add64 rfl rfl rfl (by decide) l7 (Nat.lt_of_le_of_lt m13 (by decide))) ?_
  rintro _ _ ⟨s14, k14, rfl, e14, l14, m14, rfl⟩
  refine at_d rfl rfl (opr_move rfl rfl) ?_
  refine at_d rfl rfl (opr_extract rfl rfl rfl) ?_
  refine at_d rfl rfl (opr_extract rfl rfl rfl) ?_
  refine at_d rfl rfl (opr_assign rfl rfl) ?_
  refine at_d rfl rfl (opr_assign rfl rfl) ?_
  refine at_nil ?_
  refine at_then ?_
  refine at_seq ?_
  refine at_region ?_
  refine at_d rfl rfl (opr_move rfl rfl) ?_
  refine at_d rfl rfl (opr_move rfl rfl) ?_
  refine at_c rfl rfl (opr_Add64 rfl rfl rfl m14 l8 (by decide)) ?_
  rintro _ _ ⟨s15, k15, rfl, e15, l15, m15, rfl⟩
  refine at_d rfl rfl (opr_move rfl rfl) ?_
  refine at_d rfl rfl (opr_extract rfl rfl rfl) ?_
  refine at_d rfl rfl (opr_extract rfl rfl rfl) ?_
  refine at_d rfl rfl (opr_assign rfl rfl) ?_
  refine at_d rfl rfl (opr_assign rfl rfl) ?_
  refine at_nil ?_
  refine at_then ?_
  refine at_seq ?_
  refine at_region ?_
  refine at_d rfl rfl (opr_move rfl rfl) ?_
  refine at_d rfl rfl (opr_move rfl rfl) ?_
  refine at_c rfl rfl (opr_Add64 rfl rfl rfl m15 l9 (by decide)) ?_
  rintro _ _ ⟨s16, k16, rfl, e16, l16, m16, rfl⟩
  refine at_d rfl rfl (opr_move rfl rfl) ?_
  refine at_d rfl rfl (opr_extract rfl rfl rfl) ?_
  refine at_d rfl rfl (opr_extract rfl rfl rfl) ?_
  refine at_d rfl rfl (opr_assign rfl rfl) ?_
  refine at_d rfl rfl (opr_assign rfl rfl) ?_
  refine at_nil ?_
  refine at_then ?_
  refine at_seq ?_
  refine at_region ?_
  refine at_d rfl rfl (opr_move rfl rfl) ?_
  refine at_d rfl rfl (opr_move rfl rfl) ?_
  refine at_d rfl rfl (opr_shl64 rfl rfl rfl (by decide)) ?_
  refine at_d rfl rfl (opr_move rfl rfl) ?_
  refine at_c rfl rfl (opr_Add64 rfl rfl rfl m16 l10 (Nat.mod_lt _ (by decide))) ?_
  rintro _ _ ⟨s17, k17, rfl, e17, l17, m17, rfl⟩
  refine at_d rfl rfl (opr_move rfl rfl) ?_
  refine at_d rfl rfl (opr_extract rfl rfl rfl) ?_
  refine at_d rfl rfl (opr_extract rfl rfl rfl) ?_
  refine at_d rfl rfl (opr_assign rfl rfl) ?_
  refine at_d rfl rfl (opr_assign rfl rfl) ?_
  refine at_nil ?_
  refine at_then ?_
  refine at_seq ?_
  refine at_region ?_
  refine at_d rfl rfl (opr_move rfl rfl) ?_
  refine at_d rfl rfl (opr_move rfl rfl) ?_
  refine at_c rfl rfl (opr_Add64 rfl rfl rfl m17 l11 (by decide)) ?_
  rintro _ _ ⟨s18, k18, rfl, e18, l18, m18, rfl⟩
  refine at_d rfl rfl (opr_move rfl rfl) ?_
  refine at_d rfl rfl (opr_extract rfl rfl rfl) ?_
  refine at_d rfl rfl (opr_extract rfl rfl rfl) ?_
  refine at_d rfl rfl (opr_assign rfl rfl) ?_
  refine at_d rfl rfl (opr_assign rfl rfl) ?_
  refine at_nil ?_
  refine at_then ?_
  refine at_seq ?_
  refine at_region ?_
  refine at_d rfl rfl (opr_move rfl rfl) ?_
  refine at_d rfl rfl (opr_move rfl rfl) ?_
  refine at_c rfl rfl (opr_Add64 rfl rfl rfl m18 l12 (by decide)) ?_
  rintro _ _ ⟨s19, k19, rfl, e19, l19, m19, rfl⟩
  refine at_d rfl rfl (opr_move rfl rfl) ?_
  refine at_d rfl rfl (opr_extract rfl rfl rfl) ?_
  refine at_d rfl rfl (opr_extract rfl rfl rfl) ?_
  refine at_d rfl rfl (opr_assign rfl rfl) ?_
  refine at_d rfl rfl (opr_assign rfl rfl) ?_
  refine at_nil ?_
  refine at_then ?_
  refine at_seq ?_
  refine at_region ?_
  refine at_d rfl rfl (opr_move rfl rfl) ?_
  refine at_d rfl rfl (opr_move rfl rfl) ?_
  refine at_c rfl rfl (opr_Add64 rfl rfl rfl m19 l13 (by decide)) ?_
  rintro _ _ ⟨s20, k20, rfl, e20, l20, m20, rfl⟩
  refine at_d rfl rfl (opr_move rfl rfl) ?_
  refine at_d rfl rfl (opr_extract rfl rfl rfl) ?_
  refine at_d rfl rfl (opr_extract rfl rfl rfl) ?_
  refine at_d rfl rfl (opr_assign rfl rfl) ?_
  refine at_nil ?_
  refine at_then ?_
  refine at_seq ?_
  refine at_draw (by kernel_rfl) (by kernel_rfl) (by kernel_rfl) (List.cons_ne_nil _ _) ?_
  refine dr_op rfl rfl (opr_load0 rfl rfl Tryz.underlying131 rfl size131) ?_
  refine dr_op rfl rfl (opr_move rfl rfl) ?_
  refine dr_op rfl rfl (opr_nilCheck rfl rfl) ?_
  refine dr_op rfl rfl (opr_slice (a := 0) (b := 8) (off' := oz) rfl rfl rfl rfl Tryz.underlying60 (by decide) (by decide) (by decide) size5 rfl) ?_
  refine dr_op rfl rfl (opr_move rfl rfl) ?_
  refine dr_last rfl rfl (opr_call rfl rfl rfl Tryz.func95 (by kernel_rfl) rfl (putUint64_ct hz (Nat.le_trans (by omega) hle) l14 (by decide))) ?_
  refine at_then ?_
  refine at_seq ?_
  refine at_draw (by kernel_rfl) (by kernel_rfl) (by kernel_rfl) (List.cons_ne_nil _ _) ?_
  refine dr_op rfl rfl (opr_load0 rfl rfl Tryz.underlying131 rfl size131) ?_
  refine dr_op rfl rfl (opr_move rfl rfl) ?_
  refine dr_op rfl rfl (opr_nilCheck rfl rfl) ?_
  refine dr_op rfl rfl (opr_slice (a := 8) (b := 16) (off' := oz + 8) rfl rfl rfl rfl Tryz.underlying60 (by decide) (by decide) (by decide) size5 rfl) ?_
  refine dr_op rfl rfl (opr_move rfl rfl) ?_
  refine dr_last rfl rfl (opr_call rfl rfl rfl Tryz.func95 (by kernel_rfl) rfl (putUint64_ct (get_set hz) (Nat.le_trans (by omega) (ple hle (by omega))) l15 (by decide))) ?_
  refine at_then ?_
  refine at_seq ?_
  refine at_draw (by kernel_rfl) (by kernel_rfl) (by kernel_rfl) (List.cons_ne_nil _ _) ?_
  refine dr_op rfl rfl (opr_load0 rfl rfl Tryz.underlying131 rfl size131) ?_
  refine dr_op rfl rfl (opr_move rfl rfl) ?_
  refine dr_op rfl rfl (opr_nilCheck rfl rfl) ?_
  refine dr_op rfl rfl (opr_slice (a := 16) (b := 24) (off' := oz + 16) rfl rfl rfl rfl Tryz.underlying60 (by decide) (by decide) (by decide) size5 rfl) ?_
  refine dr_op rfl rfl (opr_move rfl rfl) ?_
  refine dr_last rfl rfl (opr_call rfl rfl rfl Tryz.func95 (by kernel_rfl) rfl (putUint64_ct (get_set (get_set hz)) (Nat.le_trans (by omega) (ple (ple hle (by omega)) (by omega))) l16 (by decide))) ?_
  refine at_then ?_
  refine at_seq ?_
  refine at_draw (by kernel_rfl) (by kernel_rfl) (by kernel_rfl) (List.cons_ne_nil _ _) ?_
  refine dr_op rfl rfl (opr_load0 rfl rfl Tryz.underlying131 rfl size131) ?_
  refine dr_op rfl rfl (opr_move rfl rfl) ?_
  refine dr_op rfl rfl (opr_nilCheck rfl rfl) ?_
  refine dr_op rfl rfl (opr_slice (a := 24) (b := 32) (off' := oz + 24) rfl rfl rfl rfl Tryz.underlying60 (by decide) (by decide) (by decide) size5 rfl) ?_
  refine dr_op rfl rfl (opr_move rfl rfl) ?_
  refine dr_last rfl rfl (opr_call rfl rfl rfl Tryz.func95 (by kernel_rfl) rfl (putUint64_ct (get_set (get_set (get_set hz))) (Nat.le_trans (by omega) (ple (ple (ple hle (by omega)) (by omega)) (by omega))) l17 (by decide))) ?_
  refine at_then ?_
  refine at_seq ?_
  refine at_draw (by kernel_rfl) (by kernel_rfl) (by kernel_rfl) (List.cons_ne_nil _ _) ?_
  refine dr_op rfl rfl (opr_load0 rfl rfl Tryz.underlying131 rfl size131) ?_
  refine dr_op rfl rfl (opr_move rfl rfl) ?_
  refine dr_op rfl rfl (opr_nilCheck rfl rfl) ?_
  refine dr_op rfl rfl (opr_slice (a := 32) (b := 40) (off' := oz + 32) rfl rfl rfl rfl Tryz.underlying60 (by decide) (by decide) (by decide) size5 rfl) ?_
  refine dr_op rfl rfl (opr_move rfl rfl) ?_
  refine dr_last rfl rfl (opr_call rfl rfl rfl Tryz.func95 (by kernel_rfl) rfl (putUint64_ct (get_set (get_set (get_set (get_set hz)))) (Nat.le_trans (by omega) (ple (ple (ple (ple hle (by omega)) (by omega)) (by omega)) (by omega))) l18 (by decide))) ?_
  refine at_then ?_
  refine at_seq ?_
  refine at_draw (by kernel_rfl) (by kernel_rfl) (by kernel_rfl) (List.cons_ne_nil _ _) ?_
  refine dr_op rfl rfl (opr_load0 rfl rfl Tryz.underlying131 rfl size131) ?_
  refine dr_op rfl rfl (opr_move rfl rfl) ?_
  refine dr_op rfl rfl (opr_nilCheck rfl rfl) ?_
  refine dr_op rfl rfl (opr_slice (a := 40) (b := 48) (off' := oz + 40) rfl rfl rfl rfl Tryz.underlying60 (by decide) (by decide) (by decide) size5 rfl) ?_
  refine dr_op rfl rfl (opr_move rfl rfl) ?_
  refine dr_last rfl rfl (opr_call rfl rfl rfl Tryz.func95 (by kernel_rfl) rfl (putUint64_ct (get_set (get_set (get_set (get_set (get_set hz))))) (Nat.le_trans (by omega) (ple (ple (ple (ple (ple hle (by omega)) (by omega)) (by omega)) (by omega)) (by omega))) l19 (by decide))) ?_
  refine at_then ?_
  refine at_draw (by kernel_rfl) (by kernel_rfl) (by kernel_rfl) (List.cons_ne_nil _ _) ?_
  refine dr_op rfl rfl (opr_load0 rfl rfl Tryz.underlying131 rfl size131) ?_
  refine dr_op rfl rfl (opr_move rfl rfl) ?_
  refine dr_op rfl rfl (opr_nilCheck rfl rfl) ?_
  refine dr_op rfl rfl (opr_slice (a := 48) (b := 56) (off' := oz + 48) rfl rfl rfl rfl Tryz.underlying60 (by decide) (by decide) (by decide) size5 rfl) ?_
  refine dr_op rfl rfl (opr_move rfl rfl) ?_
  refine dr_last rfl rfl (opr_call rfl rfl rfl Tryz.func95 (by kernel_rfl) rfl (putUint64_ct (get_set (get_set (get_set (get_set (get_set (get_set hz)))))) (Nat.le_trans (by omega) (ple (ple (ple (ple (ple (ple hle (by omega)) (by omega)) (by omega)) (by omega)) (by omega)) (by omega))) l20 (by decide))) ?_
  refine done_of (res0 rfl) ⟨rfl, ?_⟩ (List.Sublist.refl _)
  refine (put7 hkz hoz l14 l15 l16 l17 l18 l19 l20).trans ?_
  have f1 := add_chain e0 e1 e2 e3 e4 e5 e6
  have f2 := add_chain e7 e8 e9 e10 e11 e12 e13
  have f3 := add_chain e14 e15 e16 e17 e18 e19 e20
  rw [words7 ha, words7 hb] at f1
  rw [fold_words m6] at f2
  rw [fold_words m13] at f3
  rw [add_folds ha hb (dval7_lt l0 l1 l2 l3 l4 l5 l6) (dval7_lt l7 l8 l9 l10 l11 l12 l13) (dval7_lt l14 l15 l16 l17 l18 l19 l20) m6 m13 m20 f1 f2 f3]
theorem subGeneric_ct {M : Mem} {iz ix iy gz gx gy Tz Tx Ty kz kx ky oz ox oy a b : Nat} {lz lx ly : List Nat} (hz : M[iz]? = some ⟨gz, Tz, EE lz⟩) (hkz : kz < lz.length) (hoz : 56 * kz = oz) (hx : M[ix]? = some ⟨gx, Tx, EE lx⟩) (hkx : lx[kx]? = some a) (hox : 56 * kx = ox) (hy : M[iy]? = some ⟨gy, Ty, EE ly⟩) (hky : ly[ky]? = some b) (hoy : 56 * ky = oy) (ha : a < RR) (hb : b < RR) :
    Ct Tryz.prog 102 #[.pointer (some ⟨gz, oz, none⟩), .pointer (some ⟨gx, ox, none⟩), .pointer (some ⟨gy, oy, none⟩)] M (Det (.tuple #[]) (M.set iz ⟨gz, Tz, EE (lz.set kz (subF a b))⟩)) := by
  have hle : oz + 56 ≤ (EE lz).length := by rw [EE_length]; omega
  refine ct_of (vs := [.pointer (some ⟨gz, oz, none⟩), .pointer (some ⟨gx, ox, none⟩), .pointer (some ⟨gy, oy, none⟩)]) Tryz.func102 rfl Tryz.ntmps102 rfl fun w0 => ?_
  refine at_seq ?_
  refine at_draw (by kernel_rfl) (by kernel_rfl) (by kernel_rfl) (List.cons_ne_nil _ _) ?_
  refine dr_op rfl rfl (opr_load0 rfl rfl Tryz.underlying131 rfl size131) ?_
  refine dr_op rfl rfl (opr_move rfl rfl) ?_
  refine dr_op rfl rfl (opr_nilCheck rfl rfl) ?_
  refine dr_op rfl rfl (opr_slice (a := 0) (b := 8) (off' := ox) rfl rfl rfl rfl Tryz.underlying60 (by decide) (by decide) (by decide) size5 rfl) ?_
  refine dr_op rfl rfl (opr_call rfl rfl rfl Tryz.func90 (by kernel_rfl) rfl (uint64_ct (x := a / 256 ^ (8 * 0)) hx (EE_word hkx (i := 0) (by decide) (by omega)) (by decide))) ?_
  refine dr_last rfl rfl (opr_assign rfl rfl) ?_
  refine at_then ?_
  refine at_seq ?_
  refine at_draw (by kernel_rfl) (by kernel_rfl) (by kernel_rfl) (List.cons_ne_nil _ _) ?_
  refine dr_op rfl rfl (opr_load0 rfl rfl Tryz.underlying131 rfl size131) ?_
  refine dr_op rfl rfl (opr_move rfl rfl) ?_
  refine dr_op rfl rfl (opr_nilCheck rfl rfl) ?_
  refine dr_op rfl rfl (opr_slice (a := 8) (b := 16) (off' := ox + 8) rfl rfl rfl rfl Tryz.underlying60 (by decide) (by decide) (by decide) size5 rfl) ?_
  refine dr_op rfl rfl (opr_call rfl rfl rfl Tryz.func90 (by kernel_rfl) rfl (uint64_ct (x := a / 256 ^ (8 * 1)) hx (EE_word hkx (i := 1) (by decide) (by omega)) (by decide))) ?_
  refine dr_last rfl rfl (opr_assign rfl rfl) ?_
  refine at_then ?_
  refine at_seq ?_
  refine at_draw (by kernel_rfl) (by kernel_rfl) (by kernel_rfl) (List.cons_ne_nil _ _) ?_
  refine dr_op rfl rfl (opr_load0 rfl rfl Tryz.underlying131 rfl size131) ?_
  refine dr_op rfl rfl (opr_move rfl rfl) ?_
  refine dr_op rfl rfl (opr_nilCheck rfl rfl) ?_
  refine dr_op rfl rfl (opr_slice (a := 16) (b := 24) (off' := ox + 16) rfl rfl rfl rfl Tryz.underlying60 (by decide) (by decide) (by decide) size5 rfl) ?_
  refine dr_op rfl rfl (opr_call rfl rfl rfl Tryz.func90 (by kernel_rfl) rfl (uint64_ct (x := a / 256 ^ (8 * 2)) hx (EE_word hkx (i := 2) (by decide) (by omega)) (by decide))) ?_
  refine dr_last rfl rfl (opr_assign rfl rfl) ?_
  refine at_then ?_
  refine at_seq ?_
  refine at_draw (by kernel_rfl) (by kernel_rfl) (by kernel_rfl) (List.cons_ne_nil _ _) ?_
  refine dr_op rfl rfl (opr_load0 rfl rfl Tryz.underlying131 rfl size131) ?_
  refine dr_op rfl rfl (opr_move rfl rfl) ?_
  refine dr_op rfl rfl (opr_nilCheck rfl rfl) ?_
  refine dr_op rfl rfl (opr_slice (a := 24) (b := 32) (off' := ox + 24) rfl rfl rfl rfl Tryz.underlying60 (by decide) (by decide) (by decide) size5 rfl) ?_
  refine dr_op rfl rfl (opr_call rfl rfl rfl Tryz.func90 (by kernel_rfl) rfl (uint64_ct (x := a / 256 ^ (8 * 3)) hx (EE_word hkx (i := 3) (by decide) (by omega)) (by decide))) ?_
  refine dr_last rfl rfl (opr_assign rfl rfl) ?_
  refine at_then ?_
  refine at_seq ?_
  refine at_draw (by kernel_rfl) (by kernel_rfl) (by kernel_rfl) (List.cons_ne_nil _ _) ?_
  refine dr_op rfl rfl (opr_load0 rfl rfl Tryz.underlying131 rfl size131) ?_
  refine dr_op rfl rfl (opr_move rfl rfl) ?_
  refine dr_op rfl rfl (opr_nilCheck rfl rfl) ?_
  refine dr_op rfl rfl (opr_slice (a := 32) (b := 40) (off' := ox + 32) rfl rfl rfl rfl Tryz.underlying60 (by decide) (by decide) (by decide) size5 rfl) ?_
  refine dr_op rfl rfl (opr_call rfl rfl rfl Tryz.func90 (by kernel_rfl) rfl (uint64_ct (x := a / 256 ^ (8 * 4)) hx (EE_word hkx (i := 4) (by decide) (by omega)) (by decide))) ?_
  refine dr_last rfl rfl (opr_assign rfl rfl) ?_
  refine at_then ?_
  refine at_seq ?_
  refine at_draw (by kernel_rfl) (by kernel_rfl) (by kernel_rfl) (List.cons_ne_nil _ _) ?_
  refine dr_op rfl rfl (opr_load0 rfl rfl Tryz.underlying131 rfl size131) ?_
  refine dr_op rfl rfl (opr_move rfl rfl) ?_
  refine dr_op rfl rfl (opr_nilCheck rfl rfl) ?_
  refine dr_op rfl rfl (opr_slice (a := 40) (b := 48) (off' := ox + 40) rfl rfl rfl rfl Tryz.underlying60 (by decide) (by decide) (by decide) size5 rfl) ?_
  refine dr_op rfl rfl (opr_call rfl rfl rfl Tryz.func90 (by kernel_rfl) rfl (uint64_ct (x := a / 256 ^ (8 * 5)) hx (EE_word hkx (i := 5) (by decide) (by omega)) (by decide))) ?_
  refine dr_last rfl rfl (opr_assign rfl rfl) ?_
  refine at_then ?_
  refine at_seq ?_
  refine at_draw (by kernel_rfl) (by kernel_rfl) (by kernel_rfl) (List.cons_ne_nil _ _) ?_
  refine dr_op rfl rfl (opr_load0 rfl rfl Tryz.underlying131 rfl size131) ?_
  refine dr_op rfl rfl (opr_move rfl rfl) ?_
  refine dr_op rfl rfl (opr_nilCheck rfl rfl) ?_
  refine dr_op rfl rfl (opr_slice (a := 48) (b := 56) (off' := ox + 48) rfl rfl rfl rfl Tryz.underlying60 (by decide) (by decide) (by decide) size5 rfl) ?_
  refine dr_op rfl rfl (opr_call rfl rfl rfl Tryz.func90 (by kernel_rfl) rfl (uint64_ct (x := a / 256 ^ (8 * 6)) hx (EE_word hkx (i := 6) (by decide) (by omega)) (by decide))) ?_
  refine dr_last rfl rfl (opr_assign rfl rfl) ?_
  refine at_then ?_
  refine at_seq ?_
  refine at_draw (by kernel_rfl) (by kernel_rfl) (by kernel_rfl) (List.cons_ne_nil _ _) ?_
  refine dr_op rfl rfl (opr_load0 rfl rfl Tryz.underlying131 rfl size131) ?_
  refine dr_op rfl rfl (opr_move rfl rfl) ?_
  refine dr_op rfl rfl (opr_nilCheck rfl rfl) ?_
  refine dr_op rfl rfl (opr_slice (a := 0) (b := 8) (off' := oy) rfl rfl rfl rfl Tryz.underlying60 (by decide) (by decide) (by decide) size5 rfl) ?_
  refine dr_op rfl rfl (opr_call rfl rfl rfl Tryz.func90 (by kernel_rfl) rfl (uint64_ct (x := b / 256 ^ (8 * 0)) hy (EE_word hky (i := 0) (by decide) (by omega)) (by decide))) ?_
  refine dr_last rfl rfl (opr_assign rfl rfl) ?_
  refine at_then ?_
  refine at_seq ?_
  refine at_draw (by kernel_rfl) (by kernel_rfl) (by kernel_rfl) (List.cons_ne_nil _ _) ?_
  refine dr_op rfl rfl (opr_load0 rfl rfl Tryz.underlying131 rfl size131) ?_
  refine dr_op rfl rfl (opr_move rfl rfl) ?_
  refine dr_op rfl rfl (opr_nilCheck rfl rfl) ?_
  refine dr_op rfl rfl (opr_slice (a := 8) (b := 16) (off' := oy + 8) rfl rfl rfl rfl Tryz.underlying60 (by decide) (by decide) (by decide) size5 rfl) ?_
  refine dr_op rfl rfl (opr_call rfl rfl rfl Tryz.func90 (by kernel_rfl) rfl (uint64_ct (x := b / 256 ^ (8 * 1)) hy (EE_word hky (i := 1) (by decide) (by omega)) (by decide))) ?_
  refine dr_last rfl rfl (opr_assign rfl rfl) ?_
  refine at_then ?_
  refine at_seq ?_
  refine at_draw (by kernel_rfl) (by kernel_rfl) (by kernel_rfl) (List.cons_ne_nil _ _) ?_
  refine dr_op rfl rfl (opr_load0 rfl rfl Tryz.underlying131 rfl size131) ?_
  refine dr_op rfl rfl (opr_move rfl rfl) ?_
  refine dr_op rfl rfl (opr_nilCheck rfl rfl) ?_
  refine dr_op rfl rfl (opr_slice (a := 16) (b := 24) (off' := oy + 16) rfl rfl rfl rfl Tryz.underlying60 (by decide) (by decide) (by decide) size5 rfl) ?_
  refine dr_op rfl rfl (opr_call rfl rfl rfl Tryz.func90 (by kernel_rfl) rfl (uint64_ct (x := b / 256 ^ (8 * 2)) hy (EE_word hky (i := 2) (by decide) (by omega)) (by decide))) ?_
  refine dr_last rfl rfl (opr_assign rfl rfl) ?_
  refine at_then ?_
  refine at_seq ?_
  refine at_draw (by kernel_rfl) (by kernel_rfl) (by kernel_rfl) (List.cons_ne_nil _ _) ?_
  refine dr_op rfl rfl (opr_load0 rfl rfl Tryz.underlying131 rfl size131) ?_
  refine dr_op rfl rfl (opr_move rfl rfl) ?_
  refine dr_op rfl rfl (opr_nilCheck rfl rfl) ?_
  refine dr_op rfl rfl (opr_slice (a := 24) (b := 32) (off' := oy + 24) rfl rfl rfl rfl Tryz.underlying60 (by decide) (by decide) (by decide) size5 rfl) ?_
  refine dr_op rfl rfl (opr_call rfl rfl rfl Tryz.func90 (by kernel_rfl) rfl (uint64_ct (x := b / 256 ^ (8 * 3)) hy (EE_word hky (i := 3) (by decide) (by omega)) (by decide))) ?_
  refine dr_last rfl rfl (opr_assign rfl rfl) ?_
  refine at_then ?_
  refine at_seq ?_
  refine at_draw (by kernel_rfl) (by kernel_rfl) (by kernel_rfl) (List.cons_ne_nil _ _) ?_
  refine dr_op rfl rfl (opr_load0 rfl rfl Tryz.underlying131 rfl size131) ?_
  refine dr_op rfl rfl (opr_move rfl rfl) ?_
  refine dr_op rfl rfl (opr_nilCheck rfl rfl) ?_
  refine dr_op rfl rfl (opr_slice (a := 32) (b := 40) (off' := oy + 32) rfl rfl rfl rfl Tryz.underlying60 (by decide) (by decide) (by decide) size5 rfl) ?_
  refine dr_op rfl rfl (opr_call rfl rfl rfl Tryz.func90 (by kernel_rfl) rfl (uint64_ct (x := b / 256 ^ (8 * 4)) hy (EE_word hky (i := 4) (by decide) (by omega)) (by decide))) ?_
  refine dr_last rfl rfl (opr_assign rfl rfl) ?_
  refine at_then ?_
  refine at_seq ?_
  refine at_draw (by kernel_rfl) (by kernel_rfl) (by kernel_rfl) (List.cons_ne_nil _ _) ?_
  refine dr_op rfl rfl (opr_load0 rfl rfl Tryz.underlying131 rfl size131) ?_
  refine dr_op rfl rfl (opr_move rfl rfl) ?_
  refine dr_op rfl rfl (opr_nilCheck rfl rfl) ?_
  refine dr_op rfl rfl (opr_slice (a := 40) (b := 48) (off' := oy + 40) rfl rfl rfl rfl Tryz.underlying60 (by decide) (by decide) (by decide) size5 rfl) ?_
  refine dr_op rfl rfl (opr_call rfl rfl rfl Tryz.func90 (by kernel_rfl) rfl (uint64_ct (x := b / 256 ^ (8 * 5)) hy (EE_word hky (i := 5) (by decide) (by omega)) (by decide))) ?_
  refine dr_last rfl rfl (opr_assign rfl rfl) ?_
  refine at_then ?_
  refine at_seq ?_
  refine at_draw (by kernel_rfl) (by kernel_rfl) (by kernel_rfl) (List.cons_ne_nil _ _) ?_
  refine dr_op rfl rfl (opr_load0 rfl rfl Tryz.underlying131 rfl size131) ?_
  refine dr_op rfl rfl (opr_move rfl rfl) ?_
  refine dr_op rfl rfl (opr_nilCheck rfl rfl) ?_
  refine dr_op rfl rfl (opr_slice (a := 48) (b := 56) (off' := oy + 48) rfl rfl rfl rfl Tryz.underlying60 (by decide) (by decide) (by decide) size5 rfl) ?_
  refine dr_op rfl rfl (opr_call rfl rfl rfl Tryz.func90 (by kernel_rfl) rfl (uint64_ct (x := b / 256 ^ (8 * 6)) hy (EE_word hky (i := 6) (by decide) (by omega)) (by decide))) ?_
  refine dr_last rfl rfl (opr_assign rfl rfl) ?_
  refine at_then ?_
  refine at_seq ?_
  refine at_region ?_
  refine at_d rfl rfl (opr_move rfl rfl) ?_
  refine at_d rfl rfl (opr_move rfl rfl) ?_
  refine at_c rfl rfl (opr_Sub64 rfl rfl rfl (by decide) (Nat.mod_lt _ (by decide)) (Nat.mod_lt _ (by decide))) ?_
  rintro _ _ ⟨s0, k0, rfl, e0, l0, m0, rfl⟩
  refine at_d rfl rfl (opr_move rfl rfl) ?_
  refine at_d rfl rfl (opr_extract rfl rfl rfl) ?_
  refine at_d rfl rfl (opr_extract rfl rfl rfl) ?_
  refine at_d rfl rfl (opr_assign rfl rfl) ?_
  refine at_d rfl rfl (opr_assign rfl rfl) ?_
  refine at_nil ?_
  refine at_then ?_
  refine at_seq ?_
  refine at_region ?_
  refine at_d rfl rfl (opr_move rfl rfl) ?_
  refine at_d rfl rfl (opr_move rfl rfl) ?_
  refine at_d rfl rfl (opr_move rfl rfl) ?_
  refine at_c rfl rfl (opr_Sub64 rfl rfl rfl m0 (Nat.mod_lt _ (by decide)) (Nat.mod_lt _ (by decide))) ?_
  rintro _ _ ⟨s1, k1, rfl, e1, l1, m1, rfl⟩
  refine at_d rfl rfl (opr_move rfl rfl) ?_
  refine at_d rfl rfl (opr_extract rfl rfl rfl) ?_
  refine at_d rfl rfl (opr_extract rfl rfl rfl) ?_
  refine at_d rfl rfl (opr_assign rfl rfl) ?_
  refine at_d rfl rfl (opr_assign rfl rfl) ?_
  refine at_nil ?_
  refine at_then ?_
  refine at_seq ?_
  refine at_region ?_
  refine at_d rfl rfl (opr_move rfl rfl) ?_
  refine at_d rfl rfl (opr_move rfl rfl) ?_
  refine at_d rfl rfl (opr_move rfl rfl) ?_
  refine at_c rfl rfl (opr_Sub64 rfl rfl rfl m1 (Nat.mod_lt _ (by decide)) (Nat.mod_lt _ (by decide))) ?_
  rintro _ _ ⟨s2, k2, rfl, e2, l2, m2, rfl⟩
  refine at_d rfl rfl (opr_move rfl rfl) ?_
  refine at_d rfl rfl (opr_extract rfl rfl rfl) ?_
  refine at_d rfl rfl (opr_extract rfl rfl rfl) ?_
  refine at_d rfl rfl (opr_assign rfl rfl) ?_
  refine at_d rfl rfl (opr_assign rfl rfl) ?_
  refine at_nil ?_
  refine at_then ?_
  refine at_seq ?_
  refine at_region ?_
  refine at_d rfl rfl (opr_move rfl rfl) ?_
  refine at_d rfl rfl (opr_move rfl rfl) ?_
  refine at_d rfl rfl (opr_move rfl rfl) ?_
  refine at_c rfl rfl (opr_Sub64 rfl rfl rfl m2 (Nat.mod_lt _ (by decide)) (Nat.mod_lt _ (by decide))) ?_
  rintro _ _ ⟨s3, k3, rfl, e3, l3, m3, rfl⟩
  refine at_d rfl rfl (opr_move rfl rfl) ?_
  refine at_d rfl rfl (opr_extract rfl rfl rfl) ?_
  refine at_d rfl rfl (opr_extract rfl rfl rfl) ?_
  refine at_d rfl rfl (opr_assign rfl rfl) ?_
  refine at_d rfl rfl (opr_assign rfl rfl) ?_
  refine at_nil ?_
  refine at_then ?_
  refine at_seq ?_
  refine at_region ?_
  refine at_d rfl rfl (opr_move rfl rfl) ?_
  refine at_d rfl rfl (opr_move rfl rfl) ?_
  refine at_d rfl rfl (opr_move rfl rfl) ?_
  refine at_c rfl rfl (opr_Sub64 rfl rfl rfl m3 (Nat.mod_lt _ (by decide)) (Nat.mod_lt _ (by decide))) ?_
  rintro _ _ ⟨s4, k4, rfl, e4, l4, m4, rfl⟩
  refine at_d rfl rfl (opr_move rfl rfl) ?_
  refine at_d rfl rfl (opr_extract rfl rfl rfl) ?_
  refine at_d rfl rfl (opr_extract rfl rfl rfl) ?_
  refine at_d rfl rfl (opr_assign rfl rfl) ?_
  refine at_d rfl rfl (opr_assign rfl rfl) ?_
  refine at_nil ?_
  refine at_then ?_
  refine at_seq ?_
  refine at_region ?_
  refine at_d rfl rfl (opr_move rfl rfl) ?_
  refine at_d rfl rfl (opr_move rfl rfl) ?_
  refine at_d rfl rfl (opr_move rfl rfl) ?_
  refine at_c rfl rfl (opr_Sub64 rfl rfl rfl m4 (Nat.mod_lt _ (by decide)) (Nat.mod_lt _ (by decide))) ?_
  rintro _ _ ⟨s5, k5, rfl, e5, l5, m5, rfl⟩
  refine at_d rfl rfl (opr_move rfl rfl) ?_
  refine at_d rfl rfl (opr_extract rfl rfl rfl) ?_
  refine at_d rfl rfl (opr_extract rfl rfl rfl) ?_
  refine at_d rfl rfl (opr_assign rfl rfl) ?_
  refine at_d rfl rfl (opr_assign rfl rfl) ?_
  refine at_nil ?_
  refine at_then ?_
  refine at_seq ?_
  refine at_region ?_
  refine at_d rfl rfl (opr_move rfl rfl) ?_
  refine at_d rfl rfl (opr_move rfl rfl) ?_
  refine at_d rfl rfl (opr_move rfl rfl) ?_
  refine at_c rfl rfl (opr_Sub64 rfl rfl rfl m5 (Nat.mod_lt _ (by decide)) (Nat.mod_lt _ (by decide))) ?_
  rintro _ _ ⟨s6, k6, rfl, e6, l6, m6, rfl⟩
  refine at_d rfl rfl (opr_move rfl rfl) ?_
  refine at_d rfl rfl (opr_extract rfl rfl rfl) ?_
  refine at_d rfl rfl (opr_extract rfl rfl rfl) ?_
  refine at_d rfl rfl (opr_assign rfl rfl) ?_
  refine at_d rfl rfl (opr_assign rfl rfl) ?_
  refine at_nil ?_
  refine at_then ?_
  refine at_seq ?_
  refine at_region ?_
  refine at_d rfl rfl (opr_move rfl rfl) ?_
  refine at_d rfl rfl (opr_move rfl rfl) ?_
  refine at_c rfl rfl (opr_Sub64 rfl rfl rfl (by decide) l0 (Nat.lt_of_le_of_lt m6 (by decide))) ?_
  rintro _ _ ⟨s7, k7, rfl, e7, l7, m7, rfl⟩
  refine at_d rfl rfl (opr_move rfl rfl) ?_
  refine at_d rfl rfl (opr_extract rfl rfl rfl) ?_
  refine at_d rfl rfl (opr_extract rfl rfl rfl) ?_
  refine at_d rfl rfl (opr_assign rfl rfl) ?_
  refine at_d rfl rfl (opr_assign rfl rfl) ?_
  refine at_nil ?_
  refine at_then ?_
  refine at_seq ?_
  refine at_region ?_
  refine at_d rfl rfl (opr_move rfl rfl) ?_
  refine at_d rfl rfl (opr_move rfl rfl) ?_
  refine at_c rfl rfl (opr_Sub64 rfl rfl rfl m7 l1 (by decide)) ?_
  rintro _ _ ⟨s8, k8, rfl, e8, l8, m8, rfl⟩
  refine at_d rfl rfl (opr_move rfl rfl) ?_
  refine at_d rfl rfl (opr_extract rfl rfl rfl) ?_
  refine at_d rfl rfl (opr_extract rfl rfl rfl) ?_
  refine at_d rfl rfl (opr_assign rfl rfl) ?_
  refine at_d rfl rfl (opr_assign rfl rfl) ?_
  refine at_nil ?_
  refine at_then ?_
  refine at_seq ?_
  refine at_region ?_
  refine at_d rfl rfl (opr_move rfl rfl) ?_
  refine at_d rfl rfl (opr_move rfl rfl) ?_
  refine at_c rfl rfl (opr_Sub64 rfl rfl rfl m8 l2 (by decide)) ?_
  rintro _ _ ⟨s9, k9, rfl, e9, l9, m9, rfl⟩
  refine at_d rfl rfl (opr_move rfl rfl) ?_
  refine at_d rfl rfl (opr_extract rfl rfl rfl) ?_
  refine at_d rfl rfl (opr_extract rfl rfl rfl) ?_
  refine at_d rfl rfl (opr_assign rfl rfl) ?_
  refine at_d rfl rfl (opr_assign rfl rfl) ?_
  refine at_nil ?_
  refine at_then ?_
  refine at_seq ?_
  refine at_region ?_
  refine at_d rfl rfl (opr_move rfl rfl) ?_
  refine at_d rfl rfl (opr_move rfl rfl) ?_
  refine at_d rfl rfl (opr_shl64 rfl rfl rfl (by decide)) ?_
  refine at_d rfl rfl (opr_move rfl rfl) ?_
  refine at_c rfl rfl (opr_Sub64 rfl rfl rfl m9 l3 (Nat.mod_lt _ (by decide))) ?_
  rintro _ _ ⟨s10, k10, rfl, e10, l10, m10, rfl⟩
  refine at_d rfl rfl (opr_move rfl rfl) ?_
  refine at_d rfl rfl (opr_extract rfl rfl rfl) ?_
  refine at_d rfl rfl (opr_extract rfl rfl rfl) ?_
  refine at_d rfl rfl (opr_assign rfl rfl) ?_
  refine at_d rfl rfl (opr_assign rfl rfl) ?_
  refine at_nil ?_
  refine at_then ?_
  refine at_seq ?_
  refine at_region ?_
  refine at_d rfl rfl (opr_move rfl rfl) ?_
  refine at_d rfl rfl (opr_move rfl rfl) ?_
  refine at_c rfl rfl (opr_Sub64 rfl rfl rfl m10 l4 (by decide)) ?_
  rintro _ _ ⟨s11, k11, rfl, e11, l11, m11, rfl⟩
  refine at_d rfl rfl (opr_move rfl rfl) ?_
  refine at_d rfl rfl (opr_extract rfl rfl rfl) ?_
  refine at_d rfl rfl (opr_extract rfl rfl rfl) ?_
  refine at_d rfl rfl (opr_assign rfl rfl) ?_
  refine at_d rfl rfl (opr_assign rfl rfl) ?_
  refine at_nil ?_
  refine at_then ?_
  refine at_seq ?_
  refine at_region ?_
  refine at_d rfl rfl (opr_move rfl rfl) ?_
  refine at_d rfl rfl (opr_move rfl rfl) ?_
  refine at_c rfl rfl (opr_Sub64 rfl rfl rfl m11 l5 (by decide)) ?_
  rintro _ _ ⟨s12, k12, rfl, e12, l12, m12, rfl⟩
  refine at_d rfl rfl (opr_move rfl rfl) ?_
  refine at_d rfl rfl (opr_extract rfl rfl rfl) ?_
  refine at_d rfl rfl (opr_extract rfl rfl rfl) ?_
  refine at_d rfl rfl (opr_assign rfl rfl) ?_
  refine at_d rfl rfl (opr_assign rfl rfl) ?_
  refine at_nil ?_
  refine at_then ?_
  refine at_seq ?_
  refine at_region ?_
  refine at_d rfl rfl (opr_move rfl rfl) ?_
  refine at_d rfl rfl (opr_move rfl rfl) ?_
  refine at_c rfl rfl (opr_Sub64 rfl rfl rfl m12 l6 (by decide)) ?_
  rintro _ _ ⟨s13, k13, rfl, e13, l13, m13, rfl⟩
  refine at_d rfl rfl (opr_move rfl rfl) ?_
  refine at_d rfl rfl (opr_extract rfl rfl rfl) ?_
  refine at_d rfl rfl (opr_extract rfl rfl rfl) ?_
  refine at_d rfl rfl (opr_assign rfl rfl) ?_
  refine at_d rfl rfl (opr_assign rfl rfl) ?_
  refine at_nil ?_
  refine at_then ?_
  refine at_seq ?_
  refine at_region ?_
  refine at_d rfl rfl (opr_move rfl rfl) ?_
  refine at_d rfl rfl (opr_move rfl rfl) ?_
  refine at_c rfl rfl (opr_Sub64 rfl rfl rfl (by decide) l7 (Nat.lt_of_le_of_lt m13 (by decide))) ?_
  rintro _ _ ⟨s14, k14, rfl, e14, l14, m14, rfl⟩
  refine at_d rfl rfl (opr_move rfl rfl) ?_
  refine at_d rfl rfl (opr_extract rfl rfl rfl) ?_
  refine at_d rfl rfl (opr_extract rfl rfl rfl) ?_
  refine at_d rfl rfl (opr_assign rfl rfl) ?_
  refine at_d rfl rfl (opr_assign rfl rfl) ?_
  refine at_nil ?_
  refine at_then ?_
  refine at_seq ?_
  refine at_region ?_
  refine at_d rfl rfl (opr_move rfl rfl) ?_
  refine at_d rfl rfl (opr_move rfl rfl) ?_
  refine at_c rfl rfl (opr_Sub64 rfl rfl rfl m14 l8 (by decide)) ?_
  rintro _ _ ⟨s15, k15, rfl, e15, l15, m15, rfl⟩
  refine at_d rfl rfl (opr_move rfl rfl) ?_
  refine at_d rfl rfl (opr_extract rfl rfl rfl) ?_
  refine at_d rfl rfl (opr_extract rfl rfl rfl) ?_
  refine at_d rfl rfl (opr_assign rfl rfl) ?_
  refine at_d rfl rfl (opr_assign rfl rfl) ?_
  refine at_nil ?_
  refine at_then ?_
  refine at_seq ?_
  refine at_region ?_
  refine at_d rfl rfl (opr_move rfl rfl) ?_
  refine at_d rfl rfl (opr_move rfl rfl) ?_
  refine at_c rfl rfl (opr_Sub64 rfl rfl rfl m15 l9 (by decide)) ?_
  rintro _ _ ⟨s16, k16, rfl, e16, l16, m16, rfl⟩
  refine at_d rfl rfl (opr_move rfl rfl) ?_
  refine at_d rfl rfl (opr_extract rfl rfl rfl) ?_
  refine at_d rfl rfl (opr_extract rfl rfl rfl) ?_
  refine at_d rfl rfl (opr_assign rfl rfl) ?_
  refine at_d rfl rfl (opr_assign rfl rfl) ?_
  refine at_nil ?_
  refine at_then ?_
  refine at_seq ?_
  refine at_region ?_
  refine at_d rfl rfl (opr_move rfl rfl) ?_
  refine at_d rfl rfl (opr_move rfl rfl) ?_
  refine at_d rfl rfl (opr_shl64 rfl rfl rfl (by decide)) ?_
  refine at_d rfl rfl (opr_move rfl rfl) ?_
  refine at_c rfl rfl (opr_Sub64 rfl rfl rfl m16 l10 (Nat.mod_lt _ (by decide))) ?_
  rintro _ _ ⟨s17, k17, rfl, e17, l17, m17, rfl⟩
  refine at_d rfl rfl (opr_move rfl rfl) ?_
  refine at_d rfl rfl (opr_extract rfl rfl rfl) ?_
  refine at_d rfl rfl (opr_extract rfl rfl rfl) ?_
  refine at_d rfl rfl (opr_assign rfl rfl) ?_
  refine at_d rfl rfl (opr_assign rfl rfl) ?_
  refine at_nil ?_
  refine at_then ?_
  refine at_seq ?_
  refine at_region ?_
  refine at_d rfl rfl (opr_move rfl rfl) ?_
  refine at_d rfl rfl (opr_move rfl rfl) ?_
  refine at_c rfl rfl (opr_Sub64 rfl rfl rfl m17 l11 (by decide)) ?_
  rintro _ _ ⟨s18, k18, rfl, e18, l18, m18, rfl⟩
  refine at_d rfl rfl (opr_move rfl rfl) ?_
  refine at_d rfl rfl (opr_extract rfl rfl rfl) ?_
  refine at_d rfl rfl (opr_extract rfl rfl rfl) ?_
  refine at_d rfl rfl (opr_assign rfl rfl) ?_
  refine at_d rfl rfl (opr_assign rfl rfl) ?_
  refine at_nil ?_
  refine at_then ?_
  refine at_seq ?_
  refine at_region ?_
  refine at_d rfl rfl (opr_move rfl rfl) ?_
  refine at_d rfl rfl (opr_move rfl rfl) ?_
  refine at_c rfl rfl (opr_Sub64 rfl rfl rfl m18 l12 (by decide)) ?_
  rintro _ _ ⟨s19, k19, rfl, e19, l19, m19, rfl⟩
  refine at_d rfl rfl (opr_move rfl rfl) ?_
  refine at_d rfl rfl (opr_extract rfl rfl rfl) ?_
  refine at_d rfl rfl (opr_extract rfl rfl rfl) ?_
  refine at_d rfl rfl (opr_assign rfl rfl) ?_
  refine at_d rfl rfl (opr_assign rfl rfl) ?_
  refine at_nil ?_
  refine at_then ?_
  refine at_seq ?_
  refine at_region ?_
  refine at_d rfl rfl (opr_move rfl rfl) ?_
  refine at_d rfl rfl (opr_move rfl rfl) ?_
  refine at_c rfl rfl (opr_Sub64 rfl rfl rfl m19 l13 (by decide)) ?_
  rintro _ _ ⟨s20, k20, rfl, e20, l20, m20, rfl⟩
  refine at_d rfl rfl (opr_move rfl rfl) ?_
  refine at_d rfl rfl (opr_extract rfl rfl rfl) ?_
  refine at_d rfl rfl (opr_extract rfl rfl rfl) ?_
  refine at_d rfl rfl (opr_assign rfl rfl) ?_
  refine at_nil ?_
  refine at_then ?_
  refine at_seq ?_
  refine at_draw (by kernel_rfl) (by kernel_rfl) (by kernel_rfl) (List.cons_ne_nil _ _) ?_
  refine dr_op rfl rfl (opr_load0 rfl rfl Tryz.underlying131 rfl size131) ?_
  refine dr_op rfl rfl (opr_move rfl rfl) ?_
  refine dr_op rfl rfl (opr_nilCheck rfl rfl) ?_
  refine dr_op rfl rfl (opr_slice (a := 0) (b := 8) (off' := oz) rfl rfl rfl rfl Tryz.underlying60 (by decide) (by decide) (by decide) size5 rfl) ?_
  refine dr_op rfl rfl (opr_move rfl rfl) ?_
  refine dr_last rfl rfl (opr_call rfl rfl rfl Tryz.func95 (by kernel_rfl) rfl (putUint64_ct hz (Nat.le_trans (by omega) hle) l14 (by decide))) ?_
  refine at_then ?_
  refine at_seq ?_
  refine at_draw (by kernel_rfl) (by kernel_rfl) (by kernel_rfl) (List.cons_ne_nil _ _) ?_
  refine dr_op rfl rfl (opr_load0 rfl rfl Tryz.underlying131 rfl size131) ?_
  refine dr_op rfl rfl (opr_move rfl rfl) ?_
  refine dr_op rfl rfl (opr_nilCheck rfl rfl) ?_
  refine dr_op rfl rfl (opr_slice (a := 8) (b := 16) (off' := oz + 8) rfl rfl rfl rfl Tryz.underlying60 (by decide) (by decide) (by decide) size5 rfl) ?_
  refine dr_op rfl rfl (opr_move rfl rfl) ?_
  refine dr_last rfl rfl (opr_call rfl rfl rfl Tryz.func95 (by kernel_rfl) rfl (putUint64_ct (get_set hz) (Nat.le_trans (by omega) (ple hle (by omega))) l15 (by decide))) ?_
  refine at_then ?_
  refine at_seq ?_
  refine at_draw (by kernel_rfl) (by kernel_rfl) (by kernel_rfl) (List.cons_ne_nil _ _) ?_
  refine dr_op rfl rfl (opr_load0 rfl rfl Tryz.underlying131 rfl size131) ?_
  refine dr_op rfl rfl (opr_move rfl rfl) ?_
  refine dr_op rfl rfl (opr_nilCheck rfl rfl) ?_
  refine dr_op rfl rfl (opr_slice (a := 16) (b := 24) (off' := oz + 16) rfl rfl rfl rfl Tryz.underlying60 (by decide) (by decide) (by decide) size5 rfl) ?_
  refine dr_op rfl rfl (opr_move rfl rfl) ?_
  refine dr_last rfl rfl (opr_call rfl rfl rfl Tryz.func95 (by kernel_rfl) rfl (putUint64_ct (get_set (get_set hz)) (Nat.le_trans (by omega) (ple (ple hle (by omega)) (by omega))) l16 (by decide))) ?_
  refine at_then ?_
  refine at_seq ?_
  refine at_draw (by kernel_rfl) (by kernel_rfl) (by kernel_rfl) (List.cons_ne_nil _ _) ?_
  refine dr_op rfl rfl (opr_load0 rfl rfl Tryz.underlying131 rfl size131) ?_
  refine dr_op rfl rfl (opr_move rfl rfl) ?_
  refine dr_op rfl rfl (opr_nilCheck rfl rfl) ?_
  refine dr_op rfl rfl (opr_slice (a := 24) (b := 32) (off' := oz + 24) rfl rfl rfl rfl Tryz.underlying60 (by decide) (by decide) (by decide) size5 rfl) ?_
  refine dr_op rfl rfl (opr_move rfl rfl) ?_
  refine dr_last rfl rfl (opr_call rfl rfl rfl Tryz.func95 (by kernel_rfl) rfl (putUint64_ct (get_set (get_set (get_set hz))) (Nat.le_trans (by omega) (ple (ple (ple hle (by omega)) (by omega)) (by omega))) l17 (by decide))) ?_
  refine at_then ?_
  refine at_seq ?_
  refine at_draw (by kernel_rfl) (by kernel_rfl) (by kernel_rfl) (List.cons_ne_nil _ _) ?_
  refine dr_op rfl rfl (opr_load0 rfl rfl Tryz.underlying131 rfl size131) ?_
  refine dr_op rfl rfl (opr_move rfl rfl) ?_
  refine dr_op rfl rfl (opr_nilCheck rfl rfl) ?_
  refine dr_op rfl rfl (opr_slice (a := 32) (b := 40) (off' := oz + 32) rfl rfl rfl rfl Tryz.underlying60 (by decide) (by decide) (by decide) size5 rfl) ?_
  refine dr_op rfl rfl (opr_move rfl rfl) ?_
  refine dr_last rfl rfl (opr_call rfl rfl rfl Tryz.func95 (by kernel_rfl) rfl (putUint64_ct (get_set (get_set (get_set (get_set hz)))) (Nat.le_trans (by omega) (ple (ple (ple (ple hle (by omega)) (by omega)) (by omega)) (by omega))) l18 (by decide))) ?_
  refine at_then ?_
  refine at_seq ?_
  refine at_draw (by kernel_rfl) (by kernel_rfl) (by kernel_rfl) (List.cons_ne_nil _ _) ?_
  refine dr_op rfl rfl (opr_load0 rfl rfl Tryz.underlying131 rfl size131) ?_
  refine dr_op rfl rfl (opr_move rfl rfl) ?_
  refine dr_op rfl rfl (opr_nilCheck rfl rfl) ?_
  refine dr_op rfl rfl (opr_slice (a := 40) (b := 48) (off' := oz + 40) rfl rfl rfl rfl Tryz.underlying60 (by decide) (by decide) (by decide) size5 rfl) ?_
  refine dr_op rfl rfl (opr_move rfl rfl) ?_
  refine dr_last rfl rfl (opr_call rfl rfl rfl Tryz.func95 (by kernel_rfl) rfl (putUint64_ct (get_set (get_set (get_set (get_set (get_set hz))))) (Nat.le_trans (by omega) (ple (ple (ple (ple (ple hle (by omega)) (by omega)) (by omega)) (by omega)) (by omega))) l19 (by decide))) ?_
  refine at_then ?_
  refine at_draw (by kernel_rfl) (by kernel_rfl) (by kernel_rfl) (List.cons_ne_nil _ _) ?_
  refine dr_op rfl rfl (opr_load0 rfl rfl Tryz.underlying131 rfl size131) ?_
  refine dr_op rfl rfl (opr_move rfl rfl) ?_
  refine dr_op rfl rfl (opr_nilCheck rfl rfl) ?_
  refine dr_op rfl rfl (opr_slice (a := 48) (b := 56) (off' := oz + 48) rfl rfl rfl rfl Tryz.underlying60 (by decide) (by decide) (by decide) size5 rfl) ?_
  refine dr_op rfl rfl (opr_move rfl rfl) ?_
  refine dr_last rfl rfl (opr_call rfl rfl rfl Tryz.func95 (by kernel_rfl) rfl (putUint64_ct (get_set (get_set (get_set (get_set (get_set (get_set hz)))))) (Nat.le_trans (by omega) (ple (ple (ple (ple (ple (ple hle (by omega)) (by omega)) (by omega)) (by omega)) (by omega)) (by omega))) l20 (by decide))) ?_
  refine done_of (res0 rfl) ⟨rfl, ?_⟩ (List.Sublist.refl _)
  refine (put7 hkz hoz l14 l15 l16 l17 l18 l19 l20).trans ?_
  have f1 := sub_chain e0 e1 e2 e3 e4 e5 e6
  have f2 := sub_chain e7 e8 e9 e10 e11 e12 e13
  have f3 := sub_chain e14 e15 e16 e17 e18 e19 e20
  rw [words7 ha, words7 hb] at f1
  rw [fold_words m6] at f2
  rw [fold_words m13] at f3
  rw [sub_folds ha hb (dval7_lt l0 l1 l2 l3 l4 l5 l6) (dval7_lt l7 l8 l9 l10 l11 l12 l13) (dval7_lt l14 l15 l16 l17 l18 l19 l20) m6 m13 m20 f1 f2 f3]
theorem add_pass {M : Mem} {R : Value → Mem → Prop} {a b c : Value} (h : Ct Tryz.prog 100 #[a, b, c] M R) (hR : ∀ v M', R v M' → v = .tuple #[]) : Ct Tryz.prog 86 #[a, b, c] M R := by
  refine ct_of (vs := [a, b, c]) Tryz.func86 rfl Tryz.ntmps86 rfl fun w0 => ?_
  refine at_region ?_
  refine at_d rfl rfl (opr_move rfl rfl) ?_
  refine at_d rfl rfl (opr_move rfl rfl) ?_
  refine at_d rfl rfl (opr_move rfl rfl) ?_
  refine at_c rfl rfl (opr_call rfl rfl rfl Tryz.func100 (by kernel_rfl) rfl (h)) ?_
  intro v M' hv
  refine at_nil ?_
  obtain rfl := hR v M' hv
  exact done_of (res0 rfl) hv (List.Sublist.refl _)
theorem Add_pass {M : Mem} {R : Value → Mem → Prop} {a b c : Value} (h : Ct Tryz.prog 86 #[a, b, c] M R) (hR : ∀ v M', R v M' → v = .tuple #[]) : Ct Tryz.prog 60 #[a, b, c] M R := by
  refine ct_of (vs := [a, b, c]) Tryz.func60 rfl Tryz.ntmps60 rfl fun w0 => ?_
  refine at_region ?_
  refine at_d rfl rfl (opr_move rfl rfl) ?_
  refine at_d rfl rfl (opr_move rfl rfl) ?_
  refine at_d rfl rfl (opr_move rfl rfl) ?_
  refine at_c rfl rfl (opr_call rfl rfl rfl Tryz.func86 (by kernel_rfl) rfl (h)) ?_
  intro v M' hv
  refine at_nil ?_
  obtain rfl := hR v M' hv
  exact done_of (res0 rfl) hv (List.Sublist.refl _)
theorem sub_pass {M : Mem} {R : Value → Mem → Prop} {a b c : Value} (h : Ct Tryz.prog 102 #[a, b, c] M R) (hR : ∀ v M', R v M' → v = .tuple #[]) : Ct Tryz.prog 88 #[a, b, c] M R := by
  refine ct_of (vs := [a, b, c]) Tryz.func88 rfl Tryz.ntmps88 rfl fun w0 => ?_
  refine at_region ?_
  refine at_d rfl rfl (opr_move rfl rfl) ?_
  refine at_d rfl rfl (opr_move rfl rfl) ?_
  refine at_d rfl rfl (opr_move rfl rfl) ?_
  refine at_c rfl rfl (opr_call rfl rfl rfl Tryz.func102 (by kernel_rfl) rfl (h)) ?_
  intro v M' hv
  refine at_nil ?_
  obtain rfl := hR v M' hv
  exact done_of (res0 rfl) hv (List.Sublist.refl _)
theorem Sub_pass {M : Mem} {R : Value → Mem → Prop} {a b c : Value} (h : Ct Tryz.prog 88 #[a, b, c] M R) (hR : ∀ v M', R v M' → v = .tuple #[]) : Ct Tryz.prog 62 #[a, b, c] M R := by
  refine ct_of (vs := [a, b, c]) Tryz.func62 rfl Tryz.ntmps62 rfl fun w0 => ?_
  refine at_region ?_
  refine at_d rfl rfl (opr_move rfl rfl) ?_
  refine at_d rfl rfl (opr_move rfl rfl) ?_
  refine at_d rfl rfl (opr_move rfl rfl) ?_
  refine at_c rfl rfl (opr_call rfl rfl rfl Tryz.func88 (by kernel_rfl) rfl (h)) ?_
  intro v M' hv
  refine at_nil ?_
  obtain rfl := hR v M' hv
  exact done_of (res0 rfl) hv (List.Sublist.refl _)
theorem mul_pass {M : Mem} {R : Value → Mem → Prop} {a b c : Value} (h : Ct Tryz.prog 89 #[a, b, c] M R) (hR : ∀ v M', R v M' → v = .tuple #[]) : Ct Tryz.prog 67 #[a, b, c] M R := by
  refine ct_of (vs := [a, b, c]) Tryz.func67 rfl Tryz.ntmps67 rfl fun w0 => ?_
  refine at_region ?_
  refine at_d rfl rfl (opr_move rfl rfl) ?_
  refine at_d rfl rfl (opr_move rfl rfl) ?_
  refine at_d rfl rfl (opr_move rfl rfl) ?_
  refine at_c rfl rfl (opr_call rfl rfl rfl Tryz.func89 (by kernel_rfl) rfl (h)) ?_
  intro v M' hv
  refine at_nil ?_
  obtain rfl := hR v M' hv
  exact done_of (res0 rfl) hv (List.Sublist.refl _)
theorem Mul_pass {M : Mem} {R : Value → Mem → Prop} {a b c : Value} (h : Ct Tryz.prog 67 #[a, b, c] M R) (hR : ∀ v M', R v M' → v = .tuple #[]) : Ct Tryz.prog 43 #[a, b, c] M R := by
  refine ct_of (vs := [a, b, c]) Tryz.func43 rfl Tryz.ntmps43 rfl fun w0 => ?_
  refine at_region ?_
  refine at_d rfl rfl (opr_move rfl rfl) ?_
  refine at_d rfl rfl (opr_move rfl rfl) ?_
  refine at_d rfl rfl (opr_move rfl rfl) ?_
  refine at_c rfl rfl (opr_call rfl rfl rfl Tryz.func67 (by kernel_rfl) rfl (h)) ?_
  intro v M' hv
  refine at_nil ?_
  obtain rfl := hR v M' hv
  exact done_of (res0 rfl) hv (List.Sublist.refl _)
theorem sqr_pass {M : Mem} {R : Value → Mem → Prop} {a b : Value} (h : Ct Tryz.prog 101 #[a, b] M R) (hR : ∀ v M', R v M' → v = .tuple #[]) : Ct Tryz.prog 87 #[a, b] M R := by
  refine ct_of (vs := [a, b]) Tryz.func87 rfl Tryz.ntmps87 rfl fun w0 => ?_
  refine at_region ?_
  refine at_d rfl rfl (opr_move rfl rfl) ?_
  refine at_d rfl rfl (opr_move rfl rfl) ?_
  refine at_c rfl rfl (opr_call rfl rfl rfl Tryz.func101 (by kernel_rfl) rfl (h)) ?_
  intro v M' hv
  refine at_nil ?_
  obtain rfl := hR v M' hv
  exact done_of (res0 rfl) hv (List.Sublist.refl _)
theorem Sqr_pass {M : Mem} {R : Value → Mem → Prop} {a b : Value} (h : Ct Tryz.prog 87 #[a, b] M R) (hR : ∀ v M', R v M' → v = .tuple #[]) : Ct Tryz.prog 61 #[a, b] M R := by
  refine ct_of (vs := [a, b]) Tryz.func61 rfl Tryz.ntmps61 rfl fun w0 => ?_
  refine at_region ?_
  refine at_d rfl rfl (opr_move rfl rfl) ?_
  refine at_d rfl rfl (opr_move rfl rfl) ?_
  refine at_c rfl rfl (opr_call rfl rfl rfl Tryz.func87 (by kernel_rfl) rfl (h)) ?_
  intro v M' hv
  refine at_nil ?_
  obtain rfl := hR v M' hv
  exact done_of (res0 rfl) hv (List.Sublist.refl _)
theorem cmov_pass {M : Mem} {R : Value → Mem → Prop} {a b c : Value} (h : Ct Tryz.prog 104 #[a, b, c] M R) (hR : ∀ v M', R v M' → v = .tuple #[]) : Ct Tryz.prog 97 #[a, b, c] M R := by
  refine ct_of (vs := [a, b, c]) Tryz.func97 rfl Tryz.ntmps97 rfl fun w0 => ?_
  refine at_region ?_
  refine at_d rfl rfl (opr_move rfl rfl) ?_
  refine at_d rfl rfl (opr_move rfl rfl) ?_
  refine at_d rfl rfl (opr_move rfl rfl) ?_
  refine at_c rfl rfl (opr_call rfl rfl rfl Tryz.func104 (by kernel_rfl) rfl (h)) ?_
  intro v M' hv
  refine at_nil ?_
  obtain rfl := hR v M' hv
  exact done_of (res0 rfl) hv (List.Sublist.refl _)
theorem Cmov_pass {M : Mem} {R : Value → Mem → Prop} {a b c : Value} (h : Ct Tryz.prog 97 #[a, b, c] M R) (hR : ∀ v M', R v M' → v = .tuple #[]) : Ct Tryz.prog 82 #[a, b, c] M R := by
  refine ct_of (vs := [a, b, c]) Tryz.func82 rfl Tryz.ntmps82 rfl fun w0 => ?_
  refine at_region ?_
  refine at_d rfl rfl (opr_move rfl rfl) ?_
  refine at_d rfl rfl (opr_move rfl rfl) ?_
  refine at_d rfl rfl (opr_move rfl rfl) ?_
  refine at_c rfl rfl (opr_call rfl rfl rfl Tryz.func97 (by kernel_rfl) rfl (h)) ?_
  intro v M' hv
  refine at_nil ?_
  obtain rfl := hR v M' hv
  exact done_of (res0 rfl) hv (List.Sublist.refl _)
theorem cswap_pass {M : Mem} {R : Value → Mem → Prop} {a b c : Value} (h : Ct Tryz.prog 105 #[a, b, c] M R) (hR : ∀ v M', R v M' → v = .tuple #[]) : Ct Tryz.prog 99 #[a, b, c] M R := by
  refine ct_of (vs := [a, b, c]) Tryz.func99 rfl Tryz.ntmps99 rfl fun w0 => ?_
  refine at_region ?_
  refine at_d rfl rfl (opr_move rfl rfl) ?_
  refine at_d rfl rfl (opr_move rfl rfl) ?_
  refine at_d rfl rfl (opr_move rfl rfl) ?_
  refine at_c rfl rfl (opr_call rfl rfl rfl Tryz.func105 (by kernel_rfl) rfl (h)) ?_
  intro v M' hv
  refine at_nil ?_
  obtain rfl := hR v M' hv
  exact done_of (res0 rfl) hv (List.Sublist.refl _)
theorem Cswap_pass {M : Mem} {R : Value → Mem → Prop} {a b c : Value} (h : Ct Tryz.prog 99 #[a, b, c] M R) (hR : ∀ v M', R v M' → v = .tuple #[]) : Ct Tryz.prog 84 #[a, b, c] M R := by
  refine ct_of (vs := [a, b, c]) Tryz.func84 rfl Tryz.ntmps84 rfl fun w0 => ?_
  refine at_region ?_
  refine at_d rfl rfl (opr_move rfl rfl) ?_
  refine at_d rfl rfl (opr_move rfl rfl) ?_
  refine at_d rfl rfl (opr_move rfl rfl) ?_
  refine at_c rfl rfl (opr_call rfl rfl rfl Tryz.func99 (by kernel_rfl) rfl (h)) ?_
  intro v M' hv
  refine at_nil ?_
  obtain rfl := hR v M' hv
  exact done_of (res0 rfl) hv (List.Sublist.refl _)
end Go.Proofs.YtjlhhcdefcofkaaGreatDoor
