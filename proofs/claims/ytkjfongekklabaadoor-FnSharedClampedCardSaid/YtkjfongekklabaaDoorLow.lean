/- Points of low order. -/
import Derived.Test.YtkjfongekklabaaDoorEl
import Derived.Test.YtkjfongekklabaaDoorMove
import Derived.Test.YtkjfongekklabaaDoorFill
namespace Go.Proofs.YtkjfongekklabaaDoor
open Go
set_option maxRecDepth 100000
theorem size77 : (Tryd.prog.info? 77).map (·.size) = some 168 := by kernel_rfl
theorem opr_xor8 {P : Program} {St : Slots} {M : Mem} {o : Oper} {x y : Operand} {T T' a b : Nat} (ho : o.op = .binOp .xor T x y T') (hx : evalS St x = some (.int .u8 (a : Int))) (hy : evalS St y = some (.int .u8 (b : Int))) (ha : a < 256) (hb : b < 256) : OpR P St M o (Det (.int .u8 ((a ^^^ b : Nat) : Int)) M) := by
  have h := opr_binOp (P := P) (M := M) (v := .int .u8 (bits .xor .u8 (a : Int) (b : Int))) ho hx hy (fun _ => rfl)
  rw [u8_xor_nat a b ha hb] at h; exact h
theorem opr_or8 {P : Program} {St : Slots} {M : Mem} {o : Oper} {x y : Operand} {T T' a b : Nat} (ho : o.op = .binOp .or T x y T') (hx : evalS St x = some (.int .u8 (a : Int))) (hy : evalS St y = some (.int .u8 (b : Int))) (ha : a < 256) (hb : b < 256) : OpR P St M o (Det (.int .u8 ((a ||| b : Nat) : Int)) M) := by
  have h := opr_binOp (P := P) (M := M) (v := .int .u8 (bits .or .u8 (a : Int) (b : Int))) ho hx hy (fun _ => rfl)
  rw [u8_or_nat a b ha hb] at h; exact h
theorem opr_orI {P : Program} {St : Slots} {M : Mem} {o : Oper} {x y : Operand} {T T' a b : Nat} (ho : o.op = .binOp .or T x y T') (hx : evalS St x = some (.int .i64 (a : Int))) (hy : evalS St y = some (.int .i64 (b : Int))) (ha : a ≤ 1) (hb : b ≤ 1) : OpR P St M o (Det (.int .i64 ((max a b : Nat) : Int)) M) := by
  have h := opr_binOp (P := P) (M := M) (v := .int .i64 (bits .or .i64 (a : Int) (b : Int))) ho hx hy (fun _ => rfl)
  have e : bits .or .i64 (a : Int) (b : Int) = ((max a b : Nat) : Int) := by
    have h1 : a = 0 ∨ a = 1 := by omega
    have h2 : b = 0 ∨ b = 1 := by omega
    rcases h1 with rfl | rfl <;> rcases h2 with rfl | rfl <;> decide
  rw [e] at h; exact h
theorem EE_byte {l : List Nat} {k a : Nat} (hk : l[k]? = some a) {i off : Nat} (hi : i < 56) (ho : 56 * k + i = off) : (EE l)[off]? = some (.int .u8 ((a / 256 ^ i % 256 : Nat) : Int)) := by
  have h := EE_at hk (rfl : 56 * k = 56 * k) (rfl : 56 = 56)
  have h1 : (((EE l).drop (56 * k)).take 56)[i]? = (EE l)[off]? := by rw [List.getElem?_take_of_lt hi, List.getElem?_drop, ho]
  rw [← h1, h, E, List.getElem?_map, digs_get 56 a i hi]
  rfl
theorem xor_zero_iff {x y : Nat} : x ^^^ y = 0 ↔ x = y := by
  constructor
  · intro h
    have := xor_back (x := x) (y := y)
    rw [h, Nat.xor_zero] at this
    exact this
  · rintro rfl; exact Nat.xor_self _
theorem or_zero_iff {x y : Nat} : x ||| y = 0 ↔ x = 0 ∧ y = 0 := by
  constructor
  · intro h
    constructor
    · apply Nat.eq_of_testBit_eq; intro i
      have := congrArg (fun n => Nat.testBit n i) h
      simp only [Nat.testBit_or, Nat.zero_testBit, Bool.or_eq_false_iff] at this ⊢
      exact this.1
    · apply Nat.eq_of_testBit_eq; intro i
      have := congrArg (fun n => Nat.testBit n i) h
      simp only [Nat.testBit_or, Nat.zero_testBit, Bool.or_eq_false_iff] at this ⊢
      exact this.2
  · rintro ⟨rfl, rfl⟩; rfl
theorem cmp_step {a b k v : Nat} (h : v = 0 ↔ a % 256 ^ k = b % 256 ^ k) : (v ||| (a / 256 ^ k % 256 ^^^ b / 256 ^ k % 256)) = 0 ↔ a % 256 ^ (k + 1) = b % 256 ^ (k + 1) := by
  rw [or_zero_iff, h, xor_zero_iff, Nat.pow_succ, Nat.mod_mul, Nat.mod_mul]
  have h0 : 0 < 256 ^ k := Nat.pow_pos (by decide)
  constructor
  · rintro ⟨h1, h2⟩; rw [h1, h2]
  · intro h1
    have l1 := Nat.mod_lt a h0
    have l2 := Nat.mod_lt b h0
    have d := congrArg (· / 256 ^ k) h1
    have m := congrArg (· % 256 ^ k) h1
    simp only [Nat.add_mul_div_left _ _ h0, Nat.add_mul_mod_self_left, Nat.div_eq_of_lt l1, Nat.div_eq_of_lt l2, Nat.zero_add, Nat.mod_mod] at d m
    exact ⟨m, d⟩
theorem cmp_lt {x y v : Nat} (hv : v < 256) (hx : x < 256) (hy : y < 256) : v ||| (x ^^^ y) < 256 := Nat.or_lt_two_pow (n := 8) hv (Nat.xor_lt_two_pow (n := 8) hx hy)
theorem cmp_end {a b v : Nat} (ha : a < RR) (hb : b < RR) (h : v = 0 ↔ a % 256 ^ 56 = b % 256 ^ 56) : v = 0 ↔ a = b := by
  have h56 : (256 : Nat) ^ 56 = RR := by decide +kernel
  rw [h56, Nat.mod_eq_of_lt ha, Nat.mod_eq_of_lt hb] at h
  exact h
/-- 1 where two numbers are one. -/
def eqn (a b : Nat) : Nat := if a = b then 1 else 0
theorem eqn_le (a b : Nat) : eqn a b ≤ 1 := by unfold eqn; split <;> omega
/-- No point of low order. -/
def lowOk (a : Nat) : Bool := !(decide (a % pp = 0) || decide (a % pp = 1) || decide (a % pp = 726838724295606890549323807888004534353641360687318060281490199180612328166730772686396383698676545930088884461843637361053498018365438))
theorem max_le1 {a b : Nat} (ha : a ≤ 1) (hb : b ≤ 1) : max a b ≤ 1 := by omega
def lowL : List Nat := [0, 1, 726838724295606890549323807888004534353641360687318060281490199180612328166730772686396383698676545930088884461843637361053498018365438]
theorem low_step {a k c : Nat} (hk : k < 3) (hc : c ≤ 1) (h : c = 0 ↔ ∀ j, j < k → lowL.getD j 0 ≠ a) : max c (eqn (lowL.getD k 0) a) = 0 ↔ ∀ j, j < k + 1 → lowL.getD j 0 ≠ a := by
  have e : eqn (lowL.getD k 0) a = 0 ↔ lowL.getD k 0 ≠ a := by
    unfold eqn
    split <;> simp_all
  constructor
  · intro h1 j hj
    have h2 : c = 0 := by omega
    have h3 : eqn (lowL.getD k 0) a = 0 := by omega
    by_cases hjk : j = k
    · subst hjk; exact e.1 h3
    · exact h.1 h2 j (by omega)
  · intro h1
    have h2 := h.2 fun j hj => h1 j (by omega)
    have h3 := e.2 (h1 k (by omega))
    omega
theorem low_end {a c : Nat} (h : c = 0 ↔ ∀ j, j < 3 → lowL.getD j 0 ≠ a % pp) : decide (c = 0) = lowOk a := by
  rw [Bool.eq_iff_iff, decide_eq_true_eq, h, lowOk, Bool.not_eq_true', Bool.or_eq_false_iff, Bool.or_eq_false_iff]
  simp only [decide_eq_false_iff_not]
  constructor
  · intro h1
    exact ⟨⟨fun e => h1 0 (by decide) e.symm, fun e => h1 1 (by decide) e.symm⟩, fun e => h1 2 (by decide) e.symm⟩
  · rintro ⟨⟨h1, h2⟩, h3⟩ j hj
    have : j = 0 ∨ j = 1 ∨ j = 2 := by omega
    rcases this with rfl | rfl | rfl
    · exact fun e => h1 e.symm
    · exact fun e => h2 e.symm
    · exact fun e => h3 e.symm
theorem lowL_lt : ∀ x ∈ lowL, x < RR := by
  intro x hx
  simp only [lowL, List.mem_cons, List.not_mem_nil, or_false] at hx
  rcases hx with rfl | rfl | rfl <;> decide
theorem low0 {a : Nat} (h : a % pp = 0) : lowOk a = false := by simp [lowOk, h]
theorem low1 {a : Nat} (h : a % pp = 1) : lowOk a = false := by simp [lowOk, h]
theorem neg1 : negp 1 = 726838724295606890549323807888004534353641360687318060281490199180612328166730772686396383698676545930088884461843637361053498018365438 := by decide +kernel
theorem low2 {a : Nat} (h : a % pp = negp 1) : lowOk a = false := by rw [neg1] at h; simp [lowOk, h]
theorem low3 {a : Nat} (h0 : ¬ a % pp = 0) (h1 : ¬ a % pp = 1) (h2 : ¬ a % pp = negp 1) : lowOk a = true := by rw [neg1] at h2; simp [lowOk, h0, h1, h2]
theorem lowOk_mod (a : Nat) : lowOk (a % pp) = lowOk a := by simp only [lowOk, Nat.mod_mod]
theorem opr_eqlNt' {P : Program} {St : Slots} {M : Mem} {o : Oper} {x y : Operand} {T T' B a b : Nat} {t : Bool} (ho : o.op = .binOp .eql T x y T') (hx : evalS St x = some (.agg (N a).toArray)) (hy : evalS St y = some (.agg (N b).toArray)) (hu : P.underlying T = some (.array 28 B)) (he : P.underlying B = some (.int .u64)) (hs : (P.info? B).map (·.size) = some 1)
    (hq : P.eqGuardType P.depth T = false) (ha : a < RR) (hb : b < RR) (ht : decide (a = b) = t) : OpR P St M o (Det (.bool t) M) := ht ▸ opr_eqlN ho hx hy hu he hs hq ha hb
theorem opr_pickF' {P : Program} {St : Slots} {M : Mem} {o : Oper} {c x y : Operand} {u : Value} (ho : o.op = .pick c x y) (hc : evalS St c = some (.bool false)) (hy : evalS St y = some u) : OpR P St M o (Det u M) :=
  opr_value fun ρ w0 S w hρ hw => by
    simp only [execOp, ho, hρ _ _ hc, hρ _ _ hy, asBool, Sem.run_bind, Sem.run_pure, Result.andThen_ok]
    rfl
theorem opr_b2u {St : Slots} {M : Mem} {o : Oper} {xs : List Operand} {ts : Array TypeId} {fo : Operand} {b : Bool} (ho : o.op = .call { callee := .value fo, args := xs.toArray, argTypes := ts })
    (hfo : evalS St fo = some (.func (.func 91) #[] #[])) (hxs : evalL St xs = some [.bool b]) : OpR Tryd.prog St M o (Det (.int .u8 (if b then 1 else 0)) M) :=
  opr_extern (P := Tryd.prog) (M := M) ho hfo hxs fun w => by
    rw [run_callFunc_extern Tryd.func91 (by kernel_rfl) (by kernel_rfl) (by kernel_rfl) (e := fun a => match a with | #[.bool b] => pure (.int .u8 (if b then 1 else 0)) | _ => stuck "boolToUint8: a bool expected") (by kernel_rfl)]
    rfl
theorem byteEq0_ct {M : Mem} {v : Nat} (hv : v = 0) : Ct Tryd.prog 86 #[.int .u8 (v : Int), .int .u8 0] M (Det (.int .i64 1) M) := by
  refine ct_of (vs := [.int .u8 (v : Int), .int .u8 0]) Tryd.func86 rfl Tryd.ntmps86 rfl fun w0 => ?_
  refine at_seq ?_
  refine at_region ?_
  refine at_d rfl rfl (opr_assign rfl rfl) ?_
  refine at_nil ?_
  refine at_then ?_
  refine at_seq ?_
  refine at_region ?_
  refine at_d rfl rfl (opr_move rfl rfl) ?_
  refine at_d rfl rfl (opr_move rfl rfl) ?_
  refine at_d rfl rfl (opr_eq (opr_eql (a := v) (b := 0) rfl rfl rfl) (congrArg Value.bool (decide_eq_true hv))) ?_
  refine at_d rfl rfl (opr_b2u (b := true) rfl rfl rfl) ?_
  refine at_d rfl rfl (opr_eq (v' := .int .i64 1) (opr_convert rfl rfl Tryd.underlying5 Tryd.underlying3) rfl) ?_
  refine at_d rfl rfl (opr_assign rfl rfl) ?_
  refine at_nil ?_
  refine at_then ?_
  refine at_ret ?_
  refine done_of (res1 Tryd.results86 (res_tmp rfl)) ⟨rfl, rfl⟩ (by repeat (first | exact List.Sublist.refl _ | apply List.Sublist.cons))
theorem byteEq1_ct {M : Mem} {v : Nat} (hv : ¬ v = 0) : Ct Tryd.prog 86 #[.int .u8 (v : Int), .int .u8 0] M (Det (.int .i64 0) M) := by
  refine ct_of (vs := [.int .u8 (v : Int), .int .u8 0]) Tryd.func86 rfl Tryd.ntmps86 rfl fun w0 => ?_
  refine at_seq ?_
  refine at_region ?_
  refine at_d rfl rfl (opr_assign rfl rfl) ?_
  refine at_nil ?_
  refine at_then ?_
  refine at_seq ?_
  refine at_region ?_
  refine at_d rfl rfl (opr_move rfl rfl) ?_
  refine at_d rfl rfl (opr_move rfl rfl) ?_
  refine at_d rfl rfl (opr_eq (opr_eql (a := v) (b := 0) rfl rfl rfl) (congrArg Value.bool (decide_eq_false hv))) ?_
  refine at_d rfl rfl (opr_b2u (b := false) rfl rfl rfl) ?_
  refine at_d rfl rfl (opr_eq (v' := .int .i64 0) (opr_convert rfl rfl Tryd.underlying5 Tryd.underlying3) rfl) ?_
  refine at_d rfl rfl (opr_assign rfl rfl) ?_
  refine at_nil ?_
  refine at_then ?_
  refine at_ret ?_
  refine done_of (res1 Tryd.results86 (res_tmp rfl)) ⟨rfl, rfl⟩ (by repeat (first | exact List.Sublist.refl _ | apply List.Sublist.cons))
theorem ctcT_ct {M : Mem} {ix iy gx gy Tx Ty kx ky ox oy cx cy a b : Nat} {lx ly : List Nat} (hx : M[ix]? = some ⟨gx, Tx, EE lx⟩) (hkx : lx[kx]? = some a) (hox : 56 * kx = ox) (hy : M[iy]? = some ⟨gy, Ty, EE ly⟩) (hky : ly[ky]? = some b) (hoy : 56 * ky = oy) (ha : a < RR) (hb : b < RR) (hq : a = b) : Ct Tryd.prog 78 #[.slice (some ⟨gx, ox, none⟩) 56 cx, .slice (some ⟨gy, oy, none⟩) 56 cy] M (Det (.int .i64 1) M) := by
  refine ct_of (vs := [.slice (some ⟨gx, ox, none⟩) 56 cx, .slice (some ⟨gy, oy, none⟩) 56 cy]) Tryd.func78 rfl Tryd.ntmps78 rfl fun w0 => ?_
  refine at_seq ?_
  refine at_region ?_
  refine at_d rfl rfl (opr_assign rfl rfl) ?_
  refine at_nil ?_
  refine at_then ?_
  refine at_seq ?_
  refine at_seq ?_
  refine at_region ?_
  refine at_d rfl rfl (opr_move rfl rfl) ?_
  refine at_d rfl rfl (opr_lenS rfl rfl Tryd.underlying79) ?_
  refine at_d rfl rfl (opr_move rfl rfl) ?_
  refine at_d rfl rfl (opr_lenS rfl rfl Tryd.underlying79) ?_
  refine at_d rfl rfl (opr_binOp (v := .bool false) rfl rfl rfl (fun _ => rfl)) ?_
  refine at_nil ?_
  refine at_then ?_
  refine at_cond_false rfl ?_
  refine at_skip ?_
  refine at_then ?_
  refine at_seq ?_
  refine at_region ?_
  refine at_d rfl rfl (opr_assign rfl rfl) ?_
  refine at_nil ?_
  refine at_then ?_
  refine at_seq ?_
  refine at_seq ?_
  refine at_region ?_
  refine at_d rfl rfl (opr_assign rfl rfl) ?_
  refine at_nil ?_
  refine at_then ?_
  refine at_block ?_
  refine at_loop2 (fun (x : Nat) (y : Nat) => [(0, .slice (some ⟨gx, ox, none⟩) 56 cx), (1, .slice (some ⟨gy, oy, none⟩) 56 cy), (5, .int .u8 (y : Int)), (6, .int .i64 (x : Int))]) (fun (x : Nat) (y : Nat) => M) (fun (x : Nat) (y : Nat) => 56 - x) (fun (x : Nat) (y : Nat) => x ≤ 56 ∧ y < 256 ∧ (y = 0 ↔ a % 256 ^ x = b % 256 ^ x)) 0 0 ⟨Nat.zero_le _, by decide, by simp only [Nat.pow_zero, Nat.mod_one]⟩ (allIn ⟨rfl, rfl, rfl, rfl, trivial⟩) (List.Sublist.refl _) ?_
  rintro k v ⟨hk, hv, hI⟩
  dsimp only
  refine at_seq ?_
  refine at_seq ?_
  refine at_region ?_
  refine at_d rfl rfl (opr_move rfl rfl) ?_
  refine at_d rfl rfl (opr_move rfl rfl) ?_
  refine at_d rfl rfl (opr_lenS rfl rfl Tryd.underlying79) ?_
  refine at_d rfl rfl (opr_lss (a := k) (b := 56) rfl rfl rfl) ?_
  refine at_nil ?_
  refine at_then ?_
  refine at_cond rfl (fun ht => ?_) (fun ht => ?_)
  ·
    have hlt : k < 56 := of_decide_eq_true ht
    refine at_skip ?_
    refine at_then ?_
    refine at_seq ?_
    refine at_block ?_
    refine at_drawQ (by kernel_rfl) (by kernel_rfl) (List.cons_ne_nil _ _) ?_
    refine dr_op rfl rfl (opr_move rfl rfl) ?_
    refine dr_op rfl rfl (opr_move rfl rfl) ?_
    refine dr_op rfl rfl (opr_move rfl rfl) ?_
    refine dr_op rfl rfl (opr_indexAddrS (j := k) (off' := ox + k) rfl rfl rfl Tryd.underlying79 hlt size5 (by rw [Nat.mul_one])) ?_
    refine dr_op rfl rfl (opr_load1 (i := ix) rfl rfl hx Tryd.underlying5 rfl (EE_byte hkx hlt (by rw [hox]))) ?_
    refine dr_op rfl rfl (opr_move rfl rfl) ?_
    refine dr_op rfl rfl (opr_move rfl rfl) ?_
    refine dr_op rfl rfl (opr_indexAddrS (j := k) (off' := oy + k) rfl rfl rfl Tryd.underlying79 hlt size5 (by rw [Nat.mul_one])) ?_
    refine dr_op rfl rfl (opr_load1 (i := iy) rfl rfl hy Tryd.underlying5 rfl (EE_byte hky hlt (by rw [hoy]))) ?_
    refine dr_op rfl rfl (opr_xor8 rfl rfl rfl (Nat.mod_lt _ (by decide)) (Nat.mod_lt _ (by decide))) ?_
    refine dr_op rfl rfl (opr_or8 rfl rfl rfl hv (Nat.xor_lt_two_pow (n := 8) (Nat.mod_lt _ (by decide)) (Nat.mod_lt _ (by decide)))) ?_
    refine dr_last rfl rfl (opr_assign rfl rfl) ?_
    refine ⟨rfl, ?_⟩
    refine at_inBlock_normal ?_
    refine at_then ?_
    refine at_region ?_
    refine at_d rfl rfl (opr_move rfl rfl) ?_
    refine at_d rfl rfl (opr_addI (a := k) (b := 1) rfl rfl rfl (by omega)) ?_
    refine at_d rfl rfl (opr_assign rfl rfl) ?_
    refine at_nil ?_
    exact at_round2 (k + 1) (v ||| (a / 256 ^ k % 256 ^^^ b / 256 ^ k % 256)) ⟨by omega, cmp_lt hv (Nat.mod_lt _ (by decide)) (Nat.mod_lt _ (by decide)), cmp_step hI⟩ (by omega) (allIn ⟨rfl, rfl, rfl, rfl, trivial⟩) (List.Sublist.refl _)
  ·
    obtain rfl : k = 56 := by have := of_decide_eq_false ht; omega
    have hE := cmp_end ha hb hI
    refine at_exit ?_
    refine at_then_exit ?_
    refine at_then_exit ?_
    refine at_inBlock_same ?_
    refine at_then ?_
    refine at_seq ?_
    refine at_region ?_
    refine at_d rfl rfl (opr_move rfl rfl) ?_
    refine at_d rfl rfl (opr_call rfl rfl rfl Tryd.func86 (by kernel_rfl) rfl (byteEq0_ct (hE.2 hq))) ?_
    refine at_d rfl rfl (opr_assign rfl rfl) ?_
    refine at_nil ?_
    refine at_then ?_
    refine at_ret ?_
    refine done_of (res1 Tryd.results78 (res_tmp rfl)) ⟨rfl, rfl⟩ (by repeat (first | exact List.Sublist.refl _ | apply List.Sublist.cons))
theorem ctcF_ct {M : Mem} {ix iy gx gy Tx Ty kx ky ox oy cx cy a b : Nat} {lx ly : List Nat} (hx : M[ix]? = some ⟨gx, Tx, EE lx⟩) (hkx : lx[kx]? = some a) (hox : 56 * kx = ox) (hy : M[iy]? = some ⟨gy, Ty, EE ly⟩) (hky : ly[ky]? = some b) (hoy : 56 * ky = oy) (ha : a < RR) (hb : b < RR) (hq : ¬ a = b) : Ct Tryd.prog 78 #[.slice (some ⟨gx, ox, none⟩) 56 cx, .slice (some ⟨gy, oy, none⟩) 56 cy] M (Det (.int .i64 0) M) := by
  refine ct_of (vs := [.slice (some ⟨gx, ox, none⟩) 56 cx, .slice (some ⟨gy, oy, none⟩) 56 cy]) Tryd.func78 rfl Tryd.ntmps78 rfl fun w0 => ?_
  refine at_seq ?_
  refine at_region ?_
  refine at_d rfl rfl (opr_assign rfl rfl) ?_
  refine at_nil ?_
  refine at_then ?_
  refine at_seq ?_
  refine at_seq ?_
  refine at_region ?_
  refine at_d rfl rfl (opr_move rfl rfl) ?_
  refine at_d rfl rfl (opr_lenS rfl rfl Tryd.underlying79) ?_
  refine at_d rfl rfl (opr_move rfl rfl) ?_
  refine at_d rfl rfl (opr_lenS rfl rfl Tryd.underlying79) ?_
  refine at_d rfl rfl (opr_binOp (v := .bool false) rfl rfl rfl (fun _ => rfl)) ?_
  refine at_nil ?_
  refine at_then ?_
  refine at_cond_false rfl ?_
  refine at_skip ?_
  refine at_then ?_
  refine at_seq ?_
  refine at_region ?_
  refine at_d rfl rfl (opr_assign rfl rfl) ?_
  refine at_nil ?_
  refine at_then ?_
  refine at_seq ?_
  refine at_seq ?_
  refine at_region ?_
  refine at_d rfl rfl (opr_assign rfl rfl) ?_
  refine at_nil ?_
  refine at_then ?_
  refine at_block ?_
  refine at_loop2 (fun (x : Nat) (y : Nat) => [(0, .slice (some ⟨gx, ox, none⟩) 56 cx), (1, .slice (some ⟨gy, oy, none⟩) 56 cy), (5, .int .u8 (y : Int)), (6, .int .i64 (x : Int))]) (fun (x : Nat) (y : Nat) => M) (fun (x : Nat) (y : Nat) => 56 - x) (fun (x : Nat) (y : Nat) => x ≤ 56 ∧ y < 256 ∧ (y = 0 ↔ a % 256 ^ x = b % 256 ^ x)) 0 0 ⟨Nat.zero_le _, by decide, by simp only [Nat.pow_zero, Nat.mod_one]⟩ (allIn ⟨rfl, rfl, rfl, rfl, trivial⟩) (List.Sublist.refl _) ?_
  rintro k v ⟨hk, hv, hI⟩
  dsimp only
  refine at_seq ?_
  refine at_seq ?_
  refine at_region ?_
  refine at_d rfl rfl (opr_move rfl rfl) ?_
  refine at_d rfl rfl (opr_move rfl rfl) ?_
  refine at_d rfl rfl (opr_lenS rfl rfl Tryd.underlying79) ?_
  refine at_d rfl rfl (opr_lss (a := k) (b := 56) rfl rfl rfl) ?_
  refine at_nil ?_
  refine at_then ?_
  refine at_cond rfl (fun ht => ?_) (fun ht => ?_)
  ·
    have hlt : k < 56 := of_decide_eq_true ht
    refine at_skip ?_
    refine at_then ?_
    refine at_seq ?_
    refine at_block ?_
    refine at_drawQ (by kernel_rfl) (by kernel_rfl) (List.cons_ne_nil _ _) ?_
    refine dr_op rfl rfl (opr_move rfl rfl) ?_
    refine dr_op rfl rfl (opr_move rfl rfl) ?_
    refine dr_op rfl rfl (opr_move rfl rfl) ?_
    refine dr_op rfl rfl (opr_indexAddrS (j := k) (off' := ox + k) rfl rfl rfl Tryd.underlying79 hlt size5 (by rw [Nat.mul_one])) ?_
    refine dr_op rfl rfl (opr_load1 (i := ix) rfl rfl hx Tryd.underlying5 rfl (EE_byte hkx hlt (by rw [hox]))) ?_
    refine dr_op rfl rfl (opr_move rfl rfl) ?_
    refine dr_op rfl rfl (opr_move rfl rfl) ?_
    refine dr_op rfl rfl (opr_indexAddrS (j := k) (off' := oy + k) rfl rfl rfl Tryd.underlying79 hlt size5 (by rw [Nat.mul_one])) ?_
    refine dr_op rfl rfl (opr_load1 (i := iy) rfl rfl hy Tryd.underlying5 rfl (EE_byte hky hlt (by rw [hoy]))) ?_
    refine dr_op rfl rfl (opr_xor8 rfl rfl rfl (Nat.mod_lt _ (by decide)) (Nat.mod_lt _ (by decide))) ?_
    refine dr_op rfl rfl (opr_or8 rfl rfl rfl hv (Nat.xor_lt_two_pow (n := 8) (Nat.mod_lt _ (by decide)) (Nat.mod_lt _ (by decide)))) ?_
    refine dr_last rfl rfl (opr_assign rfl rfl) ?_
    refine ⟨rfl, ?_⟩
    refine at_inBlock_normal ?_
    refine at_then ?_
    refine at_region ?_
    refine at_d rfl rfl (opr_move rfl rfl) ?_
    refine at_d rfl rfl (opr_addI (a := k) (b := 1) rfl rfl rfl (by omega)) ?_
    refine at_d rfl rfl (opr_assign rfl rfl) ?_
    refine at_nil ?_
    exact at_round2 (k + 1) (v ||| (a / 256 ^ k % 256 ^^^ b / 256 ^ k % 256)) ⟨by omega, cmp_lt hv (Nat.mod_lt _ (by decide)) (Nat.mod_lt _ (by decide)), cmp_step hI⟩ (by omega) (allIn ⟨rfl, rfl, rfl, rfl, trivial⟩) (List.Sublist.refl _)
  ·
    obtain rfl : k = 56 := by have := of_decide_eq_false ht; omega
    have hE := cmp_end ha hb hI
    refine at_exit ?_
    refine at_then_exit ?_
    refine at_then_exit ?_
    refine at_inBlock_same ?_
    refine at_then ?_
    refine at_seq ?_
    refine at_region ?_
    refine at_d rfl rfl (opr_move rfl rfl) ?_
    refine at_d rfl rfl (opr_call rfl rfl rfl Tryd.func86 (by kernel_rfl) rfl (byteEq1_ct (fun h => hq (hE.1 h)))) ?_
    refine at_d rfl rfl (opr_assign rfl rfl) ?_
    refine at_nil ?_
    refine at_then ?_
    refine at_ret ?_
    refine done_of (res1 Tryd.results78 (res_tmp rfl)) ⟨rfl, rfl⟩ (by repeat (first | exact List.Sublist.refl _ | apply List.Sublist.cons))
theorem ctc_ct {M : Mem} {ix iy gx gy Tx Ty kx ky ox oy cx cy a b : Nat} {lx ly : List Nat} (hx : M[ix]? = some ⟨gx, Tx, EE lx⟩) (hkx : lx[kx]? = some a) (hox : 56 * kx = ox) (hy : M[iy]? = some ⟨gy, Ty, EE ly⟩) (hky : ly[ky]? = some b) (hoy : 56 * ky = oy) (ha : a < RR) (hb : b < RR) : Ct Tryd.prog 78 #[.slice (some ⟨gx, ox, none⟩) 56 cx, .slice (some ⟨gy, oy, none⟩) 56 cy] M (Det (.int .i64 ((eqn a b : Nat) : Int)) M) := by
  by_cases h : a = b
  · have e : eqn a b = 1 := if_pos h
    rw [e]; exact ctcT_ct hx hkx hox hy hky hoy ha hb h
  · have e : eqn a b = 0 := if_neg h
    rw [e]; exact ctcF_ct hx hkx hox hy hky hoy ha hb h
theorem cmp_ct {M : Mem} {ix iy gx gy Tx Ty kx ky ox oy cx cy a b : Nat} {lx ly : List Nat} (hx : M[ix]? = some ⟨gx, Tx, EE lx⟩) (hkx : lx[kx]? = some a) (hox : 56 * kx = ox) (hy : M[iy]? = some ⟨gy, Ty, EE ly⟩) (hky : ly[ky]? = some b) (hoy : 56 * ky = oy) (ha : a < RR) (hb : b < RR) : Ct Tryd.prog 67 #[.slice (some ⟨gx, ox, none⟩) 56 cx, .slice (some ⟨gy, oy, none⟩) 56 cy] M (Det (.int .i64 ((eqn a b : Nat) : Int)) M) := by
  refine ct_of (vs := [.slice (some ⟨gx, ox, none⟩) 56 cx, .slice (some ⟨gy, oy, none⟩) 56 cy]) Tryd.func67 rfl Tryd.ntmps67 rfl fun w0 => ?_
  refine at_seq ?_
  refine at_region ?_
  refine at_d rfl rfl (opr_assign rfl rfl) ?_
  refine at_nil ?_
  refine at_then ?_
  refine at_seq ?_
  refine at_region ?_
  refine at_d rfl rfl (opr_move rfl rfl) ?_
  refine at_d rfl rfl (opr_move rfl rfl) ?_
  refine at_d rfl rfl (opr_call rfl rfl rfl Tryd.func78 (by kernel_rfl) rfl (ctc_ct hx hkx hox hy hky hoy ha hb)) ?_
  refine at_d rfl rfl (opr_assign rfl rfl) ?_
  refine at_nil ?_
  refine at_then ?_
  refine at_ret ?_
  refine done_of (res1 Tryd.results67 (res_tmp rfl)) ⟨rfl, rfl⟩ (by repeat (first | exact List.Sublist.refl _ | apply List.Sublist.cons))
theorem isValid_ct {M : Mem} {ig Tp : Nat} (hG : M[ig]? = some ⟨0, Tp, EE [pp]⟩) {il Tl : Nat} (hL : M[il]? = some ⟨1, Tl, EE lowL⟩) {iz gz Tz a : Nat} (hz : M[iz]? = some ⟨gz, Tz, EE [a]⟩) (hne : iz ≠ ig) (hne2 : iz ≠ il) (ha : a < RR) : Ct Tryd.prog 57 #[.pointer (some ⟨gz, 0, none⟩)] M (Det (.bool (lowOk a)) (M.set iz ⟨gz, Tz, EE [a % pp]⟩)) := by
  refine ct_of (vs := [.pointer (some ⟨gz, 0, none⟩)]) Tryd.func57 rfl Tryd.ntmps57 rfl fun w0 => ?_
  refine at_seq ?_
  refine at_region ?_
  refine at_d rfl rfl (opr_assign rfl rfl) ?_
  refine at_nil ?_
  refine at_then ?_
  refine at_seq ?_
  refine at_region ?_
  refine at_d rfl rfl (opr_move rfl rfl) ?_
  refine at_d rfl rfl (opr_call rfl rfl rfl Tryd.func54 (by kernel_rfl) rfl (modp_ct (ig := ig) (iz := iz) (kz := 0) hG hz rfl rfl ha)) ?_
  have hb1 : (M.set iz ⟨gz, Tz, EE [(a % pp)]⟩)[iz]? = some ⟨gz, Tz, EE [(a % pp)]⟩ := get_set hz
  have hb1_0 : (M.set iz ⟨gz, Tz, EE [(a % pp)]⟩)[ig]? = some ⟨0, Tp, EE [pp]⟩ := get_set_ne hG hne
  have hb1_1 : (M.set iz ⟨gz, Tz, EE [(a % pp)]⟩)[il]? = some ⟨1, Tl, EE lowL⟩ := get_set_ne hL hne2
  refine at_mem (M2 := (M.set iz ⟨gz, Tz, EE [(a % pp)]⟩)) (by simp) ?_
  refine at_nil ?_
  refine at_then ?_
  refine at_seq ?_
  refine at_region ?_
  refine at_d rfl rfl (opr_assign rfl rfl) ?_
  refine at_nil ?_
  refine at_then ?_
  refine at_seq ?_
  refine at_seq ?_
  refine at_region ?_
  refine at_d rfl rfl (opr_load (i := il) rfl rfl hb1_1 Tryd.underlying77 rfl size77 (EE_length _) (EE_all rfl)) ?_
  refine at_d rfl rfl (opr_move rfl rfl) ?_
  refine at_nil ?_
  refine at_then ?_
  refine at_block ?_
  refine at_loop2 (fun (x : Nat) (y : Nat) => [(0, .pointer (some ⟨gz, 0, none⟩)), (3, .int .i64 (y : Int)), (8, .agg (EE lowL).toArray), (9, .int .i64 (x : Int))]) (fun (x : Nat) (y : Nat) => (M.set iz ⟨gz, Tz, EE [(a % pp)]⟩)) (fun (x : Nat) (y : Nat) => 3 - x) (fun (x : Nat) (y : Nat) => x ≤ 3 ∧ y ≤ 1 ∧ (y = 0 ↔ ∀ j, j < x → lowL.getD j 0 ≠ a % pp)) 0 0 ⟨Nat.zero_le _, Nat.zero_le _, ⟨fun _ j hj => absurd hj (Nat.not_lt_zero _), fun _ => rfl⟩⟩ (allIn ⟨rfl, rfl, rfl, rfl, trivial⟩) (List.Sublist.refl _) ?_
  rintro k c ⟨hk, hc, hI⟩
  dsimp only
  refine at_seq ?_
  refine at_region ?_
  refine at_d rfl rfl (opr_lss (a := k) (b := 3) rfl rfl rfl) ?_
  refine at_nil ?_
  refine at_then ?_
  refine at_seq ?_
  refine at_cond rfl (fun ht => ?_) (fun ht => ?_)
  ·
    have hlt : k < 3 := of_decide_eq_true ht
    refine at_skip ?_
    refine at_then ?_
    refine at_seq ?_
    refine at_block ?_
    refine at_seq ?_
    refine at_region ?_
    refine at_d rfl rfl (opr_index (j := k) rfl rfl rfl Tryd.underlying77 hlt size47 Tryd.underlying47 rfl (EE_at (k := k) (getD_some (show k < List.length lowL from hlt)) (Nat.mul_comm _ _) rfl)) ?_
    refine at_n rfl rfl (opr_alloc rfl zero47 rfl) ?_
    intro g0
    refine at_d rfl rfl (opr_store (i := 0) rfl rfl rfl rfl rfl size47 (E_length _) (by rw [EE_length]; exact Nat.le_of_ble_eq_true rfl) (E_flat _) (EE_set (k := 0) (Nat.le_of_ble_eq_true rfl) rfl)) ?_
    refine at_nil ?_
    refine at_then ?_
    refine at_drawQ (by kernel_rfl) (by kernel_rfl) (List.cons_ne_nil _ _) ?_
    refine dr_op rfl rfl (opr_move rfl rfl) ?_
    refine dr_op rfl rfl (opr_sliceAll rfl rfl Tryd.underlying47 rfl size5) ?_
    refine dr_op rfl rfl (opr_move rfl rfl) ?_
    refine dr_op rfl rfl (opr_nilCheck rfl rfl) ?_
    refine dr_op rfl rfl (opr_sliceAll rfl rfl Tryd.underlying54 rfl size5) ?_
    refine dr_op rfl rfl (opr_call rfl rfl rfl Tryd.func67 (by kernel_rfl) rfl (cmp_ct (ix := 0) (iy := iz + 1) (kx := 0) (ky := 0) rfl rfl rfl hb1 rfl rfl (getD_lt RR_zero lowL_lt k) (modp_lt _))) ?_
    refine dr_op rfl rfl (opr_orI rfl rfl rfl hc (eqn_le _ _)) ?_
    refine dr_last rfl rfl (opr_assign rfl rfl) ?_
    refine ⟨rfl, ?_⟩
    refine at_inBlock_normal ?_
    refine at_then ?_
    refine at_region ?_
    refine at_d rfl rfl (opr_addI (a := k) (b := 1) rfl rfl rfl (by omega)) ?_
    refine at_d rfl rfl (opr_move rfl rfl) ?_
    refine at_nil ?_
    exact at_round2 (k + 1) (max c (eqn (lowL.getD k 0) (a % pp))) ⟨by omega, max_le1 hc (eqn_le _ _), low_step hlt hc hI⟩ (by omega) (allIn ⟨rfl, rfl, rfl, rfl, trivial⟩) (by repeat (first | exact List.Sublist.refl _ | apply List.Sublist.cons))
  ·
    obtain rfl : k = 3 := by have := of_decide_eq_false ht; omega
    refine at_exit ?_
    refine at_then_exit ?_
    refine at_then_exit ?_
    refine at_inBlock_same ?_
    refine at_then ?_
    refine at_seq ?_
    refine at_region ?_
    refine at_d rfl rfl (opr_move rfl rfl) ?_
    refine at_d rfl rfl (opr_eq (opr_eql (a := c) (b := 0) rfl rfl rfl) (congrArg Value.bool (low_end hI))) ?_
    refine at_d rfl rfl (opr_assign rfl rfl) ?_
    refine at_nil ?_
    refine at_then ?_
    refine at_ret ?_
    exact done_of (res1 Tryd.results57 (res_tmp rfl)) ⟨rfl, rfl⟩ (by repeat (first | exact List.Sublist.refl _ | apply List.Sublist.cons))
theorem zzValid_ct {M : Mem} {ig Tp : Nat} (hG : M[ig]? = some ⟨0, Tp, EE [pp]⟩) {il Tl : Nat} (hL : M[il]? = some ⟨1, Tl, EE lowL⟩) {a : Nat} (ha : a < RR) : Ct Tryd.prog 36 #[.agg (E a).toArray] M (Det (.bool (lowOk a)) M) := by
  refine ct_of (vs := [.agg (E a).toArray]) Tryd.func36 rfl Tryd.ntmps36 rfl fun w0 => ?_
  refine at_seq ?_
  refine at_region ?_
  refine at_n rfl rfl (opr_box (cs := EE [a]) rfl rfl (E_box _)) ?_
  intro g0
  refine at_d rfl rfl (opr_assign rfl rfl) ?_
  refine at_nil ?_
  refine at_then ?_
  refine at_seq ?_
  refine at_region ?_
  refine at_d rfl rfl (opr_call rfl rfl rfl Tryd.func57 (by kernel_rfl) rfl (isValid_ct (ig := ig + 1) (il := il + 1) (iz := 0) hG hL rfl (by omega) (by omega) ha)) ?_
  refine at_d rfl rfl (opr_assign rfl rfl) ?_
  refine at_nil ?_
  refine at_then ?_
  refine at_ret ?_
  refine done_of (res1 Tryd.results36 (res_tmp rfl)) ⟨rfl, rfl⟩ (by repeat (first | exact List.Sublist.refl _ | apply List.Sublist.cons))
theorem iValid_ct {M : Mem} {ig Tp : Nat} (hG : M[ig]? = some ⟨0, Tp, EE [pp]⟩) {il Tl : Nat} (hL : M[il]? = some ⟨1, Tl, EE lowL⟩) {a : Nat} (ha : a < RR) : Ct Tryd.prog 18 #[.agg (E a).toArray] M (Det (.bool (lowOk a)) M) := by
  refine ct_of (vs := [.agg (E a).toArray]) Tryd.func18 rfl Tryd.ntmps18 rfl fun w0 => ?_
  refine at_seq ?_
  refine at_region ?_
  refine at_n rfl rfl (opr_box (cs := EE [a]) rfl rfl (E_box _)) ?_
  intro g0
  refine at_d rfl rfl (opr_assign rfl rfl) ?_
  refine at_nil ?_
  refine at_then ?_
  refine at_seq ?_
  refine at_region ?_
  refine at_d rfl rfl (opr_load (i := 0) rfl rfl rfl Tryd.underlying22 rfl size22 (E_length _) (EE_at (k := 0) rfl rfl rfl)) ?_
  refine at_d rfl rfl (opr_call rfl rfl rfl Tryd.func36 (by kernel_rfl) rfl (zzValid_ct (ig := ig + 1) (il := il + 1) hG hL ha)) ?_
  refine at_d rfl rfl (opr_assign rfl rfl) ?_
  refine at_nil ?_
  refine at_then ?_
  refine at_ret ?_
  refine done_of (res1 Tryd.results18 (res_tmp rfl)) ⟨rfl, rfl⟩ (by repeat (first | exact List.Sublist.refl _ | apply List.Sublist.cons))
theorem iValidT_ct {M : Mem} {ig Tp : Nat} (hG : M[ig]? = some ⟨0, Tp, EE [pp]⟩) {il Tl : Nat} (hL : M[il]? = some ⟨1, Tl, EE lowL⟩) {a : Nat} (ha : a < RR) {t : Bool} (ht : lowOk a = t) : Ct Tryd.prog 18 #[.agg (E a).toArray] M (Det (.bool t) M) := ht ▸ iValid_ct hG hL ha
theorem built_nz' : Tryd.prog.built 25 [] = some (List.replicate 28 (Value.int .u64 0)).toArray := by kernel_rfl
theorem N_zero' : List.replicate 28 (Value.int .u64 0) = N 0 := rfl
theorem isLow0_ct {M : Mem} {a : Nat} (ha : a < RR) (h0 : a % pp = 0) : Ct Tryd.prog 19 #[.agg (N a).toArray] M (Det (.bool true) M) := by
  refine ct_of (vs := [.agg (N a).toArray]) Tryd.func19 rfl Tryd.ntmps19 rfl fun w0 => ?_
  refine at_seq ?_
  refine at_region ?_
  refine at_n rfl rfl (opr_box rfl rfl rfl) ?_
  intro g0
  refine at_d rfl rfl (opr_assign rfl rfl) ?_
  refine at_nil ?_
  refine at_then ?_
  refine at_seq ?_
  refine at_region ?_
  refine at_d rfl rfl (opr_load (i := 0) rfl rfl rfl Tryd.underlying25 rfl size25 (N_length _) (N_at _)) ?_
  refine at_d rfl rfl (opr_call rfl rfl rfl Tryd.func10 (by kernel_rfl) rfl (mod_ct ha)) ?_
  refine at_n rfl rfl (opr_alloc rfl zero25 rfl) ?_
  intro g1
  refine at_d rfl rfl (opr_store (i := 0) rfl rfl rfl rfl rfl size25 (N_length _) (by rw [N_length]; decide) (N_flat _) N_over) ?_
  refine at_nil ?_
  refine at_then ?_
  refine at_seq ?_
  refine at_drawQ (by kernel_rfl) (by kernel_rfl) (List.cons_ne_nil _ _) ?_
  refine dr_op rfl rfl (opr_load (i := 0) rfl rfl rfl Tryd.underlying25 rfl size25 (N_length _) (N_at _)) ?_
  refine dr_op rfl rfl (opr_buildE rfl rfl built_nz' N_zero') ?_
  refine dr_op rfl rfl (opr_eqlNt' rfl rfl rfl Tryd.underlying25 Tryd.underlying23 size23 (by kernel_rfl) (modp_lt _) RR_zero (decide_eq_true h0)) ?_
  refine dr_op rfl rfl (opr_move rfl rfl) ?_
  refine dr_skip rfl rfl ?_
  refine dr_skip rfl rfl ?_
  refine dr_skip rfl rfl ?_
  refine dr_op rfl rfl (opr_pickT rfl rfl rfl) ?_
  refine dr_op rfl rfl (opr_move rfl rfl) ?_
  refine dr_skip rfl rfl ?_
  refine dr_skip rfl rfl ?_
  refine dr_skip rfl rfl ?_
  refine dr_skip rfl rfl ?_
  refine dr_op rfl rfl (opr_pickT rfl rfl rfl) ?_
  refine dr_last rfl rfl (opr_assign rfl rfl) ?_
  refine ⟨rfl, ?_⟩
  refine at_then ?_
  refine at_ret ?_
  refine done_of (res1 Tryd.results19 (res_tmp rfl)) ⟨rfl, rfl⟩ (by repeat (first | exact List.Sublist.refl _ | apply List.Sublist.cons))
theorem isLow1_ct {M : Mem} {a : Nat} (ha : a < RR) (h0 : ¬ a % pp = 0) (h1 : a % pp = 1) : Ct Tryd.prog 19 #[.agg (N a).toArray] M (Det (.bool true) M) := by
  refine ct_of (vs := [.agg (N a).toArray]) Tryd.func19 rfl Tryd.ntmps19 rfl fun w0 => ?_
  refine at_seq ?_
  refine at_region ?_
  refine at_n rfl rfl (opr_box rfl rfl rfl) ?_
  intro g0
  refine at_d rfl rfl (opr_assign rfl rfl) ?_
  refine at_nil ?_
  refine at_then ?_
  refine at_seq ?_
  refine at_region ?_
  refine at_d rfl rfl (opr_load (i := 0) rfl rfl rfl Tryd.underlying25 rfl size25 (N_length _) (N_at _)) ?_
  refine at_d rfl rfl (opr_call rfl rfl rfl Tryd.func10 (by kernel_rfl) rfl (mod_ct ha)) ?_
  refine at_n rfl rfl (opr_alloc rfl zero25 rfl) ?_
  intro g1
  refine at_d rfl rfl (opr_store (i := 0) rfl rfl rfl rfl rfl size25 (N_length _) (by rw [N_length]; decide) (N_flat _) N_over) ?_
  refine at_nil ?_
  refine at_then ?_
  refine at_seq ?_
  refine at_drawQ (by kernel_rfl) (by kernel_rfl) (List.cons_ne_nil _ _) ?_
  refine dr_op rfl rfl (opr_load (i := 0) rfl rfl rfl Tryd.underlying25 rfl size25 (N_length _) (N_at _)) ?_
  refine dr_op rfl rfl (opr_buildE rfl rfl built_nz' N_zero') ?_
  refine dr_op rfl rfl (opr_eqlNt' rfl rfl rfl Tryd.underlying25 Tryd.underlying23 size23 (by kernel_rfl) (modp_lt _) RR_zero (decide_eq_false h0)) ?_
  refine dr_op rfl rfl (opr_move rfl rfl) ?_
  refine dr_op rfl rfl (opr_load (i := 0) rfl rfl rfl Tryd.underlying25 rfl size25 (N_length _) (N_at _)) ?_
  refine dr_op rfl rfl (opr_call rfl rfl rfl Tryd.func23 (by kernel_rfl) rfl (small_ct (c := 1) (by decide))) ?_
  refine dr_op rfl rfl (opr_eqlNt' rfl rfl rfl Tryd.underlying25 Tryd.underlying23 size23 (by kernel_rfl) (modp_lt _) RR_one (decide_eq_true h1)) ?_
  refine dr_op rfl rfl (opr_pickF' rfl rfl rfl) ?_
  refine dr_op rfl rfl (opr_move rfl rfl) ?_
  refine dr_skip rfl rfl ?_
  refine dr_skip rfl rfl ?_
  refine dr_skip rfl rfl ?_
  refine dr_skip rfl rfl ?_
  refine dr_op rfl rfl (opr_pickT rfl rfl rfl) ?_
  refine dr_last rfl rfl (opr_assign rfl rfl) ?_
  refine ⟨rfl, ?_⟩
  refine at_then ?_
  refine at_ret ?_
  refine done_of (res1 Tryd.results19 (res_tmp rfl)) ⟨rfl, rfl⟩ (by repeat (first | exact List.Sublist.refl _ | apply List.Sublist.cons))
theorem isLow2_ct {M : Mem} {a : Nat} (ha : a < RR) (h0 : ¬ a % pp = 0) (h1 : ¬ a % pp = 1) (h2 : a % pp = negp 1) : Ct Tryd.prog 19 #[.agg (N a).toArray] M (Det (.bool true) M) := by
  refine ct_of (vs := [.agg (N a).toArray]) Tryd.func19 rfl Tryd.ntmps19 rfl fun w0 => ?_
  refine at_seq ?_
  refine at_region ?_
  refine at_n rfl rfl (opr_box rfl rfl rfl) ?_
  intro g0
  refine at_d rfl rfl (opr_assign rfl rfl) ?_
  refine at_nil ?_
  refine at_then ?_
  refine at_seq ?_
  refine at_region ?_
  refine at_d rfl rfl (opr_load (i := 0) rfl rfl rfl Tryd.underlying25 rfl size25 (N_length _) (N_at _)) ?_
  refine at_d rfl rfl (opr_call rfl rfl rfl Tryd.func10 (by kernel_rfl) rfl (mod_ct ha)) ?_
  refine at_n rfl rfl (opr_alloc rfl zero25 rfl) ?_
  intro g1
  refine at_d rfl rfl (opr_store (i := 0) rfl rfl rfl rfl rfl size25 (N_length _) (by rw [N_length]; decide) (N_flat _) N_over) ?_
  refine at_nil ?_
  refine at_then ?_
  refine at_seq ?_
  refine at_drawQ (by kernel_rfl) (by kernel_rfl) (List.cons_ne_nil _ _) ?_
  refine dr_op rfl rfl (opr_load (i := 0) rfl rfl rfl Tryd.underlying25 rfl size25 (N_length _) (N_at _)) ?_
  refine dr_op rfl rfl (opr_buildE rfl rfl built_nz' N_zero') ?_
  refine dr_op rfl rfl (opr_eqlNt' rfl rfl rfl Tryd.underlying25 Tryd.underlying23 size23 (by kernel_rfl) (modp_lt _) RR_zero (decide_eq_false h0)) ?_
  refine dr_op rfl rfl (opr_move rfl rfl) ?_
  refine dr_op rfl rfl (opr_load (i := 0) rfl rfl rfl Tryd.underlying25 rfl size25 (N_length _) (N_at _)) ?_
  refine dr_op rfl rfl (opr_call rfl rfl rfl Tryd.func23 (by kernel_rfl) rfl (small_ct (c := 1) (by decide))) ?_
  refine dr_op rfl rfl (opr_eqlNt' rfl rfl rfl Tryd.underlying25 Tryd.underlying23 size23 (by kernel_rfl) (modp_lt _) RR_one (decide_eq_false h1)) ?_
  refine dr_op rfl rfl (opr_pickF' rfl rfl rfl) ?_
  refine dr_op rfl rfl (opr_move rfl rfl) ?_
  refine dr_op rfl rfl (opr_load (i := 0) rfl rfl rfl Tryd.underlying25 rfl size25 (N_length _) (N_at _)) ?_
  refine dr_op rfl rfl (opr_call rfl rfl rfl Tryd.func23 (by kernel_rfl) rfl (small_ct (c := 1) (by decide))) ?_
  refine dr_op rfl rfl (opr_call rfl rfl rfl Tryd.func37 (by kernel_rfl) rfl (sNeg_ct RR_one)) ?_
  refine dr_op rfl rfl (opr_eqlNt' rfl rfl rfl Tryd.underlying25 Tryd.underlying23 size23 (by kernel_rfl) (modp_lt _) (negp_lt _) (decide_eq_true h2)) ?_
  refine dr_op rfl rfl (opr_pickF' rfl rfl rfl) ?_
  refine dr_last rfl rfl (opr_assign rfl rfl) ?_
  refine ⟨rfl, ?_⟩
  refine at_then ?_
  refine at_ret ?_
  refine done_of (res1 Tryd.results19 (res_tmp rfl)) ⟨rfl, rfl⟩ (by repeat (first | exact List.Sublist.refl _ | apply List.Sublist.cons))
theorem isLow3_ct {M : Mem} {a : Nat} (ha : a < RR) (h0 : ¬ a % pp = 0) (h1 : ¬ a % pp = 1) (h2 : ¬ a % pp = negp 1) : Ct Tryd.prog 19 #[.agg (N a).toArray] M (Det (.bool false) M) := by
  refine ct_of (vs := [.agg (N a).toArray]) Tryd.func19 rfl Tryd.ntmps19 rfl fun w0 => ?_
  refine at_seq ?_
  refine at_region ?_
  refine at_n rfl rfl (opr_box rfl rfl rfl) ?_
  intro g0
  refine at_d rfl rfl (opr_assign rfl rfl) ?_
  refine at_nil ?_
  refine at_then ?_
  refine at_seq ?_
  refine at_region ?_
  refine at_d rfl rfl (opr_load (i := 0) rfl rfl rfl Tryd.underlying25 rfl size25 (N_length _) (N_at _)) ?_
  refine at_d rfl rfl (opr_call rfl rfl rfl Tryd.func10 (by kernel_rfl) rfl (mod_ct ha)) ?_
  refine at_n rfl rfl (opr_alloc rfl zero25 rfl) ?_
  intro g1
  refine at_d rfl rfl (opr_store (i := 0) rfl rfl rfl rfl rfl size25 (N_length _) (by rw [N_length]; decide) (N_flat _) N_over) ?_
  refine at_nil ?_
  refine at_then ?_
  refine at_seq ?_
  refine at_drawQ (by kernel_rfl) (by kernel_rfl) (List.cons_ne_nil _ _) ?_
  refine dr_op rfl rfl (opr_load (i := 0) rfl rfl rfl Tryd.underlying25 rfl size25 (N_length _) (N_at _)) ?_
  refine dr_op rfl rfl (opr_buildE rfl rfl built_nz' N_zero') ?_
  refine dr_op rfl rfl (opr_eqlNt' rfl rfl rfl Tryd.underlying25 Tryd.underlying23 size23 (by kernel_rfl) (modp_lt _) RR_zero (decide_eq_false h0)) ?_
  refine dr_op rfl rfl (opr_move rfl rfl) ?_
  refine dr_op rfl rfl (opr_load (i := 0) rfl rfl rfl Tryd.underlying25 rfl size25 (N_length _) (N_at _)) ?_
  refine dr_op rfl rfl (opr_call rfl rfl rfl Tryd.func23 (by kernel_rfl) rfl (small_ct (c := 1) (by decide))) ?_
  refine dr_op rfl rfl (opr_eqlNt' rfl rfl rfl Tryd.underlying25 Tryd.underlying23 size23 (by kernel_rfl) (modp_lt _) RR_one (decide_eq_false h1)) ?_
  refine dr_op rfl rfl (opr_pickF' rfl rfl rfl) ?_
  refine dr_op rfl rfl (opr_move rfl rfl) ?_
  refine dr_op rfl rfl (opr_load (i := 0) rfl rfl rfl Tryd.underlying25 rfl size25 (N_length _) (N_at _)) ?_
  refine dr_op rfl rfl (opr_call rfl rfl rfl Tryd.func23 (by kernel_rfl) rfl (small_ct (c := 1) (by decide))) ?_
  refine dr_op rfl rfl (opr_call rfl rfl rfl Tryd.func37 (by kernel_rfl) rfl (sNeg_ct RR_one)) ?_
  refine dr_op rfl rfl (opr_eqlNt' rfl rfl rfl Tryd.underlying25 Tryd.underlying23 size23 (by kernel_rfl) (modp_lt _) (negp_lt _) (decide_eq_false h2)) ?_
  refine dr_op rfl rfl (opr_pickF' rfl rfl rfl) ?_
  refine dr_last rfl rfl (opr_assign rfl rfl) ?_
  refine ⟨rfl, ?_⟩
  refine at_then ?_
  refine at_ret ?_
  refine done_of (res1 Tryd.results19 (res_tmp rfl)) ⟨rfl, rfl⟩ (by repeat (first | exact List.Sublist.refl _ | apply List.Sublist.cons))
theorem isLow_ct {M : Mem} {a : Nat} (ha : a < RR) : Ct Tryd.prog 19 #[.agg (N a).toArray] M (Det (.bool (!lowOk a)) M) := by
  by_cases h0 : a % pp = 0
  · rw [low0 h0]; exact isLow0_ct ha h0
  · by_cases h1 : a % pp = 1
    · rw [low1 h1]; exact isLow1_ct ha h0 h1
    · by_cases h2 : a % pp = negp 1
      · rw [low2 h2]; exact isLow2_ct ha h0 h1 h2
      · rw [low3 h0 h1 h2]; exact isLow3_ct ha h0 h1 h2
theorem fnValidIs_ct {M : Mem} {ig Tp : Nat} (hG : M[ig]? = some ⟨0, Tp, EE [pp]⟩) {il Tl : Nat} (hL : M[il]? = some ⟨1, Tl, EE lowL⟩) {a : Nat} (ha : a < RR) : Ct Tryd.prog 4 #[.agg (E a).toArray] M (Det (.bool true) M) := by
  refine ct_of (vs := [.agg (E a).toArray]) Tryd.func4 rfl Tryd.ntmps4 rfl fun w0 => ?_
  refine at_seq ?_
  refine at_region ?_
  refine at_n rfl rfl (opr_box (cs := EE [a]) rfl rfl (E_box _)) ?_
  intro g0
  refine at_d rfl rfl (opr_assign rfl rfl) ?_
  refine at_nil ?_
  refine at_then ?_
  refine at_seq ?_
  refine at_drawQ (by kernel_rfl) (by kernel_rfl) (List.cons_ne_nil _ _) ?_
  refine dr_op rfl rfl (opr_load (i := 0) rfl rfl rfl Tryd.underlying22 rfl size22 (E_length _) (EE_at (k := 0) rfl rfl rfl)) ?_
  refine dr_op rfl rfl (opr_call rfl rfl rfl Tryd.func18 (by kernel_rfl) rfl (iValidT_ct (ig := ig + 1) (il := il + 1) hG hL (a := a) ha rfl)) ?_
  refine dr_op rfl rfl (opr_load (i := 0) rfl rfl rfl Tryd.underlying22 rfl size22 (E_length _) (EE_at (k := 0) rfl rfl rfl)) ?_
  refine dr_op rfl rfl (opr_call rfl rfl rfl Tryd.func11 (by kernel_rfl) rfl (of_ct _)) ?_
  refine dr_op rfl rfl (opr_call rfl rfl rfl Tryd.func19 (by kernel_rfl) rfl (isLow_ct ha)) ?_
  refine dr_op rfl rfl (opr_eq (v' := .bool (lowOk a)) (opr_unOp (u := .bool (!(!lowOk a))) rfl rfl (fun _ => rfl)) (congrArg Value.bool (Bool.not_not _))) ?_
  refine dr_op rfl rfl (opr_eqlBT rfl rfl rfl Tryd.underlying4 rfl) ?_
  refine dr_op rfl rfl (opr_move rfl rfl) ?_
  refine dr_op rfl rfl (opr_buildE rfl rfl (built_small 5) (E_small (by decide))) ?_
  refine dr_op rfl rfl (opr_call rfl rfl rfl Tryd.func18 (by kernel_rfl) rfl (iValidT_ct (ig := ig + 1) (il := il + 1) hG hL (a := 5) (t := true) (by decide) (by decide +kernel))) ?_
  refine dr_op rfl rfl (opr_pickT rfl rfl rfl) ?_
  refine dr_last rfl rfl (opr_assign rfl rfl) ?_
  refine ⟨rfl, ?_⟩
  refine at_then ?_
  refine at_ret ?_
  refine done_of (res1 Tryd.results4 (res_tmp rfl)) ⟨rfl, rfl⟩ (by repeat (first | exact List.Sublist.refl _ | apply List.Sublist.cons))
end Go.Proofs.YtkjfongekklabaaDoor
