/- What the laws of scalars ask. -/
import Derived.Test.YtflbkfjemmmipaaDoorRefR
namespace Go.Proofs.YtflbkfjemmmipaaDoor
open Go
set_option maxRecDepth 100000

theorem opr_eqlEb {P : Program} {St : Slots} {M : Mem} {o : Oper} {x y : Operand} {T T' B a b : Nat} {t : Bool} (ho : o.op = .binOp .eql T x y T') (hx : evalS St x = some (.agg (E a).toArray)) (hy : evalS St y = some (.agg (E b).toArray)) (hu : P.underlying T = some (.array 56 B)) (he : P.underlying B = some (.int .u8)) (hs : (P.info? B).map (·.size) = some 1)
    (hq : P.eqGuardType P.depth T = false) (ha : a < RR) (hb : b < RR) (ht : decide (a = b) = t) : OpR P St M o (Det (.bool t) M) :=
  ht ▸ opr_eqlE ho hx hy hu he hs hq ha hb
theorem opr_eqlNb {P : Program} {St : Slots} {M : Mem} {o : Oper} {x y : Operand} {T T' B a b : Nat} {t : Bool} (ho : o.op = .binOp .eql T x y T') (hx : evalS St x = some (.agg (N a).toArray)) (hy : evalS St y = some (.agg (N b).toArray)) (hu : P.underlying T = some (.array 28 B)) (he : P.underlying B = some (.int .u64)) (hs : (P.info? B).map (·.size) = some 1)
    (hq : P.eqGuardType P.depth T = false) (ha : a < RR) (hb : b < RR) (ht : decide (a = b) = t) : OpR P St M o (Det (.bool t) M) :=
  ht ▸ opr_eqlN ho hx hy hu he hs hq ha hb
theorem opr_eqlBb {P : Program} {St : Slots} {M : Mem} {o : Oper} {x y : Operand} {T T' : Nat} {p q t : Bool} (ho : o.op = .binOp .eql T x y T') (hx : evalS St x = some (.bool p)) (hy : evalS St y = some (.bool q)) (hu : P.underlying T = some .bool) (ht : (p == q) = t) : OpR P St M o (Det (.bool t) M) :=
  ht ▸ opr_eqlB ho hx hy hu
theorem mq_lt (a : Nat) : a % qq < qq := Nat.mod_lt _ (by decide)
theorem mq_RR (a : Nat) : a % qq < RR := Nat.lt_trans (mq_lt a) qq_RR
theorem q_RR {a : Nat} (h : a < qq) : a < RR := Nat.lt_trans h qq_RR
theorem E_bytes (x : Nat) : ((EE [x]).drop 0).take 56 = (digs 256 56 x).map u8V := by rw [EE_one]; exact E_at x
theorem dval_bytes {x : Nat} (h : x < RR) : dval 256 (digs 256 56 x) = x := by
  rw [dval_digs]
  exact Nat.mod_eq_of_lt (Nat.lt_of_lt_of_le h (by decide +kernel))
theorem isT_ct {M : Mem} {a b : Nat} (h : a = b) (hb : b < RR) : Ct Tryd.prog 9 #[.agg (E a).toArray, .agg (N b).toArray] M (Det (.bool true) M) := by
  refine ct_of (vs := [.agg (E a).toArray, .agg (N b).toArray]) Tryd.func9 rfl Tryd.ntmps9 rfl fun w0 => ?_
  refine at_seq ?_
  refine at_region ?_
  refine at_n rfl rfl (opr_box (cs := EE [a]) rfl rfl (E_box _)) ?_
  intro g0
  refine at_n rfl rfl (opr_box rfl rfl rfl) ?_
  intro g1
  refine at_d rfl rfl (opr_assign rfl rfl) ?_
  refine at_nil ?_
  refine at_then ?_
  refine at_seq ?_
  refine at_drawQ (by kernel_rfl) (by kernel_rfl) (List.cons_ne_nil _ _) ?_
  refine dr_op rfl rfl (opr_load (i := 1) rfl rfl rfl Tryd.underlying22 rfl size22 (E_length _) (EE_at (k := 0) rfl rfl rfl)) ?_
  refine dr_op rfl rfl (opr_load (i := 0) rfl rfl rfl Tryd.underlying25 rfl size25 (N_length _) (N_at _)) ?_
  refine dr_op rfl rfl (opr_call rfl rfl rfl Tryd.func25 (by kernel_rfl) rfl (bytes_ct _)) ?_
  refine dr_op rfl rfl (opr_eqlEb rfl rfl rfl Tryd.underlying22 Tryd.underlying5 size5 (by kernel_rfl) (h ▸ hb) hb (decide_eq_true h)) ?_
  refine dr_last rfl rfl (opr_assign rfl rfl) ?_
  refine ⟨rfl, ?_⟩
  refine at_then ?_
  refine at_ret ?_
  refine done_of (res1 Tryd.results9 (res_tmp rfl)) ⟨rfl, rfl⟩ (by repeat (first | exact List.Sublist.refl _ | apply List.Sublist.cons))
end Go.Proofs.YtflbkfjemmmipaaDoor
