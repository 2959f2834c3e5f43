/- The clamp. -/
import Derived.Test.YtkjfongekklabaaDoorLow
namespace Go.Proofs.YtkjfongekklabaaDoor
open Go
set_option maxRecDepth 100000
theorem size54 : (Tryd.prog.info? 54).map (·.size) = some 56 := by kernel_rfl
theorem flat_byte {k : IntKind} {n : Int} : ∀ v ∈ [Value.int k n], flat v = true := by
  intro v hv
  simp at hv
  subst hv
  rfl
theorem opr_byte {P : Program} {St : Slots} {M : Mem} {o : Oper} {x y : Operand} {T T' : TypeId} {op : BinOp} {a c : Nat} {g : Nat → Nat} (ho : o.op = .binOp op T x y T') (hx : evalS St x = some (.int .u8 (a : Int))) (hy : evalS St y = some (.int .u8 (c : Int)))
    (hrun : ∀ (x : Nat) (w : World), x < 256 → (binOp op T (.int .u8 (x : Int)) (.int .u8 (c : Int))).run P w = .ok (.int .u8 (bits op .u8 (x : Int) (c : Int))) w) (hb : ∀ x : Fin 256, bits op .u8 (x.val : Int) (c : Int) = (g x.val : Int)) (ha : a < 256) : OpR P St M o (Det (.int .u8 (g a : Int)) M) := by
  have h := opr_binOp (P := P) (M := M) (v := .int .u8 (bits op .u8 (a : Int) (c : Int))) ho hx hy (fun w => hrun a w ha)
  rw [hb ⟨a, ha⟩] at h; exact h
def lo4 (x : Nat) : Nat := x / 4 * 4
def hi1 (x : Nat) : Nat := if x < 128 then x + 128 else x
def clampL (a : Nat) : List Nat := ((digs 256 56 a).set 0 (lo4 (a / 256 ^ 0 % 256))).set 55 (hi1 (a / 256 ^ 55 % 256))
def clampN (a : Nat) : Nat := dval 256 (clampL a)
theorem clampL_length (a : Nat) : (clampL a).length = 56 := by simp [clampL, digs_length]
theorem clampL_lt (a : Nat) : ∀ d ∈ clampL a, d < 256 := by
  intro d hd
  have h0 : a / 256 ^ 0 % 256 < 256 := Nat.mod_lt _ (by decide)
  have h1 : a / 256 ^ 55 % 256 < 256 := Nat.mod_lt _ (by decide)
  rcases List.mem_or_eq_of_mem_set hd with hd | rfl
  · rcases List.mem_or_eq_of_mem_set hd with hd | rfl
    · exact digs_lt (by decide) _ _ _ hd
    · unfold lo4; omega
  · unfold hi1; split <;> omega
theorem clampN_lt (a : Nat) : clampN a < RR := by
  have h := dval_lt (clampL a) (clampL_lt a)
  rw [clampL_length] at h
  exact Nat.lt_of_lt_of_le h (by decide +kernel)
theorem clamp_E (a : Nat) : U (clampL a) = E (clampN a) := by
  have h := digs_dval (clampL a) (clampL_lt a)
  rw [clampL_length] at h
  rw [E, clampN, h]; rfl
theorem EE_get {a j : Nat} (hj : j < 56) : (EE [a])[j]? = some (.int .u8 ((a / 256 ^ j % 256 : Nat) : Int)) := by
  rw [EE_one]; exact U_get (digs_get 56 a j hj)
theorem clamp_get {a : Nat} {y : Nat} : (U ((digs 256 56 a).set 0 y))[55]? = some (.int .u8 ((a / 256 ^ 55 % 256 : Nat) : Int)) :=
  U_get (by rw [List.getElem?_set_ne (by decide)]; exact digs_get 56 a 55 (by decide))
theorem clamp_put1 {a y : Nat} : splice (EE [a]) 0 [.int .u8 (y : Int)] = U ((digs 256 56 a).set 0 y) := by
  rw [EE_one]; exact U_put (by rw [digs_length]; decide) rfl
theorem clamp_put2 {a : Nat} : splice (U ((digs 256 56 a).set 0 (lo4 (a / 256 ^ 0 % 256)))) 55 [.int .u8 ((hi1 (a / 256 ^ 55 % 256) : Nat) : Int)] = EE [clampN a] := by
  rw [EE_one, ← clamp_E]; exact U_put (by rw [List.length_set, digs_length]; decide) rfl
theorem clamp_ct {M : Mem} {iz ix gz gx Tz Tx a b : Nat} (hz : M[iz]? = some ⟨gz, Tz, EE [b]⟩) (hx : M[ix]? = some ⟨gx, Tx, EE [a]⟩) : Ct Tryd.prog 62 #[.pointer (some ⟨gz, 0, none⟩), .pointer (some ⟨gx, 0, none⟩)] M (Det (.pointer (some ⟨gz, 0, none⟩)) (M.set iz ⟨gz, Tz, EE [clampN a]⟩)) := by
  refine ct_of (vs := [.pointer (some ⟨gz, 0, none⟩), .pointer (some ⟨gx, 0, none⟩)]) Tryd.func62 rfl Tryd.ntmps62 rfl fun w0 => ?_
  refine at_seq ?_
  refine at_region ?_
  refine at_d rfl rfl (opr_assign rfl rfl) ?_
  refine at_nil ?_
  refine at_then ?_
  refine at_seq ?_
  refine at_region ?_
  refine at_d rfl rfl (opr_move rfl rfl) ?_
  refine at_d rfl rfl (opr_move rfl rfl) ?_
  refine at_d rfl rfl (opr_nilCheck rfl rfl) ?_
  refine at_d rfl rfl (opr_load (i := ix) rfl rfl hx Tryd.underlying54 rfl size54 (E_length _) (EE_at (k := 0) rfl rfl rfl)) ?_
  refine at_d rfl rfl (opr_nilCheck rfl rfl) ?_
  refine at_d rfl rfl (opr_store (i := iz) rfl rfl rfl rfl hz size54 (E_length _) (by rw [EE_length]; exact Nat.le_of_ble_eq_true rfl) (E_flat _) (EE_set (k := 0) (Nat.le_of_ble_eq_true rfl) rfl)) ?_
  refine at_nil ?_
  refine at_then ?_
  refine at_seq ?_
  refine at_draw (by kernel_rfl) (by kernel_rfl) (by kernel_rfl) (List.cons_ne_nil _ _) ?_
  refine dr_op rfl rfl (opr_move rfl rfl) ?_
  refine dr_op rfl rfl (opr_nilCheck rfl rfl) ?_
  refine dr_op rfl rfl (opr_indexAddr (j := 0) rfl rfl rfl Tryd.underlying54 (by decide) size5 rfl) ?_
  refine dr_op rfl rfl (opr_load1 (i := iz) rfl rfl (get_set hz) Tryd.underlying5 rfl (EE_get (by decide))) ?_
  refine dr_op rfl rfl (opr_byte (op := .and) (c := 252) (g := lo4) rfl rfl rfl (fun _ _ _ => rfl) (by decide +kernel) (Nat.mod_lt _ (by decide))) ?_
  refine dr_op rfl rfl (opr_nilCheck rfl rfl) ?_
  refine dr_op rfl rfl (opr_indexAddr (j := 0) rfl rfl rfl Tryd.underlying54 (by decide) size5 rfl) ?_
  refine dr_last rfl rfl (opr_store (i := iz) rfl rfl rfl rfl (get_set hz) size5 rfl (by rw [EE_length]; exact Nat.le_of_ble_eq_true rfl) flat_byte clamp_put1) ?_
  refine at_then ?_
  refine at_seq ?_
  refine at_draw (by kernel_rfl) (by kernel_rfl) (by kernel_rfl) (List.cons_ne_nil _ _) ?_
  refine dr_op rfl rfl (opr_move rfl rfl) ?_
  refine dr_op rfl rfl (opr_nilCheck rfl rfl) ?_
  refine dr_op rfl rfl (opr_indexAddr (j := 55) rfl rfl rfl Tryd.underlying54 (by decide) size5 rfl) ?_
  refine dr_op rfl rfl (opr_load1 (i := iz) rfl rfl (get_set (get_set hz)) Tryd.underlying5 rfl clamp_get) ?_
  refine dr_op rfl rfl (opr_byte (op := .or) (c := 128) (g := hi1) rfl rfl rfl (fun _ _ _ => rfl) (by decide +kernel) (Nat.mod_lt _ (by decide))) ?_
  refine dr_op rfl rfl (opr_nilCheck rfl rfl) ?_
  refine dr_op rfl rfl (opr_indexAddr (j := 55) rfl rfl rfl Tryd.underlying54 (by decide) size5 rfl) ?_
  refine dr_last rfl rfl (opr_store (i := iz) rfl rfl rfl rfl (get_set (get_set hz)) size5 rfl (by rw [U_length, List.length_set, digs_length]; decide) flat_byte clamp_put2) ?_
  refine at_then ?_
  refine at_seq ?_
  refine at_region ?_
  refine at_d rfl rfl (opr_move rfl rfl) ?_
  refine at_d rfl rfl (opr_assign rfl rfl) ?_
  refine at_nil ?_
  refine at_then ?_
  refine at_ret ?_
  exact done_of (res1 Tryd.results62 (res_tmp rfl)) ⟨rfl, rfl⟩ (by rw [List.set_set, List.set_set]; exact List.Sublist.refl _)
theorem sClamp_ct {M : Mem} {a : Nat} : Ct Tryd.prog 28 #[.agg (E a).toArray] M (Det (.agg (E (clampN a)).toArray) M) := by
  refine ct_of (vs := [.agg (E a).toArray]) Tryd.func28 rfl Tryd.ntmps28 rfl fun w0 => ?_
  refine at_seq ?_
  refine at_region ?_
  refine at_n rfl rfl (opr_box (cs := EE [a]) rfl rfl (E_box _)) ?_
  intro g0
  refine at_n rfl rfl (opr_alloc rfl zero22 rfl) ?_
  intro g1
  refine at_nil ?_
  refine at_then ?_
  refine at_seq ?_
  refine at_region ?_
  refine at_d rfl rfl (opr_indexAddr (j := 0) rfl rfl rfl Tryd.underlying22 (by decide) size5 rfl) ?_
  refine at_d rfl rfl (opr_load1 (i := 1) rfl rfl rfl Tryd.underlying5 rfl (EE_get (by decide))) ?_
  refine at_d rfl rfl (opr_byte (op := .andNot) (c := 3) (g := lo4) rfl rfl rfl (fun _ _ _ => rfl) (by decide +kernel) (Nat.mod_lt _ (by decide))) ?_
  refine at_d rfl rfl (opr_indexAddr (j := 0) rfl rfl rfl Tryd.underlying22 (by decide) size5 rfl) ?_
  refine at_d rfl rfl (opr_store (i := 1) rfl rfl rfl rfl rfl size5 rfl (by rw [EE_length]; exact Nat.le_of_ble_eq_true rfl) flat_byte clamp_put1) ?_
  refine at_nil ?_
  refine at_then ?_
  refine at_seq ?_
  refine at_region ?_
  refine at_d rfl rfl (opr_indexAddr (j := 55) rfl rfl rfl Tryd.underlying22 (by decide) size5 rfl) ?_
  refine at_d rfl rfl (opr_load1 (i := 1) rfl rfl rfl Tryd.underlying5 rfl clamp_get) ?_
  refine at_d rfl rfl (opr_byte (op := .or) (c := 128) (g := hi1) rfl rfl rfl (fun _ _ _ => rfl) (by decide +kernel) (Nat.mod_lt _ (by decide))) ?_
  refine at_d rfl rfl (opr_indexAddr (j := 55) rfl rfl rfl Tryd.underlying22 (by decide) size5 rfl) ?_
  refine at_d rfl rfl (opr_store (i := 1) rfl rfl rfl rfl rfl size5 rfl (by rw [U_length, List.length_set, digs_length]; decide) flat_byte clamp_put2) ?_
  refine at_nil ?_
  refine at_then ?_
  refine at_seq ?_
  refine at_region ?_
  refine at_d rfl rfl (opr_load (i := 1) rfl rfl rfl Tryd.underlying22 rfl size22 (E_length _) (EE_at (k := 0) rfl rfl rfl)) ?_
  refine at_d rfl rfl (opr_store (i := 0) rfl rfl rfl rfl rfl size22 (E_length _) (by rw [EE_length]; exact Nat.le_of_ble_eq_true rfl) (E_flat _) (EE_set (k := 0) (Nat.le_of_ble_eq_true rfl) rfl)) ?_
  refine at_nil ?_
  refine at_then ?_
  refine at_ret ?_
  refine done_of (res1 Tryd.results28 (res_cell (i := 0) rfl rfl Tryd.underlying22 rfl size22 (E_length _) (EE_at (k := 0) rfl rfl rfl))) ⟨rfl, rfl⟩ (by repeat (first | exact List.Sublist.refl _ | apply List.Sublist.cons))
end Go.Proofs.YtkjfongekklabaaDoor
