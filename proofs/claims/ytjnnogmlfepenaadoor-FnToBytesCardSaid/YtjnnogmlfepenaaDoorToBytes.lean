/- An element's bytes. -/
import Derived.Test.YtjnnogmlfepenaaDoorLaws4
import Derived.Test.YtjnnogmlfepenaaDoorCopy
namespace Go.Proofs.YtjnnogmlfepenaaDoor
open Go
set_option maxRecDepth 100000

theorem opr_makeSlice {P : Program} {St : Slots} {M : Mem} {o : Oper} {T e : Nat} {x y : Operand} {n : Nat} {cs : List Value} (ho : o.op = .makeSlice T x y) (hx : evalS St x = some (.int .i64 (n : Int))) (hy : evalS St y = some (.int .i64 (n : Int))) (ht : P.underlying T = some (.slice e)) (hi' : (P.info? e).map (fun i => (i.bytes, i.size, i.zero)) = some (1, 1, some (.int .u8 0))) (hn : n ≤ 100) (hcs : List.replicate n (Value.int .u8 0) = cs) :
    OpR P St M o (fun v M' => ∃ g, v = .slice (some ⟨g, 0, none⟩) n n ∧ M' = ⟨g, e, cs⟩ :: M) := by
  obtain ⟨i, hi, h3⟩ := Option.map_eq_some_iff.1 hi'
  simp only [Prod.mk.injEq] at h3
  obtain ⟨hb, hs, hz⟩ := h3
  intro ρ w0 S w hρ hw
  have hr := run_makeSlice (P := P) (w := w) T e i (.int .u8 0) ht hi hz .i64 .i64 (n : Int) (n : Int) (by omega) (Int.le_refl _) (by rw [hs]; omega) (by rw [hb]; omega) (by omega)
  have hc : madeCells (Value.int .u8 0).cells ((n : Int).toNat * i.size) = cs.toArray := by
    rw [hs, show (Value.int .u8 0).cells = #[.int .u8 0] from rfl, Int.toNat_natCast, Nat.mul_one, ← hcs]
    apply Array.ext_getElem?
    intro j
    simp only [madeCells, Array.getElem?_map, Array.getElem?_range, List.getElem?_toArray, List.getElem?_replicate]
    by_cases hj : j < n
    · simp [hj, Nat.mod_one]
    · simp [hj]
  rw [hc] at hr
  have : (execOp ρ o).run P w = .ok (.value (.slice (some ⟨w.heap.size, 0, none⟩) n n)) (w.alloc (.cells cs.toArray e)) := by
    simp only [execOp, ho, hρ _ _ hx, hρ _ _ hy, Sem.run_bind, hr, Result.andThen_ok, Sem.run_pure, Int.toNat_natCast]
  rw [this]
  exact ⟨_, ⟨_, rfl, rfl⟩, hw.alloc e cs⟩
theorem opr_makeInterface {P : Program} {St : Slots} {M : Mem} {o : Oper} {X : Nat} {x : Operand} {v : Value} {d : TypeDesc} (ho : o.op = .makeInterface X x) (hx : evalS St x = some v) (hu : P.underlying X = some d) (hd : (match d with | .interface _ => true | _ => false) = false) : OpR P St M o (Det (.iface X v) M) :=
  opr_value fun ρ w0 S w hρ hw => by
    have : (Instr.makeInterface X v).run P w = .ok (.iface X v) w := by
      unfold Instr.makeInterface
      rw [Sem.run_bind, run_underlying hu w]
      cases d <;> simp_all [Sem.run_pure]
    simp only [execOp, ho, hρ _ _ hx, Sem.run_bind, this, Result.andThen_ok, Sem.run_pure]
theorem opr_neqHeld {P : Program} {St : Slots} {M : Mem} {o : Oper} {T T' X : Nat} {x : Operand} {v : Value} (ho : o.op = .binOp .neq T x (.const .nilIface) T') (hx : evalS St x = some (.iface X v)) (h : P.underlying T = some (.interface (P.methodsAt T))) : OpR P St M o (Det (.bool true) M) :=
  opr_value fun ρ w0 S w hρ hw => by
    have hy : ρ (.const .nilIface) = .nilIface := hρ _ _ rfl
    have hg : (eqGuard .neq T x (.const .nilIface) (.iface X v) .nilIface).run P w = .ok () w := rfl
    have hb := run_neq_held_nil (P := P) w T X v h
    simp only [execOp, ho, hρ _ _ hx, hy, Sem.run_bind, hg, hb, Result.andThen_ok, Sem.run_pure]
theorem opr_neqNil {P : Program} {St : Slots} {M : Mem} {o : Oper} {T T' : Nat} {x : Operand} (ho : o.op = .binOp .neq T x (.const .nilIface) T') (hx : evalS St x = some .nilIface) (h : P.underlying T = some (.interface (P.methodsAt T))) : OpR P St M o (Det (.bool false) M) :=
  opr_value fun ρ w0 S w hρ hw => by
    have hy : ρ (.const .nilIface) = .nilIface := hρ _ _ rfl
    have hg : (eqGuard .neq T x (.const .nilIface) .nilIface .nilIface).run P w = .ok () w := by
      cases x <;> rfl
    have hb := run_neq_nil_nil (P := P) w T h
    simp only [execOp, ho, hρ _ _ hx, hy, Sem.run_bind, hg, hb, Result.andThen_ok, Sem.run_pure]
/-- An element's bytes as a string. -/
def strE (a : Nat) : ByteArray := ((digs 256 56 a).map fun d : Nat => (d : Int)).foldl (fun r n => r.push (UInt8.ofNat n.toNat)) ByteArray.empty
theorem opr_strE {P : Program} {St : Slots} {M : Mem} {o : Oper} {S' D e : Nat} {x : Operand} {i g T a c : Nat} (ho : o.op = .convert S' D x) (hx : evalS St x = some (.slice (some ⟨g, 0, none⟩) 56 c)) (hs : P.underlying S' = some (.slice e)) (he : P.underlying e = some (.int .u8)) (hd : P.underlying D = some .string) (hb : M[i]? = some ⟨g, T, EE [a]⟩) : OpR P St M o (Det (.string (strE a)) M) :=
  opr_value fun ρ w0 S w hρ hw => by
    have hl := run_loadCells_list (P := P) (w := w) ⟨g, 0, none⟩ (((digs 256 56 a).map fun d : Nat => (d : Int)).map (Value.int .u8)) (fun j v hj => by
      have hadd : (⟨g, 0, none⟩ : Addr).add j = ⟨g, j, none⟩ := by unfold Addr.add; split <;> simp_all
      rw [hadd, cell_at hw hb j, EE_one, E, u8V_map]; exact hj)
    rw [List.length_map, List.length_map, digs_length] at hl
    have hc := (run_convert_bytes_string (P := P) w S' D e (some ⟨g, 0, none⟩) 56 c hs he hd).trans (run_bytesToString w ⟨g, 0, none⟩ 56 c _ hl)
    simp only [execOp, ho, hρ _ _ hx, Sem.run_bind, hc, Result.andThen_ok, Sem.run_pure]
    rfl
theorem opr_eqlStr {P : Program} {St : Slots} {M : Mem} {o : Oper} {T T' : Nat} {x y : Operand} {s : ByteArray} (ho : o.op = .binOp .eql T x y T') (hx : evalS St x = some (.string s)) (hy : evalS St y = some (.string s)) (hu : P.underlying T = some .string) : OpR P St M o (Det (.bool true) M) :=
  opr_value fun ρ w0 S w hρ hw => by
    have hg : (eqGuard .eql T x y (.string s) (.string s)).run P w = .ok () w := rfl
    have hb : (binOp .eql T (.string s) (.string s)).run P w = .ok (.bool true) w := by
      simp [binOp, Op.stringOp]
    simp only [execOp, ho, hρ _ _ hx, hρ _ _ hy, Sem.run_bind, hg, hb, Result.andThen_ok, Sem.run_pure]
theorem opr_lssZ {P : Program} {St : Slots} {M : Mem} {o : Oper} {T T' : Nat} {x y : Operand} {a b : Int} {t : Bool} (ho : o.op = .binOp .lss T x y T') (hx : evalS St x = some (.int .i64 a)) (hy : evalS St y = some (.int .i64 b)) (ht : decide (a < b) = t) : OpR P St M o (Det (.bool t) M) :=
  ht ▸ opr_binOp (P := P) (M := M) (v := .bool (decide (a < b))) ho hx hy (fun w => by simp only [binOp, Op.intCmp, ne_eq, not_true_eq_false, if_false, Sem.run_pure])
theorem opr_gtrZ {P : Program} {St : Slots} {M : Mem} {o : Oper} {T T' : Nat} {x y : Operand} {a b : Int} {t : Bool} (ho : o.op = .binOp .gtr T x y T') (hx : evalS St x = some (.int .i64 a)) (hy : evalS St y = some (.int .i64 b)) (ht : decide (a > b) = t) : OpR P St M o (Det (.bool t) M) :=
  ht ▸ opr_binOp (P := P) (M := M) (v := .bool (decide (a > b))) ho hx hy (fun w => by simp only [binOp, Op.intCmp, ne_eq, not_true_eq_false, if_false, Sem.run_pure])
theorem opr_pickE {P : Program} {St : Slots} {M : Mem} {o : Oper} {c x y : Operand} {u : Value} (ho : o.op = .pick c x y) (hc : evalS St c = some (.bool false)) (hy : evalS St y = some u) : OpR P St M o (Det u M) :=
  opr_value fun ρ w0 S w hρ hw => by
    simp only [execOp, ho, hρ _ _ hc, hρ _ _ hy, asBool, Sem.run_bind, Sem.run_pure, Result.andThen_ok]
    rfl
theorem opr_pickY {P : Program} {St : Slots} {M : Mem} {o : Oper} {c x y : Operand} {u : Value} (ho : o.op = .pick c x y) (hc : evalS St c = some (.bool true)) (hx : evalS St x = some u) : OpR P St M o (Det u M) :=
  opr_value fun ρ w0 S w hρ hw => by
    simp only [execOp, ho, hρ _ _ hc, hρ _ _ hx, asBool, Sem.run_bind, Sem.run_pure, Result.andThen_ok]
    rfl
theorem built_err (s : ByteArray) : Tryd.prog.built 64 [(0, .string s)] = some [Value.string s].toArray := by kernel_rfl
theorem errNew_ct {M : Mem} {s : ByteArray} : Ct Tryd.prog 59 #[.string s] M (fun v M' => (∃ X x, v = .iface X x) ∧ M' = M) := by
  refine ct_of (vs := [.string s]) Tryd.func59 rfl Tryd.ntmps59 rfl fun w0 => ?_
  refine at_seq ?_
  refine at_region ?_
  refine at_d rfl rfl (opr_assign rfl rfl) ?_
  refine at_nil ?_
  refine at_then ?_
  refine at_seq ?_
  refine at_region ?_
  refine at_d rfl rfl (opr_move rfl rfl) ?_
  refine at_d rfl rfl (opr_buildP rfl rfl (built_err s)) ?_
  refine at_n rfl rfl (opr_box rfl rfl rfl) ?_
  intro g0
  refine at_d rfl rfl (opr_makeInterface rfl rfl Tryd.underlying62 rfl) ?_
  refine at_d rfl rfl (opr_assign rfl rfl) ?_
  refine at_nil ?_
  refine at_then ?_
  refine at_ret ?_
  exact done_of (res1 Tryd.results59 (res_tmp rfl)) ⟨⟨_, _, rfl⟩, rfl⟩ (by repeat (first | exact List.Sublist.refl _ | apply List.Sublist.cons))
theorem toBytes_ct {M : Mem} {ig Tp : Nat} (hG : M[ig]? = some ⟨0, Tp, EE [pp]⟩) {ix ik gx gk Tx Tk kx ox ck a b : Nat} {lx : List Nat} (hx : M[ix]? = some ⟨gx, Tx, EE lx⟩) (hkx : lx[kx]? = some a) (hox : 56 * kx = ox) (hk : M[ik]? = some ⟨gk, Tk, EE [b]⟩) (hne : ix ≠ ik) (ha : a < RR) : Ct Tryd.prog 49 #[.slice (some ⟨gk, 0, none⟩) 56 ck, .pointer (some ⟨gx, ox, none⟩)] M (Det .nilIface ((M.set ix ⟨gx, Tx, EE (lx.set kx (a % pp))⟩).set ik ⟨gk, Tk, EE [a % pp]⟩)) := by
  refine ct_of (vs := [.slice (some ⟨gk, 0, none⟩) 56 ck, .pointer (some ⟨gx, ox, none⟩)]) Tryd.func49 rfl Tryd.ntmps49 rfl fun w0 => ?_
  refine at_seq ?_
  refine at_region ?_
  refine at_d rfl rfl (opr_assign rfl rfl) ?_
  refine at_nil ?_
  refine at_then ?_
  refine at_seq ?_
  refine at_seq ?_
  refine at_region ?_
  refine at_d rfl rfl (opr_move rfl rfl) ?_
  refine at_d rfl rfl (opr_lenS rfl rfl Tryd.underlying38) ?_
  refine at_d rfl rfl (opr_binOp (v := .bool false) rfl rfl rfl (fun _ => rfl)) ?_
  refine at_nil ?_
  refine at_then ?_
  refine at_cond_false rfl ?_
  refine at_skip ?_
  refine at_then ?_
  refine at_seq ?_
  refine at_region ?_
  refine at_d rfl rfl (opr_move rfl rfl) ?_
  refine at_d rfl rfl (opr_call rfl rfl rfl Tryd.func56 (by kernel_rfl) rfl (modp_ct (ig := ig) (iz := ix) (kz := kx) hG hx hkx hox ha)) ?_
  refine at_nil ?_
  refine at_then ?_
  refine at_seq ?_
  refine at_region ?_
  refine at_d rfl rfl (opr_move rfl rfl) ?_
  refine at_d rfl rfl (opr_move rfl rfl) ?_
  refine at_d rfl rfl (opr_nilCheck rfl rfl) ?_
  refine at_d rfl rfl (opr_sliceAll rfl rfl Tryd.underlying46 rfl size5) ?_
  refine at_d rfl rfl (opr_copy (i := ik) (j := ix) (n := 56) rfl rfl rfl (get_set_ne hk hne) (get_set hx) Tryd.underlying38 size5 rfl (E_length (a % pp)) (EE_at (lset (List.getElem?_eq_some_iff.1 hkx).1) hox rfl) (by rw [EE_length]; exact Nat.le_refl _) (E_flat _) (EE_set (k := 0) (Nat.le_of_ble_eq_true rfl) rfl)) ?_
  refine at_nil ?_
  refine at_then ?_
  refine at_seq ?_
  refine at_region ?_
  refine at_d rfl rfl (opr_assign rfl rfl) ?_
  refine at_nil ?_
  refine at_then ?_
  refine at_ret ?_
  refine done_of (res1 Tryd.results49 (res_tmp rfl)) ⟨rfl, rfl⟩ (by repeat (first | exact List.Sublist.refl _ | apply List.Sublist.cons))
theorem toBytesErr_ct {M : Mem} {a : Option Addr} {n c : Nat} {p : Value} (hn : n ≠ 56) : Ct Tryd.prog 49 #[.slice a n c, p] M (fun v M' => (∃ X x, v = .iface X x) ∧ M' = M) := by
  refine ct_of (vs := [.slice a n c, p]) Tryd.func49 rfl Tryd.ntmps49 rfl fun w0 => ?_
  refine at_seq ?_
  refine at_region ?_
  refine at_d rfl rfl (opr_assign rfl rfl) ?_
  refine at_nil ?_
  refine at_then ?_
  refine at_seq ?_
  refine at_seq ?_
  refine at_region ?_
  refine at_d rfl rfl (opr_move rfl rfl) ?_
  refine at_d rfl rfl (opr_lenS rfl rfl Tryd.underlying38) ?_
  refine at_d rfl rfl (opr_eq (opr_neq (a := n) (b := 56) rfl rfl rfl) (congrArg Value.bool (decide_eq_true hn))) ?_
  refine at_nil ?_
  refine at_then ?_
  refine at_cond_true rfl ?_
  refine at_seq ?_
  refine at_region ?_
  refine at_c rfl rfl (opr_call rfl rfl rfl Tryd.func59 (by kernel_rfl) rfl (errNew_ct)) ?_
  rintro _ _ ⟨⟨X, x, rfl⟩, rfl⟩
  refine at_d rfl rfl (opr_assign rfl rfl) ?_
  refine at_nil ?_
  refine at_then ?_
  refine at_ret ?_
  refine at_then_ret ?_
  exact done_of (res1 Tryd.results49 (res_tmp rfl)) ⟨⟨_, _, rfl⟩, rfl⟩ (by repeat (first | exact List.Sublist.refl _ | apply List.Sublist.cons))
theorem E_zero0' : List.replicate 56 (Value.int .u8 0) = EE [0] := by rw [EE_one]; rfl
theorem iToBytesY_ct {M : Mem} {ig Tp : Nat} (hG : M[ig]? = some ⟨0, Tp, EE [pp]⟩) {a : Nat} (ha : a < RR) : Ct Tryd.prog 32 #[.int .i64 (56 : Int), .agg (E a).toArray] M (fun v M' => ∃ g, v = .tuple #[.slice (some ⟨g, 0, none⟩) 56 56, .bool true] ∧ M' = ⟨g, 5, EE [a % pp]⟩ :: M) := by
  refine ct_of (vs := [.int .i64 (56 : Int), .agg (E a).toArray]) Tryd.func32 rfl Tryd.ntmps32 rfl fun w0 => ?_
  refine at_seq ?_
  refine at_region ?_
  refine at_n rfl rfl (opr_box (cs := EE [a]) rfl rfl (E_box _)) ?_
  intro g0
  refine at_d rfl rfl (opr_assign rfl rfl) ?_
  refine at_d rfl rfl (opr_assign rfl rfl) ?_
  refine at_nil ?_
  refine at_then ?_
  refine at_seq ?_
  refine at_seq ?_
  refine at_region ?_
  refine at_d rfl rfl (opr_move rfl rfl) ?_
  refine at_d rfl rfl (opr_lssZ rfl rfl rfl (decide_eq_false (by omega))) ?_
  refine at_d rfl rfl (opr_move rfl rfl) ?_
  refine at_d rfl rfl (opr_move rfl rfl) ?_
  refine at_d rfl rfl (opr_gtrZ rfl rfl rfl (decide_eq_false (by omega))) ?_
  refine at_d rfl rfl (opr_pickE rfl rfl rfl) ?_
  refine at_nil ?_
  refine at_then ?_
  refine at_cond_false rfl ?_
  refine at_skip ?_
  refine at_then ?_
  refine at_seq ?_
  refine at_region ?_
  refine at_d rfl rfl (opr_load (i := 0) rfl rfl rfl Tryd.underlying22 rfl size22 (E_length _) (EE_at (k := 0) rfl rfl rfl)) ?_
  refine at_n rfl rfl (opr_alloc rfl zero46 rfl) ?_
  intro g1
  refine at_d rfl rfl (opr_store (i := 0) rfl rfl rfl rfl rfl size46 (E_length _) (by rw [EE_length]; exact Nat.le_of_ble_eq_true rfl) (E_flat _) (EE_set (k := 0) (Nat.le_of_ble_eq_true rfl) rfl)) ?_
  refine at_nil ?_
  refine at_then ?_
  refine at_seq ?_
  refine at_region ?_
  refine at_d rfl rfl (opr_move rfl rfl) ?_
  refine at_c rfl rfl (opr_makeSlice (n := 56) (cs := EE [0]) rfl rfl rfl Tryd.underlying38 (by kernel_rfl) (by decide) E_zero0') ?_
  rintro _ _ ⟨gs, rfl, rfl⟩
  refine at_d rfl rfl (opr_assign rfl rfl) ?_
  refine at_nil ?_
  refine at_then ?_
  refine at_seq ?_
  refine at_seq ?_
  refine at_region ?_
  refine at_d rfl rfl (opr_move rfl rfl) ?_
  refine at_d rfl rfl (opr_call rfl rfl rfl Tryd.func49 (by kernel_rfl) rfl (toBytes_ct (ig := ig + 3) (ix := 1) (ik := 0) (kx := 0) hG rfl rfl rfl rfl (by decide) ha)) ?_
  refine at_d rfl rfl (opr_neqNil rfl rfl (by kernel_rfl)) ?_
  refine at_nil ?_
  refine at_then ?_
  refine at_cond_false rfl ?_
  refine at_skip ?_
  refine at_then ?_
  refine at_seq ?_
  refine at_region ?_
  refine at_d rfl rfl (opr_move rfl rfl) ?_
  refine at_d rfl rfl (opr_assign rfl rfl) ?_
  refine at_d rfl rfl (opr_assign rfl rfl) ?_
  refine at_nil ?_
  refine at_then ?_
  refine at_ret ?_
  exact done_of (res2 Tryd.results32 (res_tmp rfl) (res_tmp rfl)) ⟨gs, rfl, rfl⟩ (List.Sublist.cons_cons _ (by repeat (first | exact List.Sublist.refl _ | apply List.Sublist.cons)))
theorem iToBytesN_ct {M : Mem} {ig Tp : Nat} (hG : M[ig]? = some ⟨0, Tp, EE [pp]⟩) {a : Nat} {n : Nat} (hn : n ≠ 56) (hm : n ≤ 100) : Ct Tryd.prog 32 #[.int .i64 (n : Int), .agg (E a).toArray] M (Det (.tuple #[.slice none 0 0, .bool false]) M) := by
  refine ct_of (vs := [.int .i64 (n : Int), .agg (E a).toArray]) Tryd.func32 rfl Tryd.ntmps32 rfl fun w0 => ?_
  refine at_seq ?_
  refine at_region ?_
  refine at_n rfl rfl (opr_box (cs := EE [a]) rfl rfl (E_box _)) ?_
  intro g0
  refine at_d rfl rfl (opr_assign rfl rfl) ?_
  refine at_d rfl rfl (opr_assign rfl rfl) ?_
  refine at_nil ?_
  refine at_then ?_
  refine at_seq ?_
  refine at_seq ?_
  refine at_region ?_
  refine at_d rfl rfl (opr_move rfl rfl) ?_
  refine at_d rfl rfl (opr_lssZ rfl rfl rfl (decide_eq_false (by omega))) ?_
  refine at_d rfl rfl (opr_move rfl rfl) ?_
  refine at_d rfl rfl (opr_move rfl rfl) ?_
  refine at_d rfl rfl (opr_gtrZ rfl rfl rfl (decide_eq_false (by omega))) ?_
  refine at_d rfl rfl (opr_pickE rfl rfl rfl) ?_
  refine at_nil ?_
  refine at_then ?_
  refine at_cond_false rfl ?_
  refine at_skip ?_
  refine at_then ?_
  refine at_seq ?_
  refine at_region ?_
  refine at_d rfl rfl (opr_load (i := 0) rfl rfl rfl Tryd.underlying22 rfl size22 (E_length _) (EE_at (k := 0) rfl rfl rfl)) ?_
  refine at_n rfl rfl (opr_alloc rfl zero46 rfl) ?_
  intro g1
  refine at_d rfl rfl (opr_store (i := 0) rfl rfl rfl rfl rfl size46 (E_length _) (by rw [EE_length]; exact Nat.le_of_ble_eq_true rfl) (E_flat _) (EE_set (k := 0) (Nat.le_of_ble_eq_true rfl) rfl)) ?_
  refine at_nil ?_
  refine at_then ?_
  refine at_seq ?_
  refine at_region ?_
  refine at_d rfl rfl (opr_move rfl rfl) ?_
  refine at_c rfl rfl (opr_makeSlice (n := n) (cs := List.replicate n (.int .u8 0)) rfl rfl rfl Tryd.underlying38 (by kernel_rfl) hm rfl) ?_
  rintro _ _ ⟨gs, rfl, rfl⟩
  refine at_d rfl rfl (opr_assign rfl rfl) ?_
  refine at_nil ?_
  refine at_then ?_
  refine at_seq ?_
  refine at_seq ?_
  refine at_region ?_
  refine at_d rfl rfl (opr_move rfl rfl) ?_
  refine at_c rfl rfl (opr_call rfl rfl rfl Tryd.func49 (by kernel_rfl) rfl (toBytesErr_ct hn)) ?_
  rintro _ _ ⟨⟨X, x, rfl⟩, rfl⟩
  refine at_d rfl rfl (opr_neqHeld rfl rfl (by kernel_rfl)) ?_
  refine at_nil ?_
  refine at_then ?_
  refine at_cond_true rfl ?_
  refine at_seq ?_
  refine at_region ?_
  refine at_d rfl rfl (opr_assign rfl rfl) ?_
  refine at_d rfl rfl (opr_assign rfl rfl) ?_
  refine at_nil ?_
  refine at_then ?_
  refine at_ret ?_
  refine at_then_ret ?_
  exact done_of (res2 Tryd.results32 (res_tmp rfl) (res_tmp rfl)) ⟨rfl, rfl⟩ (by repeat (first | exact List.Sublist.refl _ | apply List.Sublist.cons))
theorem fnToBytesA_ct {M : Mem} {ig Tp : Nat} (hG : M[ig]? = some ⟨0, Tp, EE [pp]⟩) {a : Nat} (ha : a < RR) {n : Int} (hn : n < 0) : Ct Tryd.prog 7 #[.int .i64 n, .agg (E a).toArray] M (Det (.bool true) M) := by
  refine ct_of (vs := [.int .i64 n, .agg (E a).toArray]) Tryd.func7 rfl Tryd.ntmps7 rfl fun w0 => ?_
  refine at_seq ?_
  refine at_region ?_
  refine at_n rfl rfl (opr_box (cs := EE [a]) rfl rfl (E_box _)) ?_
  intro g0
  refine at_d rfl rfl (opr_assign rfl rfl) ?_
  refine at_nil ?_
  refine at_then ?_
  refine at_seq ?_
  refine at_seq ?_
  refine at_region ?_
  refine at_d rfl rfl (opr_move rfl rfl) ?_
  refine at_d rfl rfl (opr_lssZ rfl rfl rfl (decide_eq_true (by omega))) ?_
  refine at_d rfl rfl (opr_move rfl rfl) ?_
  refine at_op_skip rfl rfl ?_
  refine at_op_skip rfl rfl ?_
  refine at_d rfl rfl (opr_pickY rfl rfl rfl) ?_
  refine at_nil ?_
  refine at_then ?_
  refine at_cond_true rfl ?_
  refine at_seq ?_
  refine at_region ?_
  refine at_d rfl rfl (opr_assign rfl rfl) ?_
  refine at_nil ?_
  refine at_then ?_
  refine at_ret ?_
  refine at_then_ret ?_
  refine done_of (res1 Tryd.results7 (res_tmp rfl)) ⟨rfl, rfl⟩ (by repeat (first | exact List.Sublist.refl _ | apply List.Sublist.cons))
theorem fnToBytesB_ct {M : Mem} {ig Tp : Nat} (hG : M[ig]? = some ⟨0, Tp, EE [pp]⟩) {a : Nat} (ha : a < RR) {n : Int} (hn : 100 < n) : Ct Tryd.prog 7 #[.int .i64 n, .agg (E a).toArray] M (Det (.bool true) M) := by
  refine ct_of (vs := [.int .i64 n, .agg (E a).toArray]) Tryd.func7 rfl Tryd.ntmps7 rfl fun w0 => ?_
  refine at_seq ?_
  refine at_region ?_
  refine at_n rfl rfl (opr_box (cs := EE [a]) rfl rfl (E_box _)) ?_
  intro g0
  refine at_d rfl rfl (opr_assign rfl rfl) ?_
  refine at_nil ?_
  refine at_then ?_
  refine at_seq ?_
  refine at_seq ?_
  refine at_region ?_
  refine at_d rfl rfl (opr_move rfl rfl) ?_
  refine at_d rfl rfl (opr_lssZ rfl rfl rfl (decide_eq_false (by omega))) ?_
  refine at_d rfl rfl (opr_move rfl rfl) ?_
  refine at_d rfl rfl (opr_move rfl rfl) ?_
  refine at_d rfl rfl (opr_gtrZ rfl rfl rfl (decide_eq_true (by omega))) ?_
  refine at_d rfl rfl (opr_pickE rfl rfl rfl) ?_
  refine at_nil ?_
  refine at_then ?_
  refine at_cond_true rfl ?_
  refine at_seq ?_
  refine at_region ?_
  refine at_d rfl rfl (opr_assign rfl rfl) ?_
  refine at_nil ?_
  refine at_then ?_
  refine at_ret ?_
  refine at_then_ret ?_
  refine done_of (res1 Tryd.results7 (res_tmp rfl)) ⟨rfl, rfl⟩ (by repeat (first | exact List.Sublist.refl _ | apply List.Sublist.cons))
theorem fnToBytesC_ct {M : Mem} {ig Tp : Nat} (hG : M[ig]? = some ⟨0, Tp, EE [pp]⟩) {a : Nat} (ha : a < RR)  : Ct Tryd.prog 7 #[.int .i64 56, .agg (E a).toArray] M (Det (.bool true) M) := by
  refine ct_of (vs := [.int .i64 56, .agg (E a).toArray]) Tryd.func7 rfl Tryd.ntmps7 rfl fun w0 => ?_
  refine at_seq ?_
  refine at_region ?_
  refine at_n rfl rfl (opr_box (cs := EE [a]) rfl rfl (E_box _)) ?_
  intro g0
  refine at_d rfl rfl (opr_assign rfl rfl) ?_
  refine at_nil ?_
  refine at_then ?_
  refine at_seq ?_
  refine at_seq ?_
  refine at_region ?_
  refine at_d rfl rfl (opr_move rfl rfl) ?_
  refine at_d rfl rfl (opr_lssZ rfl rfl rfl (decide_eq_false (by omega))) ?_
  refine at_d rfl rfl (opr_move rfl rfl) ?_
  refine at_d rfl rfl (opr_move rfl rfl) ?_
  refine at_d rfl rfl (opr_gtrZ rfl rfl rfl (decide_eq_false (by omega))) ?_
  refine at_d rfl rfl (opr_pickE rfl rfl rfl) ?_
  refine at_nil ?_
  refine at_then ?_
  refine at_cond_false rfl ?_
  refine at_skip ?_
  refine at_then ?_
  refine at_seq ?_
  refine at_region ?_
  refine at_d rfl rfl (opr_move rfl rfl) ?_
  refine at_d rfl rfl (opr_load (i := 0) rfl rfl rfl Tryd.underlying22 rfl size22 (E_length _) (EE_at (k := 0) rfl rfl rfl)) ?_
  refine at_c rfl rfl (opr_call rfl rfl rfl Tryd.func32 (by kernel_rfl) rfl (iToBytesY_ct (ig := ig + 1) hG ha)) ?_
  rintro _ _ ⟨gq0, rfl, rfl⟩
  refine at_d rfl rfl (opr_move rfl rfl) ?_
  refine at_d rfl rfl (opr_extract rfl rfl rfl) ?_
  refine at_d rfl rfl (opr_extract rfl rfl rfl) ?_
  refine at_d rfl rfl (opr_assign rfl rfl) ?_
  refine at_d rfl rfl (opr_assign rfl rfl) ?_
  refine at_nil ?_
  refine at_then ?_
  refine at_seq ?_
  refine at_region ?_
  refine at_d rfl rfl (opr_load (i := 1) rfl rfl rfl Tryd.underlying22 rfl size22 (E_length _) (EE_at (k := 0) rfl rfl rfl)) ?_
  refine at_c rfl rfl (opr_call rfl rfl rfl Tryd.func32 (by kernel_rfl) rfl (iToBytesY_ct (ig := ig + 2) hG ha)) ?_
  rintro _ _ ⟨gq1, rfl, rfl⟩
  refine at_d rfl rfl (opr_move rfl rfl) ?_
  refine at_d rfl rfl (opr_extract rfl rfl rfl) ?_
  refine at_d rfl rfl (opr_extract rfl rfl rfl) ?_
  refine at_d rfl rfl (opr_assign rfl rfl) ?_
  refine at_d rfl rfl (opr_assign rfl rfl) ?_
  refine at_nil ?_
  refine at_then ?_
  refine at_seq ?_
  refine at_seq ?_
  refine at_region ?_
  refine at_d rfl rfl (opr_move rfl rfl) ?_
  refine at_d rfl rfl (opr_binOp (v := .bool false) rfl rfl rfl (fun _ => rfl)) ?_
  refine at_nil ?_
  refine at_then ?_
  refine at_cond_false rfl ?_
  refine at_skip ?_
  refine at_then ?_
  refine at_seq ?_
  refine at_region ?_
  refine at_d rfl rfl (opr_load (i := 2) rfl rfl rfl Tryd.underlying22 rfl size22 (E_length _) (EE_at (k := 0) rfl rfl rfl)) ?_
  refine at_d rfl rfl (opr_call rfl rfl rfl Tryd.func18 (by kernel_rfl) rfl (of_ct _)) ?_
  refine at_d rfl rfl (opr_call rfl rfl rfl Tryd.func17 (by kernel_rfl) rfl (mod_ct ha)) ?_
  refine at_d rfl rfl (opr_call rfl rfl rfl Tryd.func26 (by kernel_rfl) rfl (bytes_ct _)) ?_
  refine at_n rfl rfl (opr_alloc rfl zero22 rfl) ?_
  intro g1
  refine at_d rfl rfl (opr_store (i := 0) rfl rfl rfl rfl rfl size22 (E_length _) (by rw [EE_length]; exact Nat.le_of_ble_eq_true rfl) (E_flat _) (EE_set (k := 0) (Nat.le_of_ble_eq_true rfl) rfl)) ?_
  refine at_nil ?_
  refine at_then ?_
  refine at_seq ?_
  refine at_drawQ (by kernel_rfl) (by kernel_rfl) (List.cons_ne_nil _ _) ?_
  refine dr_op rfl rfl (opr_move rfl rfl) ?_
  refine dr_op rfl rfl (opr_move rfl rfl) ?_
  refine dr_op rfl rfl (opr_move rfl rfl) ?_
  refine dr_op rfl rfl (opr_strE (i := 2) rfl rfl Tryd.underlying38 Tryd.underlying5 Tryd.underlying9 rfl) ?_
  refine dr_op rfl rfl (opr_sliceAll rfl rfl Tryd.underlying22 rfl size5) ?_
  refine dr_op rfl rfl (opr_strE (i := 0) rfl rfl Tryd.underlying38 Tryd.underlying5 Tryd.underlying9 rfl) ?_
  refine dr_op rfl rfl (opr_eqlStr rfl rfl rfl Tryd.underlying9) ?_
  refine dr_op rfl rfl (opr_pickT rfl rfl rfl) ?_
  refine dr_last rfl rfl (opr_assign rfl rfl) ?_
  refine ⟨rfl, ?_⟩
  refine at_then ?_
  refine at_ret ?_
  refine done_of (res1 Tryd.results7 (res_tmp rfl)) ⟨rfl, rfl⟩ (by repeat (first | exact List.Sublist.refl _ | apply List.Sublist.cons))
theorem fnToBytesD_ct {M : Mem} {ig Tp : Nat} (hG : M[ig]? = some ⟨0, Tp, EE [pp]⟩) {a : Nat} (ha : a < RR) {n : Nat} (hn : n ≠ 56) (hm : n ≤ 100) : Ct Tryd.prog 7 #[.int .i64 (n : Int), .agg (E a).toArray] M (Det (.bool true) M) := by
  refine ct_of (vs := [.int .i64 (n : Int), .agg (E a).toArray]) Tryd.func7 rfl Tryd.ntmps7 rfl fun w0 => ?_
  refine at_seq ?_
  refine at_region ?_
  refine at_n rfl rfl (opr_box (cs := EE [a]) rfl rfl (E_box _)) ?_
  intro g0
  refine at_d rfl rfl (opr_assign rfl rfl) ?_
  refine at_nil ?_
  refine at_then ?_
  refine at_seq ?_
  refine at_seq ?_
  refine at_region ?_
  refine at_d rfl rfl (opr_move rfl rfl) ?_
  refine at_d rfl rfl (opr_lssZ rfl rfl rfl (decide_eq_false (by omega))) ?_
  refine at_d rfl rfl (opr_move rfl rfl) ?_
  refine at_d rfl rfl (opr_move rfl rfl) ?_
  refine at_d rfl rfl (opr_gtrZ rfl rfl rfl (decide_eq_false (by omega))) ?_
  refine at_d rfl rfl (opr_pickE rfl rfl rfl) ?_
  refine at_nil ?_
  refine at_then ?_
  refine at_cond_false rfl ?_
  refine at_skip ?_
  refine at_then ?_
  refine at_seq ?_
  refine at_region ?_
  refine at_d rfl rfl (opr_move rfl rfl) ?_
  refine at_d rfl rfl (opr_load (i := 0) rfl rfl rfl Tryd.underlying22 rfl size22 (E_length _) (EE_at (k := 0) rfl rfl rfl)) ?_
  refine at_d rfl rfl (opr_call rfl rfl rfl Tryd.func32 (by kernel_rfl) rfl (iToBytesN_ct (ig := ig + 1) hG hn hm)) ?_
  refine at_d rfl rfl (opr_move rfl rfl) ?_
  refine at_d rfl rfl (opr_extract rfl rfl rfl) ?_
  refine at_d rfl rfl (opr_extract rfl rfl rfl) ?_
  refine at_d rfl rfl (opr_assign rfl rfl) ?_
  refine at_d rfl rfl (opr_assign rfl rfl) ?_
  refine at_nil ?_
  refine at_then ?_
  refine at_seq ?_
  refine at_region ?_
  refine at_d rfl rfl (opr_load (i := 0) rfl rfl rfl Tryd.underlying22 rfl size22 (E_length _) (EE_at (k := 0) rfl rfl rfl)) ?_
  refine at_c rfl rfl (opr_call rfl rfl rfl Tryd.func32 (by kernel_rfl) rfl (iToBytesY_ct (ig := ig + 1) hG ha)) ?_
  rintro _ _ ⟨gq1, rfl, rfl⟩
  refine at_d rfl rfl (opr_move rfl rfl) ?_
  refine at_d rfl rfl (opr_extract rfl rfl rfl) ?_
  refine at_d rfl rfl (opr_extract rfl rfl rfl) ?_
  refine at_d rfl rfl (opr_assign rfl rfl) ?_
  refine at_d rfl rfl (opr_assign rfl rfl) ?_
  refine at_nil ?_
  refine at_then ?_
  refine at_seq ?_
  refine at_seq ?_
  refine at_region ?_
  refine at_d rfl rfl (opr_move rfl rfl) ?_
  refine at_d rfl rfl (opr_eq (opr_neq (a := n) (b := 56) rfl rfl rfl) (congrArg Value.bool (decide_eq_true hn))) ?_
  refine at_nil ?_
  refine at_then ?_
  refine at_cond_true rfl ?_
  refine at_seq ?_
  refine at_region ?_
  refine at_d rfl rfl (opr_move rfl rfl) ?_
  refine at_d rfl rfl (opr_unOp (u := .bool true) rfl rfl (fun _ => rfl)) ?_
  refine at_d rfl rfl (opr_move rfl rfl) ?_
  refine at_d rfl rfl (opr_move rfl rfl) ?_
  refine at_d rfl rfl (opr_pickT rfl rfl rfl) ?_
  refine at_d rfl rfl (opr_assign rfl rfl) ?_
  refine at_nil ?_
  refine at_then ?_
  refine at_ret ?_
  refine at_then_ret ?_
  refine done_of (res1 Tryd.results7 (res_tmp rfl)) ⟨rfl, rfl⟩ (by repeat (first | exact List.Sublist.refl _ | apply List.Sublist.cons))
theorem fnToBytes_ct {M : Mem} {ig Tp : Nat} (hG : M[ig]? = some ⟨0, Tp, EE [pp]⟩) {n : Int} {a : Nat} (ha : a < RR) : Ct Tryd.prog 7 #[.int .i64 n, .agg (E a).toArray] M (Det (.bool true) M) := by
  by_cases h0 : n < 0
  · exact fnToBytesA_ct hG ha h0
  · by_cases h1 : 100 < n
    · exact fnToBytesB_ct hG ha h1
    · obtain ⟨m, rfl⟩ : ∃ m : Nat, n = (m : Int) := ⟨n.toNat, by omega⟩
      by_cases h2 : m = 56
      · subst h2; exact fnToBytesC_ct hG ha
      · exact fnToBytesD_ct hG ha h2 (by omega)
end Go.Proofs.YtjnnogmlfepenaaDoor
