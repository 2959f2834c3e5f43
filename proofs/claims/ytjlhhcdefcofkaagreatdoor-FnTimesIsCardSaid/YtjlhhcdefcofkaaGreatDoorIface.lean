/- Laws of operations: slices that are made, interfaces, strings. -/
import Derived.Test.YtjlhhcdefcofkaaGreatDoorLaws4
import Derived.Test.YtjlhhcdefcofkaaGreatDoorCopyA
namespace Go.Proofs.YtjlhhcdefcofkaaGreatDoor
open Go
theorem opr_makeSlice {P : Program} {St : Slots} {M : Mem} {o : Oper} {T e : Nat} {x y : Operand} {n : Nat} {cs : List Value} (ho : o.op = .makeSlice T x y) (hx : evalS St x = some (.int .i64 (n : Int))) (hy : evalS St y = some (.int .i64 (n : Int))) (ht : P.underlying T = some (.slice e)) (hi' : (P.info? e).map (fun i => (i.bytes, i.size, i.zero)) = some (1, 1, some (.int .u8 0))) (hn : n ≤ 100) (hcs : List.replicate n (Value.int .u8 0) = cs) :
    OpR P St M o (fun v M' => ∃ g, v = .slice (some ⟨g, 0, none⟩) n n ∧ M' = ⟨g, e, cs⟩ :: M) := by
  obtain ⟨i, hi, h3⟩ := Option.map_eq_some_iff.1 hi'
  simp only [Prod.mk.injEq] at h3
  obtain ⟨hb, hs, hz⟩ := h3
  intro ρ w0 S w hρ hw
  have hr := run_makeSlice (P := P) (w := w) T e i (.int .u8 0) ht hi hz .i64 .i64 (n : Int) (n : Int) (by omega) (Int.le_refl _) (by rw [hs]; omega) (by rw [hb]; omega) (by omega)
  have hc : madeCells (Value.int .u8 0).cells ((n : Int).toNat * i.size) = cs.toArray := by
    rw [hs, show (Value.int .u8 0).cells = #[.int .u8 0] from rfl, Int.toNat_natCast, Nat.mul_one, ← hcs]
    apply Array.ext_getElem?
    intro j
    simp only [madeCells, Array.getElem?_map, Array.getElem?_range, List.getElem?_toArray, List.getElem?_replicate]
    by_cases hj : j < n
    · simp [hj, Nat.mod_one]
    · simp [hj]
  rw [hc] at hr
  have : (execOp ρ o).run P w = .ok (.value (.slice (some ⟨w.heap.size, 0, none⟩) n n)) (w.alloc (.cells cs.toArray e)) := by
    simp only [execOp, ho, hρ _ _ hx, hρ _ _ hy, Sem.run_bind, hr, Result.andThen_ok, Sem.run_pure, Int.toNat_natCast]
  rw [this]
  exact ⟨_, ⟨_, rfl, rfl⟩, hw.alloc e cs⟩
theorem opr_makeInterface {P : Program} {St : Slots} {M : Mem} {o : Oper} {X : Nat} {x : Operand} {v : Value} {d : TypeDesc} (ho : o.op = .makeInterface X x) (hx : evalS St x = some v) (hu : P.underlying X = some d) (hd : (match d with | .interface _ => true | _ => false) = false) : OpR P St M o (Det (.iface X v) M) :=
  opr_value fun ρ w0 S w hρ hw => by
    have : (Instr.makeInterface X v).run P w = .ok (.iface X v) w := by
      unfold Instr.makeInterface
      rw [Sem.run_bind, run_underlying hu w]
      cases d <;> simp_all [Sem.run_pure]
    simp only [execOp, ho, hρ _ _ hx, Sem.run_bind, this, Result.andThen_ok, Sem.run_pure]
theorem opr_neqHeld {P : Program} {St : Slots} {M : Mem} {o : Oper} {T T' X : Nat} {x : Operand} {v : Value} (ho : o.op = .binOp .neq T x (.const .nilIface) T') (hx : evalS St x = some (.iface X v)) (h : P.underlying T = some (.interface (P.methodsAt T))) : OpR P St M o (Det (.bool true) M) :=
  opr_value fun ρ w0 S w hρ hw => by
    have hy : ρ (.const .nilIface) = .nilIface := hρ _ _ rfl
    have hg : (eqGuard .neq T x (.const .nilIface) (.iface X v) .nilIface).run P w = .ok () w := rfl
    have hb := run_neq_held_nil (P := P) w T X v h
    simp only [execOp, ho, hρ _ _ hx, hy, Sem.run_bind, hg, hb, Result.andThen_ok, Sem.run_pure]
theorem opr_neqNil {P : Program} {St : Slots} {M : Mem} {o : Oper} {T T' : Nat} {x : Operand} (ho : o.op = .binOp .neq T x (.const .nilIface) T') (hx : evalS St x = some .nilIface) (h : P.underlying T = some (.interface (P.methodsAt T))) : OpR P St M o (Det (.bool false) M) :=
  opr_value fun ρ w0 S w hρ hw => by
    have hy : ρ (.const .nilIface) = .nilIface := hρ _ _ rfl
    have hg : (eqGuard .neq T x (.const .nilIface) .nilIface .nilIface).run P w = .ok () w := by
      cases x <;> rfl
    have hb := run_neq_nil_nil (P := P) w T h
    simp only [execOp, ho, hρ _ _ hx, hy, Sem.run_bind, hg, hb, Result.andThen_ok, Sem.run_pure]
/-- An element's bytes as a string. -/
def strE (a : Nat) : ByteArray := ((digs 256 56 a).map fun d : Nat => (d : Int)).foldl (fun r n => r.push (UInt8.ofNat n.toNat)) ByteArray.empty
theorem opr_strE {P : Program} {St : Slots} {M : Mem} {o : Oper} {S' D e : Nat} {x : Operand} {i g T a c : Nat} (ho : o.op = .convert S' D x) (hx : evalS St x = some (.slice (some ⟨g, 0, none⟩) 56 c)) (hs : P.underlying S' = some (.slice e)) (he : P.underlying e = some (.int .u8)) (hd : P.underlying D = some .string) (hb : M[i]? = some ⟨g, T, EE [a]⟩) : OpR P St M o (Det (.string (strE a)) M) :=
  opr_value fun ρ w0 S w hρ hw => by
    have hl := run_loadCells_list (P := P) (w := w) ⟨g, 0, none⟩ (((digs 256 56 a).map fun d : Nat => (d : Int)).map (Value.int .u8)) (fun j v hj => by
      have hadd : (⟨g, 0, none⟩ : Addr).add j = ⟨g, j, none⟩ := by unfold Addr.add; split <;> simp_all
      rw [hadd, cell_at hw hb j, EE_one, E, u8V_map]; exact hj)
    rw [List.length_map, List.length_map, digs_length] at hl
    have hc := (run_convert_bytes_string (P := P) w S' D e (some ⟨g, 0, none⟩) 56 c hs he hd).trans (run_bytesToString w ⟨g, 0, none⟩ 56 c _ hl)
    simp only [execOp, ho, hρ _ _ hx, Sem.run_bind, hc, Result.andThen_ok, Sem.run_pure]
    rfl
theorem opr_eqlStr {P : Program} {St : Slots} {M : Mem} {o : Oper} {T T' : Nat} {x y : Operand} {s : ByteArray} (ho : o.op = .binOp .eql T x y T') (hx : evalS St x = some (.string s)) (hy : evalS St y = some (.string s)) (hu : P.underlying T = some .string) : OpR P St M o (Det (.bool true) M) :=
  opr_value fun ρ w0 S w hρ hw => by
    have hg : (eqGuard .eql T x y (.string s) (.string s)).run P w = .ok () w := rfl
    have hb : (binOp .eql T (.string s) (.string s)).run P w = .ok (.bool true) w := by
      simp [binOp, Op.stringOp]
    simp only [execOp, ho, hρ _ _ hx, hρ _ _ hy, Sem.run_bind, hg, hb, Result.andThen_ok, Sem.run_pure]
theorem opr_lssZ {P : Program} {St : Slots} {M : Mem} {o : Oper} {T T' : Nat} {x y : Operand} {a b : Int} {t : Bool} (ho : o.op = .binOp .lss T x y T') (hx : evalS St x = some (.int .i64 a)) (hy : evalS St y = some (.int .i64 b)) (ht : decide (a < b) = t) : OpR P St M o (Det (.bool t) M) :=
  ht ▸ opr_binOp (P := P) (M := M) (v := .bool (decide (a < b))) ho hx hy (fun w => by simp only [binOp, Op.intCmp, ne_eq, not_true_eq_false, if_false, Sem.run_pure])
theorem opr_gtrZ {P : Program} {St : Slots} {M : Mem} {o : Oper} {T T' : Nat} {x y : Operand} {a b : Int} {t : Bool} (ho : o.op = .binOp .gtr T x y T') (hx : evalS St x = some (.int .i64 a)) (hy : evalS St y = some (.int .i64 b)) (ht : decide (a > b) = t) : OpR P St M o (Det (.bool t) M) :=
  ht ▸ opr_binOp (P := P) (M := M) (v := .bool (decide (a > b))) ho hx hy (fun w => by simp only [binOp, Op.intCmp, ne_eq, not_true_eq_false, if_false, Sem.run_pure])
theorem opr_pickE {P : Program} {St : Slots} {M : Mem} {o : Oper} {c x y : Operand} {u : Value} (ho : o.op = .pick c x y) (hc : evalS St c = some (.bool false)) (hy : evalS St y = some u) : OpR P St M o (Det u M) :=
  opr_value fun ρ w0 S w hρ hw => by
    simp only [execOp, ho, hρ _ _ hc, hρ _ _ hy, asBool, Sem.run_bind, Sem.run_pure, Result.andThen_ok]
    rfl
theorem opr_pickY {P : Program} {St : Slots} {M : Mem} {o : Oper} {c x y : Operand} {u : Value} (ho : o.op = .pick c x y) (hc : evalS St c = some (.bool true)) (hx : evalS St x = some u) : OpR P St M o (Det u M) :=
  opr_value fun ρ w0 S w hρ hw => by
    simp only [execOp, ho, hρ _ _ hc, hρ _ _ hx, asBool, Sem.run_bind, Sem.run_pure, Result.andThen_ok]
    rfl
end Go.Proofs.YtjlhhcdefcofkaaGreatDoor
