/- Laws of operations: slice literals of elements, structures of elements held against each other, choices. -/
import Derived.Test.YtjlhhcdefcofkaaGreatDoorFill
import Derived.Test.YtjlhhcdefcofkaaGreatDoorLaws4
import Derived.Great.BuildSlice
namespace Go.Proofs.YtjlhhcdefcofkaaGreatDoor
open Go
section
variable {P : Program} {St : Slots} {M : Mem} {o : Oper} {x y : Operand} {T T' : Nat}
theorem opr_pickN {c : Operand} {u : Value} (ho : o.op = .pick c x y) (hc : evalS St c = some (.bool false)) (hy : evalS St y = some u) : OpR P St M o (Det u M) :=
  opr_value fun ρ w0 S w hρ hw => by
    simp only [execOp, ho, hρ _ _ hc, hρ _ _ hy, asBool, Sem.run_bind, Sem.run_pure, Result.andThen_ok]
    rfl
theorem opr_eqlNb {B : Nat} {a b : Nat} {t : Bool} (ho : o.op = .binOp .eql T x y T') (hx : evalS St x = some (.agg (N a).toArray)) (hy : evalS St y = some (.agg (N b).toArray)) (hu : P.underlying T = some (.array 28 B)) (he : P.underlying B = some (.int .u64)) (hs : (P.info? B).map (·.size) = some 1)
    (hq : P.eqGuardType P.depth T = false) (ha : a < RR) (hb : b < RR) (ht : decide (a = b) = t) : OpR P St M o (Det (.bool t) M) :=
  ht ▸ opr_eqlN ho hx hy hu he hs hq ha hb
theorem opr_eqlEb {B : Nat} {a b : Nat} {t : Bool} (ho : o.op = .binOp .eql T x y T') (hx : evalS St x = some (.agg (E a).toArray)) (hy : evalS St y = some (.agg (E b).toArray)) (hu : P.underlying T = some (.array 56 B)) (he : P.underlying B = some (.int .u8)) (hs : (P.info? B).map (·.size) = some 1)
    (hq : P.eqGuardType P.depth T = false) (ha : a < RR) (hb : b < RR) (ht : decide (a = b) = t) : OpR P St M o (Det (.bool t) M) :=
  ht ▸ opr_eqlE ho hx hy hu he hs hq ha hb
theorem opr_eqlBb {p q t : Bool} (ho : o.op = .binOp .eql T x y T') (hx : evalS St x = some (.bool p)) (hy : evalS St y = some (.bool q)) (hu : P.underlying T = some .bool) (ht : (p == q) = t) : OpR P St M o (Det (.bool t) M) :=
  ht ▸ opr_eqlB ho hx hy hu
theorem run_equalIn_held {X d : Nat} {v : Value} {w : World} {m : Array (String × TypeId)} (h : P.underlying T = some (.interface m)) : (Op.equalIn (d + 1) T (.iface X v) .nilIface).run P w = .ok false w := by
  rw [Op.equalIn]
  simp [Sem.run_bind, run_underlying h]
theorem run_equalIn_nil {d : Nat} {w : World} {m : Array (String × TypeId)} (h : P.underlying T = some (.interface m)) : (Op.equalIn (d + 1) T .nilIface .nilIface).run P w = .ok true w := by
  rw [Op.equalIn]
  simp [Sem.run_bind, run_underlying h]
theorem opr_eqlHeld {X : Nat} {v : Value} (ho : o.op = .binOp .eql T x (.const .nilIface) T') (hx : evalS St x = some (.iface X v)) (h : P.underlying T = some (.interface (P.methodsAt T))) : OpR P St M o (Det (.bool false) M) :=
  opr_value fun ρ w0 S w hρ hw => by
    have hy : ρ (.const .nilIface) = .nilIface := hρ _ _ rfl
    have hg : (eqGuard .eql T x (.const .nilIface) (.iface X v) .nilIface).run P w = .ok () w := rfl
    have hb : (binOp .eql T (.iface X v) .nilIface).run P w = .ok (.bool false) w := by
      have := run_equalIn_held (P := P) (d := 9999) (X := X) (v := v) (w := w) h
      simp only [binOp, Op.equal, Op.maxDepth, Sem.run_bind, this, Result.andThen_ok, Sem.run_pure]
    simp only [execOp, ho, hρ _ _ hx, hy, Sem.run_bind, hg, hb, Result.andThen_ok, Sem.run_pure]
theorem opr_eqlNil (ho : o.op = .binOp .eql T x (.const .nilIface) T') (hx : evalS St x = some .nilIface) (h : P.underlying T = some (.interface (P.methodsAt T))) : OpR P St M o (Det (.bool true) M) :=
  opr_value fun ρ w0 S w hρ hw => by
    have hy : ρ (.const .nilIface) = .nilIface := hρ _ _ rfl
    have hg : (eqGuard .eql T x (.const .nilIface) .nilIface .nilIface).run P w = .ok () w := by
      cases x <;> rfl
    have hb : (binOp .eql T .nilIface .nilIface).run P w = .ok (.bool true) w := by
      have := run_equalIn_nil (P := P) (d := 9999) (w := w) h
      simp only [binOp, Op.equal, Op.maxDepth, Sem.run_bind, this, Result.andThen_ok, Sem.run_pure]
    simp only [execOp, ho, hρ _ _ hx, hy, Sem.run_bind, hg, hb, Result.andThen_ok, Sem.run_pure]
/-- A structure of two arrays of bytes against itself. -/
theorem run_equal_self {k : IntKind} {e n d : Nat} (ht : P.underlying T = some (.array n e)) (he : P.underlying e = some (.int k)) (hs : (P.info? e).map (·.size) = some 1) (l : List Int) (hl : l.length = n) (w : World) :
    (Op.equalIn (d + 2) T (.agg (l.map (Value.int k)).toArray) (.agg (l.map (Value.int k)).toArray)).run P w = .ok true w := by
  rw [run_equalIn_ints d T e n k ht he hs l l hl hl w, decide_eq_true rfl]
theorem run_partE {e a : Nat} {l : List Nat} {j off : Nat} {w : World} (ht : P.underlying T = some (.array 56 e)) (hs : (P.info? T).map (·.size) = some 56) (hj : l[j]? = some a) (ho : 56 * j = off) : (part T (EE l).toArray off).run P w = .ok (.agg (E a).toArray) w := by
  obtain ⟨i, hi, hs'⟩ := Option.map_eq_some_iff.1 hs
  have h1 := EE_at (n := 56) hj ho rfl
  have hagg : (isAgg T).run P w = .ok true w := by
    unfold isAgg
    rw [Sem.run_bind, run_underlying ht w]; rfl
  have h2 : (EE l).toArray.extract off (off + 56) = (E a).toArray := by
    rw [← h1]
    simp [List.extract_eq_take_drop]
  simp only [part, Sem.run_bind, hagg, Result.andThen_ok, if_true, sizeOf, typeInfo, run_program, hi, hs', Sem.run_pure, h2]
theorem run_equalIn_pt {e d : Nat} {f1 f2 : Field} {xs ys : Array Value} {x1 x2 y1 y2 : Value} {w : World} (hu : P.underlying T = some (.struct #[f1, f2])) (hst : P.stoodInHeld T = false) (n1 : f1.name ≠ "_") (t1 : f1.type = e) (n2 : f2.name ≠ "_") (t2 : f2.type = e)
    (p1 : (part e xs f1.offset).run P w = .ok x1 w) (q1 : (part e ys f1.offset).run P w = .ok y1 w) (p2 : (part e xs f2.offset).run P w = .ok x2 w) (q2 : (part e ys f2.offset).run P w = .ok y2 w) (e1 : (Op.equalIn d e x1 y1).run P w = .ok true w) (e2 : (Op.equalIn d e x2 y2).run P w = .ok true w) :
    (Op.equalIn (d + 1) T (.agg xs) (.agg ys)).run P w = .ok true w := by
  rw [Op.equalIn]
  simp [Sem.run_bind, run_underlying hu, hst, n1, n2, t1, t2, p1, p2, q1, q2, e1, e2]
theorem opr_eqlPt {e B : Nat} {f1 f2 : Field} {a b c d : Nat} (ho : o.op = .binOp .eql T x y T') (hx : evalS St x = some (.agg (EE [a, b]).toArray)) (hy : evalS St y = some (.agg (EE [c, d]).toArray)) (hu : P.underlying T = some (.struct #[f1, f2])) (h1 : (f1.name != "_" && f1.type == e && f1.offset == 0) = true) (h2 : (f2.name != "_" && f2.type == e && f2.offset == 56) = true) (ht : P.underlying e = some (.array 56 B)) (hse : (P.info? e).map (·.size) = some 56) (he : P.underlying B = some (.int .u8)) (hs : (P.info? B).map (·.size) = some 1)
    (hq : P.eqGuardType P.depth T = false) (hst : P.stoodInHeld T = false) (hac : a = c) (hbd : b = d) : OpR P St M o (Det (.bool true) M) :=
  opr_value fun ρ w0 S w hρ hw => by
    subst hac hbd
    simp only [Bool.and_eq_true, beq_iff_eq, bne_iff_ne] at h1 h2
    obtain ⟨⟨n1, t1⟩, o1⟩ := h1
    obtain ⟨⟨n2, t2⟩, o2⟩ := h2
    have hg : (eqGuard .eql T x y (.agg (EE [a, b]).toArray) (.agg (EE [a, b]).toArray)).run P w = .ok () w := by
      simp [eqGuard, hq]
    have p1 : (part e (EE [a, b]).toArray 0).run P w = .ok (.agg (E a).toArray) w := run_partE (j := 0) ht hse rfl rfl
    have p2 : (part e (EE [a, b]).toArray 56).run P w = .ok (.agg (E b).toArray) w := run_partE (j := 1) ht hse rfl rfl
    have q : ∀ z, (Op.equalIn 9999 e (.agg (E z).toArray) (.agg (E z).toArray)).run P w = .ok true w := by
      intro z
      have := run_equal_self (P := P) (d := 9997) ht he hs ((digs 256 56 z).map fun d : Nat => (d : Int)) (by simp [digs_length]) w
      rw [E, u8V_map]; exact this
    have hb : (binOp .eql T (.agg (EE [a, b]).toArray) (.agg (EE [a, b]).toArray)).run P w = .ok (.bool true) w := by
      have := run_equalIn_pt (P := P) (d := 9999) (w := w) hu hst n1 t1 n2 t2 (o1 ▸ p1) (o1 ▸ p1) (o2 ▸ p2) (o2 ▸ p2) (q a) (q b)
      simp only [binOp, Op.equal, Op.maxDepth, Sem.run_bind, this, Result.andThen_ok, Sem.run_pure]
    simp only [execOp, ho, hρ _ _ hx, hρ _ _ hy, Sem.run_bind, hg, hb, Result.andThen_ok, Sem.run_pure]
theorem opr_buildSlice {e n s : Nat} {ps : List (Nat × Operand)} {vs : List (Nat × Value)} {zs cs : List Value} (ho : o.op = .buildSlice T n ps.toArray) (hps : evalP St ps = some vs) (hu : P.underlying T = some (.slice e)) (hi' : (P.info? e).map (fun i => (i.size, i.zero)) = some (s, some (.agg zs.toArray))) (hsm : ¬ n * s > 2 ^ 24) (hpos : ¬ n * s = 0)
    (hz : ((Array.range (n * s)).map (zs.toArray[· % zs.toArray.size]!)).toList = cs) {ds : List Value} (h : Instr.fill (fun i => some (i * s, s)) cs.toArray vs = some ds.toArray) :
    OpR P St M o (fun v M' => ∃ g, v = .slice (some ⟨g, 0, none⟩) n n ∧ M' = ⟨g, e, ds⟩ :: M) := by
  obtain ⟨i, hi, h3⟩ := Option.map_eq_some_iff.1 hi'
  simp only [Prod.mk.injEq] at h3
  obtain ⟨hs, hzz⟩ := h3
  subst hs
  intro ρ w0 S w hρ hw
  have e0 : (ps.toArray.map fun (i, x) => (i, ρ x)) = vs.toArray := by
    rw [List.map_toArray]; exact congrArg _ (evalP_map hρ _ _ hps)
  have hr := run_buildSlice (P := P) w T e n vs.toArray ds.toArray i (.agg zs.toArray) hu hi hzz hsm hpos (by
    have e1 : (Array.range (n * i.size)).map ((Value.agg zs.toArray).cells[· % (Value.agg zs.toArray).cells.size]!) = cs.toArray := by
      rw [← hz]; rfl
    rw [e1]; exact h)
  have : (execOp ρ o).run P w = .ok (.value (.slice (some ⟨w.heap.size, 0, none⟩) n n)) (w.alloc (.cells ds.toArray e)) := by
    simp only [execOp, ho, e0, Sem.run_bind, hr, Result.andThen_ok, Sem.run_pure]
  rw [this]
  exact ⟨_, ⟨_, rfl, rfl⟩, hw.alloc e ds⟩
end
theorem fill_pairs {place : Nat → Option (Nat × Nat)} : ∀ (parts : List (Nat × Nat × Nat)) (l : List Nat), (parts.all fun p => decide (2 * p.1 + 1 < l.length) && decide (place p.1 = some (56 * (2 * p.1), 112))) = true →
    Instr.fill place (EE l).toArray (parts.map fun p => (p.1, .agg (EE [p.2.1, p.2.2]).toArray)) = some (EE (parts.foldl (fun l p => (l.set (2 * p.1) p.2.1).set (2 * p.1 + 1) p.2.2) l)).toArray
  | [], l, _ => rfl
  | (k, a, b) :: r, l, h => by
    simp only [List.all_cons, Bool.and_eq_true, decide_eq_true_eq] at h
    obtain ⟨⟨h1, h2⟩, h3⟩ := h
    have hs : splice (EE l) (56 * (2 * k)) (EE [a, b]) = EE ((l.set (2 * k) a).set (2 * k + 1) b) := by
      have e1 : EE ((l.set (2 * k) a).set (2 * k + 1) b) = splice (splice (EE l) (56 * (2 * k)) (E a)) (56 * (2 * k + 1)) (E b) := by
        rw [EE_set (by omega) rfl, EE_set (by simp; omega) rfl]
      rw [e1]
      have l1 : (EE [a, b]).length = 112 := by rw [EE_length]; rfl
      have l2 : EE [a, b] = E a ++ E b := by simp [EE]
      simp only [splice, l1, E_length]
      have hl : (EE l).length = 56 * l.length := EE_length l
      have t1 : (List.take (56 * (2 * k)) (EE l)).length = 56 * (2 * k) := by simp [hl]; omega
      rw [l2]
      have q1 : List.take (56 * (2 * k + 1)) (List.take (56 * (2 * k)) (EE l) ++ E a ++ List.drop (56 * (2 * k) + 56) (EE l)) = List.take (56 * (2 * k)) (EE l) ++ E a := by
        rw [List.take_append_of_le_length (by simp [hl, E_length]; omega), List.take_of_length_le (by simp [hl, E_length]; omega)]
      have q2 : List.drop (56 * (2 * k + 1) + 56) (List.take (56 * (2 * k)) (EE l) ++ E a ++ List.drop (56 * (2 * k) + 56) (EE l)) = List.drop (56 * (2 * k) + 112) (EE l) := by
        rw [List.drop_append, List.drop_of_length_le (by simp [hl, E_length]; omega), List.nil_append, List.drop_drop]
        congr 1
        simp [hl, E_length]
        omega
      rw [q1, q2, List.append_assoc, List.append_assoc, List.append_assoc, List.append_assoc]
    rw [List.map_cons, fill_cons (vs := EE [a, b]) (off := 56 * (2 * k)) rfl (by rw [h2, EE_length]; rfl) (by rw [EE_length, EE_length]; simp; omega), hs, List.foldl_cons]
    exact fill_pairs r _ (by simpa [List.length_set] using h3)
theorem set_same {M : Mem} {i : Nat} {b : Blk} (h : M[i]? = some b) : M.set i b = M := by
  obtain ⟨h1, h2⟩ := List.getElem?_eq_some_iff.1 h
  rw [← h2]; exact List.set_getElem_self h1
theorem set_self {l : List Nat} {k a : Nat} (h : l[k]? = some a) : l.set k a = l := by
  obtain ⟨h1, h2⟩ := List.getElem?_eq_some_iff.1 h
  rw [← h2]; exact List.set_getElem_self h1
end Go.Proofs.YtjlhhcdefcofkaaGreatDoor
