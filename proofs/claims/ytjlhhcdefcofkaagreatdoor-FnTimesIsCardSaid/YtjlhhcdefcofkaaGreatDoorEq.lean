/- Arrays of integers held against each other. -/
import Derived.Test.YtjlhhcdefcofkaaGreatDoorSpecPlain
namespace Go.Proofs.YtjlhhcdefcofkaaGreatDoor
open Go
theorem run_part1 {P : Program} {e j : Nat} {k : IntKind} {cs : List Value} {v : Value} (he : P.underlying e = some (.int k)) (h : cs[j]? = some v) (w : World) : (part e cs.toArray j).run P w = .ok v w := by
  have hagg : (isAgg e).run P w = .ok false w := by
    unfold isAgg
    rw [Sem.run_bind, run_underlying he w]; rfl
  simp only [part, Sem.run_bind, hagg, Result.andThen_ok, Bool.false_eq_true, if_false, List.getElem?_toArray, h, Sem.run_pure]
theorem run_eqLoop {P : Program} (l m : List Int) (w : World) (B : Nat → Option Bool × Unit → Sem (ForInStep (Option Bool × Unit)))
    (hB : ∀ j x y s, l[j]? = some x → m[j]? = some y → (B j s).run P w = .ok (if x = y then ForInStep.yield (none, ()) else ForInStep.done (some false, ())) w) :
    ∀ (r j : Nat), j + r = l.length → l.length = m.length →
    (forIn (List.range' j r) ((none, ()) : Option Bool × Unit) B).run P w = .ok (if l.drop j = m.drop j then (none, ()) else (some false, ())) w := by
  intro r
  induction r with
  | zero =>
    intro j hj hlm
    rw [List.drop_of_length_le (by omega), List.drop_of_length_le (by omega)]
    simp
  | succ r ih =>
    intro j hj hlm
    have h1 : j < l.length := by omega
    have h2 : j < m.length := by omega
    have e1 := List.getElem?_eq_getElem h1
    have e2 := List.getElem?_eq_getElem h2
    rw [List.range'_succ, List.forIn_cons, Sem.run_bind, hB j _ _ _ e1 e2, Result.andThen_ok]
    rw [List.drop_eq_getElem_cons h1, List.drop_eq_getElem_cons h2]
    by_cases hxy : l[j] = m[j]
    · rw [if_pos hxy]
      simp only [ih (j + 1) (by omega) hlm, hxy, List.cons.injEq, true_and]
    · rw [if_neg hxy, if_neg (fun h => hxy (List.cons.inj h).1)]
      rfl
theorem run_equalIn_ints {P : Program} (d t e n : Nat) (k : IntKind) (ht : P.underlying t = some (.array n e)) (he : P.underlying e = some (.int k)) (hs : (P.info? e).map (·.size) = some 1)
    (l m : List Int) (hl : l.length = n) (hm : m.length = n) (w : World) : (Op.equalIn (d + 2) t (.agg (l.map (Value.int k)).toArray) (.agg (m.map (Value.int k)).toArray)).run P w = .ok (decide (l = m)) w := by
  obtain ⟨i, hi, hs'⟩ := Option.map_eq_some_iff.1 hs
  rw [Op.equalIn]
  simp only [Sem.run_bind, run_underlying ht, Result.andThen_ok, sizeOf, typeInfo, run_program, hi, hs', Sem.run_pure, Std.Legacy.Range.forIn_eq_forIn_range', Std.Legacy.Range.size, Nat.sub_zero, Nat.add_sub_cancel, Nat.div_one, Nat.mul_one]
  have h := run_eqLoop (P := P) l m w (fun i __s => do
            let __do_lift ← part e (List.map (Value.int k) l).toArray i
            let __do_lift_1 ← part e (List.map (Value.int k) m).toArray i
            let __do_lift ← Op.equalIn (d + 1) e __do_lift __do_lift_1
            if (!__do_lift) = true then pure (ForInStep.done (some false, ())) else pure (ForInStep.yield (none, ()))) (by
    intro j x y s hx hy
    have p1 := run_part1 (P := P) (j := j) (cs := l.map (Value.int k)) (v := .int k x) he (by simp [hx]) w
    have p2 := run_part1 (P := P) (j := j) (cs := m.map (Value.int k)) (v := .int k y) he (by simp [hy]) w
    have p3 : (Op.equalIn (d + 1) e (.int k x) (.int k y)).run P w = .ok (x == y) w := by simp [Op.equalIn, run_underlying he]
    simp only [Sem.run_bind, p1, p2, p3, Result.andThen_ok]
    by_cases hxy : x = y
    · simp [hxy]
    · simp [hxy]) n 0 (by omega) (by omega)
  rw [h]
  by_cases hlm : l = m
  · simp [hlm]
  · simp [hlm]
theorem opr_eqlArr {P : Program} {St : Slots} {M : Mem} {o : Oper} {x y : Operand} {T T' E n : Nat} {k : IntKind} {l m : List Int} (ho : o.op = .binOp .eql T x y T') (hx : evalS St x = some (.agg (l.map (Value.int k)).toArray)) (hy : evalS St y = some (.agg (m.map (Value.int k)).toArray))
    (hu : P.underlying T = some (.array n E)) (he : P.underlying E = some (.int k)) (hs : (P.info? E).map (·.size) = some 1) (hl : l.length = n) (hm : m.length = n) (hq : P.eqGuardType P.depth T = false) : OpR P St M o (Det (.bool (decide (l = m))) M) :=
  opr_value fun ρ w0 S w hρ hw => by
    have hg : (eqGuard .eql T x y (.agg (l.map (Value.int k)).toArray) (.agg (m.map (Value.int k)).toArray)).run P w = .ok () w := by
      simp [eqGuard, hq]
    have hb : (binOp .eql T (.agg (l.map (Value.int k)).toArray) (.agg (m.map (Value.int k)).toArray)).run P w = .ok (.bool (decide (l = m))) w := by
      have := run_equalIn_ints (P := P) 9998 T E n k hu he hs l m hl hm w
      simp only [binOp, Op.equal, Op.maxDepth, Sem.run_bind, this, Result.andThen_ok, Sem.run_pure]
    simp only [execOp, ho, hρ _ _ hx, hρ _ _ hy, Sem.run_bind, hg, hb, Result.andThen_ok, Sem.run_pure]
theorem opr_neqArr {P : Program} {St : Slots} {M : Mem} {o : Oper} {x y : Operand} {T T' E n : Nat} {k : IntKind} {l m : List Int} (ho : o.op = .binOp .neq T x y T') (hx : evalS St x = some (.agg (l.map (Value.int k)).toArray)) (hy : evalS St y = some (.agg (m.map (Value.int k)).toArray))
    (hu : P.underlying T = some (.array n E)) (he : P.underlying E = some (.int k)) (hs : (P.info? E).map (·.size) = some 1) (hl : l.length = n) (hm : m.length = n) (hq : P.eqGuardType P.depth T = false) : OpR P St M o (Det (.bool (!decide (l = m))) M) :=
  opr_value fun ρ w0 S w hρ hw => by
    have hg : (eqGuard .neq T x y (.agg (l.map (Value.int k)).toArray) (.agg (m.map (Value.int k)).toArray)).run P w = .ok () w := by
      simp [eqGuard, hq]
    have hb : (binOp .neq T (.agg (l.map (Value.int k)).toArray) (.agg (m.map (Value.int k)).toArray)).run P w = .ok (.bool (!decide (l = m))) w := by
      have := run_equalIn_ints (P := P) 9998 T E n k hu he hs l m hl hm w
      simp only [binOp, Op.equal, Op.maxDepth, Sem.run_bind, this, Result.andThen_ok, Sem.run_pure]
    simp only [execOp, ho, hρ _ _ hx, hρ _ _ hy, Sem.run_bind, hg, hb, Result.andThen_ok, Sem.run_pure]

theorem u8V_map (l : List Nat) : l.map u8V = (l.map fun d : Nat => (d : Int)).map (Value.int .u8) := by rw [List.map_map]; rfl
theorem u64V_map (l : List Nat) : l.map u64V = (l.map fun d : Nat => (d : Int)).map (Value.int .u64) := by rw [List.map_map]; rfl
theorem cast_inj {l m : List Nat} (h : l.map (fun d : Nat => (d : Int)) = m.map (fun d : Nat => (d : Int))) : l = m := by
  have h2 := congrArg (List.map Int.toNat) h
  simpa [List.map_map, Function.comp_def] using h2
theorem E_eq {a b : Nat} (ha : a < RR) (hb : b < RR) : decide ((digs 256 56 a).map (fun d : Nat => (d : Int)) = (digs 256 56 b).map (fun d : Nat => (d : Int))) = decide (a = b) := by
  have h56 : (256 : Nat) ^ 56 = RR := by decide +kernel
  rw [Bool.eq_iff_iff]
  simp only [decide_eq_true_eq]
  exact ⟨fun h => digs_inj (cast_inj h) (by rw [h56]; exact ha) (by rw [h56]; exact hb), fun h => by rw [h]⟩
theorem N_eq {a b : Nat} (ha : a < RR) (hb : b < RR) : decide ((digs 65536 28 a).map (fun d : Nat => (d : Int)) = (digs 65536 28 b).map (fun d : Nat => (d : Int))) = decide (a = b) := by
  rw [Bool.eq_iff_iff]
  simp only [decide_eq_true_eq]
  exact ⟨fun h => digs_inj (cast_inj h) (by rw [RR_pow]; exact ha) (by rw [RR_pow]; exact hb), fun h => by rw [h]⟩
section
variable {P : Program} {St : Slots} {M : Mem} {o : Oper} {x y : Operand} {T T' B : Nat} {a b : Nat}
theorem opr_eqlE (ho : o.op = .binOp .eql T x y T') (hx : evalS St x = some (.agg (E a).toArray)) (hy : evalS St y = some (.agg (E b).toArray)) (hu : P.underlying T = some (.array 56 B)) (he : P.underlying B = some (.int .u8)) (hs : (P.info? B).map (·.size) = some 1)
    (hq : P.eqGuardType P.depth T = false) (ha : a < RR) (hb : b < RR) : OpR P St M o (Det (.bool (decide (a = b))) M) := by
  have h := opr_eqlArr (P := P) (M := M) (k := .u8) ho (by rw [hx, E, u8V_map]) (by rw [hy, E, u8V_map]) hu he hs (by simp [digs_length]) (by simp [digs_length]) hq
  rw [E_eq ha hb] at h; exact h
theorem opr_neqE (ho : o.op = .binOp .neq T x y T') (hx : evalS St x = some (.agg (E a).toArray)) (hy : evalS St y = some (.agg (E b).toArray)) (hu : P.underlying T = some (.array 56 B)) (he : P.underlying B = some (.int .u8)) (hs : (P.info? B).map (·.size) = some 1)
    (hq : P.eqGuardType P.depth T = false) (ha : a < RR) (hb : b < RR) : OpR P St M o (Det (.bool (!decide (a = b))) M) := by
  have h := opr_neqArr (P := P) (M := M) (k := .u8) ho (by rw [hx, E, u8V_map]) (by rw [hy, E, u8V_map]) hu he hs (by simp [digs_length]) (by simp [digs_length]) hq
  rw [E_eq ha hb] at h; exact h
theorem opr_eqlN (ho : o.op = .binOp .eql T x y T') (hx : evalS St x = some (.agg (N a).toArray)) (hy : evalS St y = some (.agg (N b).toArray)) (hu : P.underlying T = some (.array 28 B)) (he : P.underlying B = some (.int .u64)) (hs : (P.info? B).map (·.size) = some 1)
    (hq : P.eqGuardType P.depth T = false) (ha : a < RR) (hb : b < RR) : OpR P St M o (Det (.bool (decide (a = b))) M) := by
  have h := opr_eqlArr (P := P) (M := M) (k := .u64) ho (by rw [hx, N, u64V_map]) (by rw [hy, N, u64V_map]) hu he hs (by simp [digs_length]) (by simp [digs_length]) hq
  rw [N_eq ha hb] at h; exact h
theorem opr_eqlB {p q : Bool} (ho : o.op = .binOp .eql T x y T') (hx : evalS St x = some (.bool p)) (hy : evalS St y = some (.bool q)) (hu : P.underlying T = some .bool) : OpR P St M o (Det (.bool (p == q)) M) :=
  opr_value fun ρ w0 S w hρ hw => by
    have hg : (eqGuard .eql T x y (.bool p) (.bool q)).run P w = .ok () w := rfl
    have hb : (binOp .eql T (.bool p) (.bool q)).run P w = .ok (.bool (p == q)) w := by
      have := run_equalIn_bool' (P := P) w 9999 T p q hu
      simp only [binOp, Op.equal, Op.maxDepth, Sem.run_bind, this, Result.andThen_ok, Sem.run_pure]
    simp only [execOp, ho, hρ _ _ hx, hρ _ _ hy, Sem.run_bind, hg, hb, Result.andThen_ok, Sem.run_pure]
theorem opr_pick {c : Operand} {t : Bool} {u v : Value} (ho : o.op = .pick c x y) (hc : evalS St c = some (.bool t)) (hx : evalS St x = some u) (hy : evalS St y = some v) : OpR P St M o (Det (if t then u else v) M) :=
  opr_value fun ρ w0 S w hρ hw => by
    simp only [execOp, ho, hρ _ _ hc, hρ _ _ hx, hρ _ _ hy, asBool, Sem.run_bind, Sem.run_pure, Result.andThen_ok]
end
end Go.Proofs.YtjlhhcdefcofkaaGreatDoor
