/- One law for each kind of operation, over the engine's memory. -/
import Derived.Test.YtoagfplhcimghaaDraw
import Derived.Laws.Externs
namespace Go.Proofs.Ytoagfplhcimghaa
open Go

abbrev Det (v : Value) (M : Mem) : Value → Mem → Prop := fun v' M' => v' = v ∧ M' = M
abbrev New (T : TypeId) (cs : List Value) (M : Mem) : Value → Mem → Prop := fun v' M' => ∃ g, v' = .pointer (some ⟨g, 0, none⟩) ∧ M' = ⟨g, T, cs⟩ :: M

def isAggD : TypeDesc → Bool
  | .struct _ | .array _ _ => true
  | _ => false

section
variable {P : Program} {St : Slots} {M : Mem} {o : Oper}

/-- An operation that runs to a value and leaves the world alone. -/
theorem opr_value {v : Value} (h : ∀ (ρ : Operand → Value) w0 S w, (∀ x v, evalS St x = some v → ρ x = v) → Inv w0 S M w → (execOp ρ o).run P w = .ok (.value v) w) : OpR P St M o (Det v M) := by
  intro ρ w0 S w hρ hw
  rw [h ρ w0 S w hρ hw]
  exact ⟨M, ⟨rfl, rfl⟩, hw⟩

theorem opr_move {x : Operand} {v : Value} (ho : o.op = .move x) (hx : evalS St x = some v) : OpR P St M o (Det v M) :=
  opr_value fun ρ w0 S w hρ _ => by simp only [execOp, ho, hρ _ _ hx, Sem.run_pure]
theorem opr_assign {x : Operand} {v : Value} (ho : o.op = .assign x) (hx : evalS St x = some v) : OpR P St M o (Det v M) :=
  opr_value fun ρ w0 S w hρ _ => by simp only [execOp, ho, hρ _ _ hx, Sem.run_pure]
theorem opr_nilCheck {x : Operand} {a : Addr} (ho : o.op = .nilCheck x) (hx : evalS St x = some (.pointer (some a))) : OpR P St M o (Det (.pointer (some a)) M) :=
  opr_value fun ρ w0 S w hρ _ => by simp only [execOp, ho, hρ _ _ hx, Sem.run_pure]

theorem opr_box {T : TypeId} {x : Operand} {v : Value} {cs : List Value} (ho : o.op = .box T x) (hx : evalS St x = some v) (hc : v.cells = cs.toArray) : OpR P St M o (New T cs M) := by
  intro ρ w0 S w hρ hw
  have : (execOp ρ o).run P w = .ok (.value (.pointer (some ⟨w.heap.size, 0, none⟩))) (w.alloc (.cells cs.toArray T)) := by
    simp only [execOp, ho, hρ _ _ hx, Instr.box, newVar, newRow, hc, Sem.run_bind, run_newObj, Result.andThen_ok, Sem.run_pure]
    rfl
  rw [this]
  exact ⟨_, ⟨_, rfl, rfl⟩, hw.alloc T cs⟩
theorem opr_alloc {T : TypeId} {z : Value} {cs : List Value} (ho : o.op = .alloc T) (hz' : (P.info? T).bind (·.zero) = some z) (hc : z.cells = cs.toArray) : OpR P St M o (New T cs M) := by
  obtain ⟨i, hi, hz⟩ := Option.bind_eq_some_iff.1 hz'
  intro ρ w0 S w hρ hw
  have : (execOp ρ o).run P w = .ok (.value (.pointer (some ⟨w.heap.size, 0, none⟩))) (w.alloc (.cells cs.toArray T)) := by
    simp only [execOp, ho, Instr.alloc, zeroValue, typeInfo, newVar, newRow, Sem.run_bind, run_newObj, Result.andThen_ok, Sem.run_pure, run_program, hi, hz, hc]
    rfl
  rw [this]
  exact ⟨_, ⟨_, rfl, rfl⟩, hw.alloc T cs⟩

theorem cell_at {w0 w : World} {S : List Nat} (hw : Inv w0 S M w) {i : Nat} {b : Blk} (hb : M[i]? = some b) (j : Nat) : w.cell? ⟨b.g, j, none⟩ = b.cs[j]? := by
  rw [cell_of_row w b.g j _ _ _ (hw.has.at_ b (List.mem_of_getElem? hb))]
  simp

theorem opr_load1 {T : TypeId} {x : Operand} {g off : Nat} {v : Value} {d : TypeDesc} {i : Nat} {T' : TypeId} {cs : List Value} (ho : o.op = .load T x) (hx : evalS St x = some (.pointer (some ⟨g, off, none⟩)))
    (hb : M[i]? = some ⟨g, T', cs⟩) (hu : P.underlying T = some d) (hd : isAggD d = false) (hc : cs[off]? = some v) : OpR P St M o (Det v M) :=
  opr_value fun ρ w0 S w hρ hw => by
    have h1 := cell_at hw hb off
    simp only at h1
    rw [hc] at h1
    have hagg : (isAgg T).run P w = .ok false w := by
      unfold isAgg
      rw [Sem.run_bind, run_underlying hu w]
      cases d <;> simp_all [isAggD]
    simp only [execOp, ho, hρ _ _ hx, Instr.loadAt, Instr.sureAddr, loadVar, Sem.run_bind, Sem.run_pure, Result.andThen_ok, hagg, Sem.run_ite, run_load, h1]
    rfl

theorem run_loadVar_at {w0 w : World} {S : List Nat} {T : TypeId} {g off n i : Nat} {d : TypeDesc} {T' : TypeId} {cs vs : List Value} (hw : Inv w0 S M w) (hb : M[i]? = some ⟨g, T', cs⟩) (hu : P.underlying T = some d)
    (hd : isAggD d = true) (hn : (P.info? T).map (·.size) = some n) (hl : vs.length = n) (hv : (cs.drop off).take n = vs) : (loadVar T ⟨g, off, none⟩).run P w = .ok (.agg vs.toArray) w := by
  have hcells : (loadCells ⟨g, off, none⟩ vs.length).run P w = .ok vs.toArray w :=
    run_loadCells_list (P := P) w ⟨g, off, none⟩ vs (fun j v hj => by
      have hadd : (⟨g, off, none⟩ : Addr).add j = ⟨g, off + j, none⟩ := by unfold Addr.add; split <;> simp_all
      rw [hadd]
      have h1 := cell_at hw hb (off + j)
      simp only at h1
      rw [h1, ← hj, ← hv]
      have hjn : j < n := by
        have := (List.getElem?_eq_some_iff.1 hj).1
        omega
      rw [List.getElem?_take_of_lt hjn, List.getElem?_drop])
  have hagg : (isAgg T).run P w = .ok true w := by
    unfold isAgg
    rw [Sem.run_bind, run_underlying hu w]
    cases d <;> simp_all [isAggD]
  cases hq : P.info? T with
  | none => simp [hq] at hn
  | some inf =>
    have hs : inf.size = n := by simpa [hq] using hn
    rw [hl] at hcells
    simp only [loadVar, Sem.run_bind, Sem.run_pure, Result.andThen_ok, hagg, Sem.run_ite, sizeOf, typeInfo, run_program, hq, hs, if_true, hcells]

theorem opr_load {T : TypeId} {x : Operand} {g off n : Nat} {d : TypeDesc} {i : Nat} {T' : TypeId} {cs : List Value} (ho : o.op = .load T x) (hx : evalS St x = some (.pointer (some ⟨g, off, none⟩)))
    (hb : M[i]? = some ⟨g, T', cs⟩) (hu : P.underlying T = some d) (hd : isAggD d = true) (hn : (P.info? T).map (·.size) = some n) {vs : List Value}
    (hl : vs.length = n) (hv : (cs.drop off).take n = vs) :
    OpR P St M o (Det (.agg vs.toArray) M) :=
  opr_value fun ρ w0 S w hρ hw => by
    simp only [execOp, ho, hρ _ _ hx, Instr.loadAt, Instr.sureAddr, Sem.run_bind, Sem.run_pure, Result.andThen_ok, run_loadVar_at hw hb hu hd hn hl hv]

/-- A variable of a type without cells. -/
theorem opr_load0 {T : TypeId} {x : Operand} {a : Addr} {d : TypeDesc} (ho : o.op = .load T x) (hx : evalS St x = some (.pointer (some a))) (hu : P.underlying T = some d) (hd : isAggD d = true) (hn : (P.info? T).map (·.size) = some 0) : OpR P St M o (Det (.agg #[]) M) :=
  opr_value fun ρ w0 S w hρ hw => by
    obtain ⟨inf, hq, hs⟩ := Option.map_eq_some_iff.1 hn
    have hagg : (isAgg T).run P w = .ok true w := by
      unfold isAgg
      rw [Sem.run_bind, run_underlying hu w]
      cases d <;> simp_all [isAggD]
    simp only [execOp, ho, hρ _ _ hx, Instr.loadAt, Instr.sureAddr, loadVar, Sem.run_bind, Sem.run_pure, Result.andThen_ok, hagg, Sem.run_ite, sizeOf, typeInfo, run_program, hq, hs, if_true, loadCells, loadCellsFrom]

/-- A literal without parts. -/
theorem opr_build0 {T E : TypeId} {n k : Nat} {z : Value} {cs : List Value} (ho : o.op = .build T #[]) (hz' : (P.info? T).bind (·.zero) = some z) (hc : z.cells = cs.toArray) (hu : P.underlying T = some (.array n E)) (hs : (P.info? E).map (·.size) = some k) : OpR P St M o (Det (.agg cs.toArray) M) :=
  opr_value fun ρ w0 S w hρ hw => by
    obtain ⟨i, hi, hz⟩ := Option.bind_eq_some_iff.1 hz'
    obtain ⟨j, hj, _⟩ := Option.map_eq_some_iff.1 hs
    simp only [execOp, ho, Array.map_empty, Instr.build, zeroValue, typeInfo, sizeOf, Sem.run_bind, Result.andThen_ok, Sem.run_pure, run_program, hi, hz, hc, run_underlying hu, hj, Instr.fill]
/-- A literal with parts: what it makes is reckoned apart. -/
theorem opr_build {T : TypeId} {ps : List (Nat × Operand)} {vs : List (Nat × Value)} {cs : List Value} (ho : o.op = .build T ps.toArray) (hps : ∀ ρ : Operand → Value, (∀ x v, evalS St x = some v → ρ x = v) → ps.map (fun p => (p.1, ρ p.2)) = vs)
    (hb : P.built T vs = some cs.toArray) : OpR P St M o (Det (.agg cs.toArray) M) :=
  opr_value fun ρ w0 S w hρ hw => by
    have e : (ps.toArray.map fun (i, x) => (i, ρ x)) = vs.toArray := by
      rw [List.map_toArray]; exact congrArg _ (hps ρ hρ)
    simp only [execOp, ho, e, Sem.run_bind, run_build w T vs.toArray cs.toArray (by simpa using hb), Result.andThen_ok, Sem.run_pure]

theorem get_set {i : Nat} {b c : Blk} (h : M[i]? = some b) : (M.set i c)[i]? = some c := by
  have := (List.getElem?_eq_some_iff.1 h).1
  simp [this]
theorem get_set_ne {i j : Nat} {b c : Blk} (h : M[j]? = some b) (hne : i ≠ j) : (M.set i c)[j]? = some b := by
  rw [List.getElem?_set_ne hne]; exact h

def splice (cs : List Value) (off : Nat) (vs : List Value) : List Value := cs.take off ++ vs ++ cs.drop (off + vs.length)

def flat : Value → Bool
  | .agg _ | .tuple _ => false
  | _ => true

theorem run_storeCells_at (g T : Nat) : ∀ (vs : List Value) (i off : Nat) (cs : List Value) (w : World), w.heap[g]? = some (.cells cs.toArray T (0, 0)) → off + i + vs.length ≤ cs.length → (∀ v ∈ vs, flat v = true) →
    (storeCells ⟨g, off, none⟩ vs i).run P w = .ok () (w.setRow g (splice cs (off + i) vs).toArray) := by
  intro vs
  induction vs with
  | nil =>
    intro i off cs w hg _ _
    have e : splice cs (off + i) [] = cs := by simp [splice]
    rw [e]
    simp only [storeCells, Sem.run_pure]
    congr 1
    have hw : w.heap.setIfInBounds g (.cells cs.toArray T (0, 0)) = w.heap := by
      apply Array.ext_getElem?
      intro k
      by_cases e : g = k
      · subst e
        obtain ⟨h1, h2⟩ := Array.getElem?_eq_some_iff.1 hg
        simp [h1, h2]
      · rw [Array.getElem?_setIfInBounds_ne e]
    have hm : (w.setRow g cs.toArray).heap = w.heap := by
      apply Array.ext_getElem?
      intro k
      by_cases e : k = g
      · subst e; rw [setRow_heap w _ _ _ _ _ hg, hg]
      · rw [setRow_other _ _ _ _ e]
    have hx : w.setRow g cs.toArray = { w with heap := (w.setRow g cs.toArray).heap } := rfl
    rw [hx, hm]
  | cons v vs ih =>
    intro i off cs w hg hl hf
    have hlt : off + i < cs.length := by simp only [List.length_cons] at hl; omega
    have hadd : (⟨g, off, none⟩ : Addr).add i = ⟨g, off + i, none⟩ := by unfold Addr.add; split <;> simp_all
    have hcell : w.cell? ⟨g, off + i, none⟩ = some cs[off + i] := by
      rw [cell_of_row w g _ _ _ _ hg]
      simp [hlt]
    have hfr : w.frozen? ⟨g, off + i, none⟩ = false := frozen_of_row w g _ _ _ hg
    have hone : v.oneCell' = true := by
      have := hf v (List.mem_cons_self ..)
      cases v <;> simp_all [flat, Value.oneCell']
    simp only [storeCells, Sem.run_bind]
    rw [hadd, run_store P w _ v _ hone]
    simp only [hcell, hfr, Bool.false_eq_true, if_false, Result.andThen_ok]
    rw [setCell_eq_setRow w g _ _ _ _ v hg]
    have hg' : (w.setRow g (cs.toArray.setIfInBounds (off + i) v)).heap[g]? = some (.cells (cs.set (off + i) v).toArray T (0, 0)) := by
      rw [setRow_heap w g _ _ _ _ hg]; simp
    have := ih (i + 1) off (cs.set (off + i) v) _ hg' (by simp only [List.length_set, List.length_cons] at hl ⊢; omega) (fun u hu => hf u (List.mem_cons_of_mem _ hu))
    rw [this, setRow_setRow]
    congr 2
    have e1 : off + (i + 1) = off + i + 1 := by omega
    simp only [splice, e1, List.length_cons]
    congr 1
    rw [List.take_succ_eq_append_getElem (by simpa using hlt), List.getElem_set_self, List.take_set_of_le (Nat.le_refl _), List.drop_set_of_lt (by omega)]
    have e2 : off + i + 1 + vs.length = off + i + (vs.length + 1) := by omega
    rw [e2]
    simp

theorem opr_store {T : TypeId} {x y : Operand} {g off n : Nat} {v : Value} {vs : List Value} {i : Nat} {T' : TypeId} {cs cs' : List Value} (ho : o.op = .store T x y) (hx : evalS St x = some (.pointer (some ⟨g, off, none⟩)))
    (hy : evalS St y = some v) (hc : v.cells = vs.toArray) (hb : M[i]? = some ⟨g, T', cs⟩) (hn : (P.info? T).map (·.size) = some n) (hl : vs.length = n) (hle : off + n ≤ cs.length) (hf : ∀ v ∈ vs, flat v = true)
    (hcs : splice cs off vs = cs') : OpR P St M o (Det undef (M.set i ⟨g, T', cs'⟩)) := by
  intro ρ w0 S w hρ hw
  have hg := hw.has.at_ _ (List.mem_of_getElem? hb)
  have hrun := run_storeCells_at (P := P) g T' vs 0 off cs w hg (by omega) hf
  cases hq : P.info? T with
  | none => simp [hq] at hn
  | some inf =>
    have hs : inf.size = n := by simpa [hq] using hn
    have : (execOp ρ o).run P w = .ok .skip (w.setRow g cs'.toArray) := by
      have hsz : v.cells.size = inf.size := by rw [hc, hs]; simpa using hl
      simp only [execOp, ho, hρ _ _ hx, hρ _ _ hy, Instr.storeAt, Instr.sureAddr, storeVar, Sem.run_bind, Sem.run_pure, Result.andThen_ok, sizeOf, typeInfo, run_program, hq, hsz, ne_eq, not_true_eq_false, if_false, Sem.run_ite]
      rw [hc]
      simp only [Nat.add_zero] at hrun
      rw [hrun, hcs]
      rfl
    rw [this]
    exact ⟨_, ⟨rfl, rfl⟩, hw.setRow hb cs'⟩

theorem opr_fieldAddr {T : TypeId} {x : Operand} {k g off : Nat} {fs : Array Field} {f : Field} {n : Nat} (ho : o.op = .fieldAddr T x k) (hx : evalS St x = some (.pointer (some ⟨g, off, none⟩)))
    (hu : P.underlying T = some (.struct fs)) (hf : fs[k]? = some f) (hi' : (P.info? f.type).map (·.size) = some n) (hz : Nat.beq n 0 = false) {off' : Nat} (hoff : off + f.offset = off') : OpR P St M o (Det (.pointer (some ⟨g, off', none⟩)) M) :=
  opr_value fun ρ w0 S w hρ hw => by
    obtain ⟨i, hi, rfl⟩ := Option.map_eq_some_iff.1 hi'
    have hz' : ¬ i.size = 0 := fun e => by rw [e] at hz; exact absurd hz (by decide)
    have hadd : (⟨g, off, none⟩ : Addr).add f.offset = ⟨g, off', none⟩ := by subst hoff; unfold Addr.add; split <;> simp_all
    simp only [execOp, ho, hρ _ _ hx, Instr.fieldAt, Instr.sureAddr, fieldPlace, sizeOf, typeInfo, Sem.run_bind, run_underlying hu, Sem.run_pure, Result.andThen_ok, hf, hi, run_program, hz', if_false, Sem.run_ite, hadd]

theorem opr_indexAddr {T E : TypeId} {x y : Operand} {g off n : Nat} {k : IntKind} {j m : Nat} (ho : o.op = .indexAddr T x y) (hx : evalS St x = some (.pointer (some ⟨g, off, none⟩)))
    (hy : evalS St y = some (.int k (j : Int))) (hu : P.underlying T = some (.array n E)) (hj : j < n) (hi' : (P.info? E).map (·.size) = some m) {off' : Nat} (hoff : off + j * m = off') : OpR P St M o (Det (.pointer (some ⟨g, off', none⟩)) M) :=
  opr_value fun ρ w0 S w hρ hw => by
    obtain ⟨i, hi, rfl⟩ := Option.map_eq_some_iff.1 hi'
    have hadd : (⟨g, off, none⟩ : Addr).add (j * i.size) = ⟨g, off', none⟩ := by subst hoff; unfold Addr.add; split <;> simp_all
    have h0 : (0 : Int) ≤ (j : Int) ∧ (j : Int) < (n : Int) := by omega
    simp only [execOp, ho, hρ _ _ hx, hρ _ _ hy, Instr.indexAt, Instr.sureAddr, asIntOf, sizeOf, typeInfo, Sem.run_bind, run_underlying hu, Sem.run_pure, Result.andThen_ok, hi, run_program, h0, and_self, if_true, Sem.run_ite, Int.toNat_natCast, hadd]
theorem opr_indexAddrS {T E : TypeId} {x y : Operand} {g off n c : Nat} {k : IntKind} {j m : Nat} (ho : o.op = .indexAddr T x y) (hx : evalS St x = some (.slice (some ⟨g, off, none⟩) n c))
    (hy : evalS St y = some (.int k (j : Int))) (hu : P.underlying T = some (.slice E)) (hj : j < n) (hi' : (P.info? E).map (·.size) = some m) {off' : Nat} (hoff : off + j * m = off') : OpR P St M o (Det (.pointer (some ⟨g, off', none⟩)) M) :=
  opr_value fun ρ w0 S w hρ hw => by
    obtain ⟨i, hi, rfl⟩ := Option.map_eq_some_iff.1 hi'
    have hadd : (⟨g, off, none⟩ : Addr).add (j * i.size) = ⟨g, off', none⟩ := by subst hoff; unfold Addr.add; split <;> simp_all
    have h0 : (0 : Int) ≤ (j : Int) ∧ (j : Int) < (n : Int) := by omega
    simp only [execOp, ho, hρ _ _ hx, hρ _ _ hy, Instr.indexAt, Instr.sureAddr, asIntOf, sizeOf, typeInfo, Sem.run_bind, run_underlying hu, Sem.run_pure, Result.andThen_ok, hi, run_program, h0, and_self, if_true, Sem.run_ite, Int.toNat_natCast, hadd]
theorem opr_index1 {T E : TypeId} {x y : Operand} {cs : List Value} {n : Nat} {k : IntKind} {j : Nat} {d : TypeDesc} {v : Value} (ho : o.op = .index T x y) (hx : evalS St x = some (.agg cs.toArray))
    (hy : evalS St y = some (.int k (j : Int))) (hu : P.underlying T = some (.array n E)) (hj : j < n) (hi' : (P.info? E).map (·.size) = some 1) (hue : P.underlying E = some d) (hd : isAggD d = false) (hv : cs[j]? = some v) : OpR P St M o (Det v M) :=
  opr_value fun ρ w0 S w hρ hw => by
    obtain ⟨i, hi, hs⟩ := Option.map_eq_some_iff.1 hi'
    have h0 : (0 : Int) ≤ (j : Int) ∧ (j : Int) < (n : Int) := by omega
    have hagg : (isAgg E).run P w = .ok false w := by
      unfold isAgg
      rw [Sem.run_bind, run_underlying hue w]
      cases d <;> simp_all [isAggD]
    simp only [execOp, ho, hρ _ _ hx, hρ _ _ hy, Instr.index, asIntOf, sizeOf, typeInfo, Sem.run_bind, run_underlying hu, Sem.run_pure, Result.andThen_ok, hi, hs, run_program, h0, and_self, if_true, Sem.run_ite, Int.toNat_natCast, part, hagg, Nat.mul_one, List.getElem?_toArray, hv]
    rfl
theorem opr_index {T E : TypeId} {x y : Operand} {cs : List Value} {n m : Nat} {k : IntKind} {j : Nat} {d : TypeDesc} (ho : o.op = .index T x y) (hx : evalS St x = some (.agg cs.toArray))
    (hy : evalS St y = some (.int k (j : Int))) (hu : P.underlying T = some (.array n E)) (hj : j < n) (hi' : (P.info? E).map (·.size) = some m) (hue : P.underlying E = some d) (hd : isAggD d = true) {vs : List Value} (hv : (cs.drop (j * m)).take m = vs) : OpR P St M o (Det (.agg vs.toArray) M) :=
  opr_value fun ρ w0 S w hρ hw => by
    obtain ⟨i, hi, hs⟩ := Option.map_eq_some_iff.1 hi'
    have h0 : (0 : Int) ≤ (j : Int) ∧ (j : Int) < (n : Int) := by omega
    have hagg : (isAgg E).run P w = .ok true w := by
      unfold isAgg
      rw [Sem.run_bind, run_underlying hue w]
      cases d <;> simp_all [isAggD]
    have hx' : cs.toArray.extract (j * m) (j * m + m) = vs.toArray := by
      rw [← hv]; simp
    simp only [execOp, ho, hρ _ _ hx, hρ _ _ hy, Instr.index, asIntOf, sizeOf, typeInfo, Sem.run_bind, run_underlying hu, Sem.run_pure, Result.andThen_ok, hi, hs, run_program, h0, and_self, if_true, Sem.run_ite, Int.toNat_natCast, part, hagg, hx']

/-- A slice of an array by its address; the bounds are numbers. -/
theorem opr_slice {T E : TypeId} {x lo hi : Operand} {g off n a b : Nat} {k k' : IntKind} (ho : o.op = .slice T x (some lo) (some hi) none) (hx : evalS St x = some (.pointer (some ⟨g, off, none⟩)))
    (hlo : evalS St lo = some (.int k (a : Int))) (hhi : evalS St hi = some (.int k' (b : Int))) (hu : P.underlying T = some (.array n E)) (hab : a ≤ b) (hbn : b ≤ n) (han : a < n) (hi'' : (P.info? E).map (·.size) = some 1) {off' : Nat} (hoff : off + a = off') :
    OpR P St M o (Det (.slice (some ⟨g, off', none⟩) (b - a) (n - a)) M) :=
  opr_value fun ρ w0 S w hρ hw => by
    obtain ⟨i, hi', hs⟩ := Option.map_eq_some_iff.1 hi''
    have hadd : (⟨g, off, none⟩ : Addr).add a = ⟨g, off', none⟩ := by subst hoff; unfold Addr.add; split <;> simp_all
    have h1 : (0 : Int) ≤ (b : Int) ∧ (b : Int) ≤ (n : Int) := by omega
    have h2 : (0 : Int) ≤ (a : Int) ∧ (a : Int) ≤ (b : Int) := by omega
    have h3 : ¬ n = a := by omega
    simp only [execOp, ho, Option.map_some, Option.map_none, hρ _ _ hx, hρ _ _ hlo, hρ _ _ hhi, Instr.sliceAt, Instr.sureAddr, Instr.sliceBounds, Instr.sliceBound, asIntOf, sizeOf, typeInfo, Sem.run_bind, run_underlying hu, Sem.run_pure, Result.andThen_ok, hi', hs, run_program, h1, h2, h3, and_self, if_true, if_false, Sem.run_ite, Int.toNat_natCast, Nat.mul_one, hadd]
theorem opr_sliceAll {T E : TypeId} {x : Operand} {g off n m : Nat} (ho : o.op = .slice T x none none none) (hx : evalS St x = some (.pointer (some ⟨g, off, none⟩)))
    (hu : P.underlying T = some (.array n E)) (hn : Nat.beq n 0 = false) (hi'' : (P.info? E).map (·.size) = some m) :
    OpR P St M o (Det (.slice (some ⟨g, off, none⟩) n n) M) :=
  opr_value fun ρ w0 S w hρ hw => by
    obtain ⟨i, hi', hs⟩ := Option.map_eq_some_iff.1 hi''
    have hadd : (⟨g, off, none⟩ : Addr).add (0 * i.size) = ⟨g, off, none⟩ := by simp [Addr.add]
    have h3 : ¬ n = 0 := fun e => by rw [e] at hn; exact absurd hn (by decide)
    simp only [execOp, ho, Option.map_none, hρ _ _ hx, Instr.sliceAt, Instr.sureAddr, Instr.sliceBounds, sizeOf, typeInfo, Sem.run_bind, run_underlying hu, Sem.run_pure, Result.andThen_ok, hi', run_program, h3, if_false, Nat.sub_zero, hadd]

theorem opr_binOp {op : BinOp} {T T' : TypeId} {x y : Operand} {k k' : IntKind} {a b : Int} {v : Value} (ho : o.op = .binOp op T x y T') (hx : evalS St x = some (.int k a)) (hy : evalS St y = some (.int k' b))
    (hb : ∀ w, (binOp op T (.int k a) (.int k' b)).run P w = .ok v w) : OpR P St M o (Det v M) :=
  opr_value fun ρ w0 S w hρ hw => by
    have hg : (eqGuard op T x y (.int k a) (.int k' b)).run P w = .ok () w := by
      unfold eqGuard
      cases op <;> rfl
    simp only [execOp, ho, hρ _ _ hx, hρ _ _ hy, Sem.run_bind, hg, hb, Result.andThen_ok, Sem.run_pure]

theorem opr_convert {S' D : TypeId} {x : Operand} {k k' : IntKind} {n : Int} {d : TypeDesc} (ho : o.op = .convert S' D x) (hx : evalS St x = some (.int k n)) (hs : P.underlying S' = some d) (hd : P.underlying D = some (.int k')) : OpR P St M o (Det (.int k' (k'.wrap n)) M) :=
  opr_value fun ρ w0 S w hρ hw => by
    have : (convert S' D (.int k n)).run P w = .ok (.int k' (k'.wrap n)) w := by
      simp only [convert, Sem.run_bind, run_underlying hs, run_underlying hd, Result.andThen_ok]
      rfl
    simp only [execOp, ho, hρ _ _ hx, Sem.run_bind, this, Result.andThen_ok, Sem.run_pure]

theorem opr_extract {x : Operand} {j : Nat} {vs : Array Value} {v : Value} (ho : o.op = .extract x j) (hx : evalS St x = some (.tuple vs)) (hv : vs[j]? = some v) : OpR P St M o (Det v M) :=
  opr_value fun ρ w0 S w hρ hw => by
    simp only [execOp, ho, hρ _ _ hx, Instr.extract, hv, Sem.run_bind, Sem.run_pure, Result.andThen_ok]

theorem opr_unOp {op : UnOp} {T : TypeId} {x : Operand} {v u : Value} (ho : o.op = .unOp op T x) (hx : evalS St x = some v) (hb : ∀ w, (Op.unary op v).run P w = .ok u w) : OpR P St M o (Det u M) :=
  opr_value fun ρ w0 S w hρ hw => by
    simp only [execOp, ho, hρ _ _ hx, Sem.run_bind, hb, Result.andThen_ok, Sem.run_pure]

/-! ### Calls -/
def Ct (P : Program) (f : FuncId) (args : Array Value) (M : Mem) (R : Value → Mem → Prop) : Prop :=
  ∀ w, Has M w → Calls P f args w fun e w' => ∃ v M', R v M' ∧ e = .returned v ∧ Inv w (ids M) M' w'

def evalL (St : Slots) : List Operand → Option (List Value)
  | [] => some []
  | x :: r => match evalS St x, evalL St r with
    | some v, some vs => some (v :: vs)
    | _, _ => none

theorem evalL_map {ρ : Operand → Value} (hρ : ∀ x v, evalS St x = some v → ρ x = v) : ∀ (xs : List Operand) (vs : List Value), evalL St xs = some vs → xs.map ρ = vs
  | [], vs, h => by simpa [evalL] using h
  | x :: r, vs, h => by
    unfold evalL at h
    split at h
    · rename_i v us h1 h2
      simp only [Option.some.injEq] at h
      subst h
      simp [hρ _ _ h1, evalL_map hρ r us h2]
    · simp at h

/-- A call of a function of the program's own, by its contract. -/
theorem opr_call {xs : List Operand} {ts : Array TypeId} {fo : Operand} {f : FuncId} {fn : Func} {vs : List Value} {R : Value → Mem → Prop} (ho : o.op = .call { callee := .value fo, args := xs.toArray, argTypes := ts })
    (hfo : evalS St fo = some (.func (.func f) #[] #[])) (hxs : evalL St xs = some vs) (hf : P.funcs[f]? = some fn) (hname : (fn.name == "runtime.NumGoroutine") = false) (hbody : fn.body.isNone = false)
    (h : Ct P f vs.toArray M R) : OpR P St M o R := by
  intro ρ w0 S w hρ hw
  have hrun : (execOp ρ o).run P w = .ok (.enter f vs.toArray) w := by
    have h1 : ¬ fn.name = "runtime.NumGoroutine" := by simpa using hname
    simp only [execOp, ho, resolve, hρ _ _ hfo, List.map_toArray, evalL_map hρ xs vs hxs, Deferred.ofValue, Sem.run_bind, Sem.run_pure, Result.andThen_ok, invoke, callFunc, run_program, hf, hname, hbody, Bool.false_eq_true, if_false, List.append_toArray, List.append_nil, List.nil_append]
  rw [hrun]
  refine (h w hw.has).mono ?_
  rintro e w' ⟨v, M', hR, rfl, hI⟩
  exact ⟨v, M', hR, rfl, hw.trans hI⟩

/-- A call that runs here and now (a function without a body). -/
theorem opr_extern {xs : List Operand} {ts : Array TypeId} {fo : Operand} {f : FuncId} {vs : List Value} {v : Value} (ho : o.op = .call { callee := .value fo, args := xs.toArray, argTypes := ts })
    (hfo : evalS St fo = some (.func (.func f) #[] #[])) (hxs : evalL St xs = some vs) (hrun : ∀ w, (callFunc f vs.toArray).run P w = .ok (.value v) w) : OpR P St M o (Det v M) :=
  opr_value fun ρ w0 S w hρ hw => by
    simp only [execOp, ho, resolve, hρ _ _ hfo, List.map_toArray, evalL_map hρ xs vs hxs, Deferred.ofValue, Sem.run_bind, Sem.run_pure, Result.andThen_ok, invoke, List.append_toArray, List.append_nil, List.nil_append, hrun]

theorem Ct.mono {f : FuncId} {args : Array Value} {R R' : Value → Mem → Prop} (h : Ct P f args M R) (hr : ∀ v M', R v M' → R' v M') : Ct P f args M R' :=
  fun w hw => (h w hw).mono (by rintro e w' ⟨v, M', hR, he, hI⟩; exact ⟨v, M', hr _ _ hR, he, hI⟩)
end

section
variable {C : Ctx} {St : Slots} {M M' : Mem} {Q : Exit → Act → World → Prop} {ops : List Oper} {o : Oper} {l : List Oper}
theorem at_d {v : Value} (hg : wantS ops St o = some true) (hd : fits C.n o.dst = true) (h : OpR C.P St M o (Det v M')) (k : At C (putS St o.dst v) M' (wpList C.P ops.toArray Q l)) :
    At C St M (wpList C.P ops.toArray Q (o :: l)) :=
  at_op hg hd h (by rintro _ _ ⟨rfl, rfl⟩; exact k)
theorem at_n {T : TypeId} {cs : List Value} (hg : wantS ops St o = some true) (hd : fits C.n o.dst = true) (h : OpR C.P St M o (New T cs M))
    (k : ∀ g, At C (putS St o.dst (.pointer (some ⟨g, 0, none⟩))) (⟨g, T, cs⟩ :: M) (wpList C.P ops.toArray Q l)) : At C St M (wpList C.P ops.toArray Q (o :: l)) :=
  at_op hg hd h (by rintro _ _ ⟨g, rfl, rfl⟩; exact k g)
def AllIn : Slots → Slots → Prop
  | [], _ => True
  | (k, v) :: r, St => look St k = some v ∧ AllIn r St
theorem allIn : ∀ {L St : Slots}, AllIn L St → ∀ t v, look L t = some v → look St t = some v
  | [], _, _, t, v, h => by simp [look] at h
  | (k, u) :: r, St, h, t, v, hv => by
    by_cases e : k = t
    · subst e
      rw [look_cons_self] at hv
      rw [← hv]; exact h.1
    · rw [look_cons_ne _ _ e] at hv
      exact allIn h.2 t v hv
theorem at_then_exit {K : Act → World → Prop} {id : Nat} (h : At C St M (Q (.exit id))) : At C St M (Exit.then K Q (.exit id)) := h
theorem at_then_ret {K : Act → World → Prop} (h : At C St M (Q .ret)) : At C St M (Exit.then K Q .ret) := h
theorem at_inBlock_ret {id : Nat} (h : At C St M (Q .ret)) : At C St M (Exit.inBlock id Q .ret) := h
theorem at_inBlock_normal {id : Nat} (h : At C St M (Q .normal)) : At C St M (Exit.inBlock id Q .normal) := h
theorem at_c {R : Value → Mem → Prop} (hg : wantS ops St o = some true) (hd : fits C.n o.dst = true) (h : OpR C.P St M o R)
    (k : ∀ v M', R v M' → At C (putS St o.dst v) M' (wpList C.P ops.toArray Q l)) : At C St M (wpList C.P ops.toArray Q (o :: l)) := at_op hg hd h k
end

/-! ### A function whole -/
def Done (C : Ctx) (fn : Func) (R : Value → Mem → Prop) : Exit → Act → World → Prop :=
  bodyPost C.P fn fun e w' => ∃ v M', R v M' ∧ e = .returned v ∧ Inv C.w0 C.S M' w'

def slotsOf : List Value → Nat → Slots
  | [], _ => []
  | v :: r, k => (k, v) :: slotsOf r (k + 1)

theorem look_slotsOf : ∀ (vs : List Value) (k t : Nat) (v : Value), look (slotsOf vs k) t = some v → k ≤ t ∧ vs[t - k]? = some v
  | [], k, t, v, h => by simp [slotsOf, look] at h
  | u :: r, k, t, v, h => by
    by_cases e : k = t
    · subst e
      rw [slotsOf, look_cons_self] at h
      simpa using h
    · rw [slotsOf, look_cons_ne _ _ e] at h
      obtain ⟨h1, h2⟩ := look_slotsOf r (k + 1) t v h
      refine ⟨by omega, ?_⟩
      have : t - k = (t - (k + 1)) + 1 := by omega
      rw [this]; simpa using h2

theorem ct_of {P : Program} {f : FuncId} {fn : Func} {c : Code} {vs : List Value} {n : Nat} {M : Mem} {R : Value → Mem → Prop} (hf : P.funcs[f]? = some fn) (hb : fn.body = some c) (hn : fn.ntmps = n) (hl : Nat.ble vs.length n = true)
    (h : ∀ w0, At ⟨P, n, w0, ids M⟩ (slotsOf vs 0) M (c.wp P (Done ⟨P, n, w0, ids M⟩ fn R))) : Ct P f vs.toArray M R := by
  intro w hw
  refine calls_of_wp hf hb ?_
  refine h w _ w ⟨?_, rfl, fun t v ht => ?_⟩ (Inv.start hw)
  · have : vs.length ≤ n := Nat.le_of_ble_eq_true hl
    simp [hn]; omega
  · obtain ⟨_, h2⟩ := look_slotsOf vs 0 t v ht
    have hlt : t < vs.length := by
      have := (List.getElem?_eq_some_iff.1 h2).1
      omega
    simp only [Array.getElem?_append, List.size_toArray, hlt, if_true, List.getElem?_toArray]
    simpa using h2

section
variable {C : Ctx} {St : Slots} {M : Mem} {fn : Func} {R : Value → Mem → Prop}

theorem done_of {v : Value} {M' : Mem} (hres : ∀ a w, Holds C.n St a → Inv C.w0 C.S M w → (results fn a.tmps).run C.P w = .ok v w) (hR : R v M') (hM : M'.Sublist M) :
    At C St M (Done C fn R .ret) :=
  fun a w ha hw => ⟨ha.defers, v, hres a w ha hw, v, M', hR, rfl, hw.sub hM⟩
theorem at_normal_ret (h : At C St M (Done C fn R .ret)) : At C St M (Done C fn R .normal) := h

def ResIs (P : Program) (St : Slots) (M : Mem) : ResultVar → Value → Prop
  | .tmp t, v => look St t = some v
  | .cell p T, v => ∃ (g off n i : Nat) (d : TypeDesc) (T' : TypeId) (cs vs : List Value), look St p = some (.pointer (some ⟨g, off, none⟩)) ∧ M[i]? = some ⟨g, T', cs⟩ ∧ P.underlying T = some d ∧
      isAggD d = true ∧ (P.info? T).map (·.size) = some n ∧ vs.length = n ∧ (cs.drop off).take n = vs ∧ v = .agg vs.toArray
theorem res_tmp {P : Program} {t : Nat} {v : Value} (h : look St t = some v) : ResIs P St M (.tmp t) v := h
theorem res_cell {P : Program} {p T : Nat} {g off n i : Nat} {d : TypeDesc} {T' : TypeId} {cs vs : List Value} (h1 : look St p = some (.pointer (some ⟨g, off, none⟩))) (h2 : M[i]? = some ⟨g, T', cs⟩) (h3 : P.underlying T = some d)
    (h4 : isAggD d = true) (h5 : (P.info? T).map (·.size) = some n) (h6 : vs.length = n) (h7 : (cs.drop off).take n = vs) : ResIs P St M (.cell p T) (.agg vs.toArray) :=
  ⟨g, off, n, i, d, T', cs, vs, h1, h2, h3, h4, h5, h6, h7, rfl⟩
def resV (tmps : Array Value) : ResultVar → Sem Value
  | .tmp t => pure (tmps.getD t undef)
  | .cell p t => do loadVar t (← asAddr (tmps.getD p undef))
theorem results_eq (fn : Func) (tmps : Array Value) : results fn tmps = (do let vs ← fn.results.mapM (resV tmps); pure (if h : vs.size = 1 then vs[0] else .tuple vs)) := by
  unfold results
  have : (fun x => match x with
    | ResultVar.tmp t => pure (tmps.getD t undef)
    | ResultVar.cell a t => do loadVar t (← asAddr (tmps.getD a undef)) : ResultVar → Sem Value) = resV tmps := by
    funext x; cases x <;> rfl
  rw [← this]
  rfl
theorem ResIs.run {P : Program} {r : ResultVar} {v : Value} (h : ResIs P St M r v) {n : Nat} {w0 : World} {S : List Nat} {a : Act} {w : World} (ha : Holds n St a) (hw : Inv w0 S M w) :
    (resV a.tmps r).run P w = .ok v w := by
  cases r with
  | tmp t =>
    have := ha.slot _ _ h
    simp [resV, this]
  | cell p T =>
    obtain ⟨g, off, n, i, d, T', cs, vs, h1, h2, h3, h4, h5, h6, h7, rfl⟩ := h
    have := ha.slot _ _ h1
    simp only [resV, Array.getD_eq_getD_getElem?, this, Option.getD_some, asAddr, Sem.run_bind, Sem.run_pure, Result.andThen_ok, run_loadVar_at hw h2 h3 h4 h5 h6 h7]
theorem res0 (hr : fn.results = #[]) : ∀ a w, Holds C.n St a → Inv C.w0 C.S M w → (results fn a.tmps).run C.P w = .ok (.tuple #[]) w := by
  intro a w _ _
  simp [results_eq, hr]
theorem res1 {r : ResultVar} {v : Value} (hr : fn.results = #[r]) (h : ResIs C.P St M r v) : ∀ a w, Holds C.n St a → Inv C.w0 C.S M w → (results fn a.tmps).run C.P w = .ok v w := by
  intro a w ha hw
  simp [results_eq, hr, h.run ha hw]
theorem res2 {r s : ResultVar} {v u : Value} (hr : fn.results = #[r, s]) (h : ResIs C.P St M r v) (h' : ResIs C.P St M s u) : ∀ a w, Holds C.n St a → Inv C.w0 C.S M w → (results fn a.tmps).run C.P w = .ok (.tuple #[v, u]) w := by
  intro a w ha hw
  simp [results_eq, hr, h.run ha hw, h'.run ha hw]
theorem res3 {r s t : ResultVar} {v u x : Value} (hr : fn.results = #[r, s, t]) (h : ResIs C.P St M r v) (h' : ResIs C.P St M s u) (h'' : ResIs C.P St M t x) : ∀ a w, Holds C.n St a → Inv C.w0 C.S M w → (results fn a.tmps).run C.P w = .ok (.tuple #[v, u, x]) w := by
  intro a w ha hw
  simp [results_eq, hr, h.run ha hw, h'.run ha hw, h''.run ha hw]
end
end Go.Proofs.Ytoagfplhcimghaa
