/- Cells that are read but not followed: they lie in a block of the world in which the call began. -/
import Derived.Test.YtflbkfjemmmipaaDoorAppend
namespace Go.Proofs.YtflbkfjemmmipaaDoor
open Go
def Rd (g off : Nat) (vs : List Value) (w : World) (S : List Nat) : Prop := g ∉ S ∧ g < w.heap.size ∧ ∀ (i : Nat) v, vs[i]? = some v → w.cell? ⟨g, off + i, none⟩ = some v
theorem Rd.now {g off : Nat} {vs : List Value} {w0 w : World} {S : List Nat} {M : Mem} (h : Rd g off vs w0 S) (hw : Inv w0 S M w) : Rd g off vs w (ids M) := by
  obtain ⟨h1, h2, h3⟩ := h
  refine ⟨fun hm => ?_, Nat.lt_of_lt_of_le h2 hw.stp.size, fun i v hv => ?_⟩
  · obtain ⟨b, hb, he⟩ := List.mem_map.1 hm
    rcases hw.own b hb with h' | h'
    · exact h1 (he ▸ h')
    · omega
  · rw [← h3 i v hv]
    unfold World.cell?
    rw [show w.heap[(⟨g, off + i, none⟩ : Addr).block]? = w0.heap[(⟨g, off + i, none⟩ : Addr).block]? from hw.stp.block g h2 h1]
def CtW (P : Program) (f : FuncId) (args : Array Value) (g off : Nat) (vs : List Value) (M : Mem) (R : Value → Mem → Prop) : Prop :=
  ∀ w, Has M w → Rd g off vs w (ids M) → Calls P f args w fun e w' => ∃ v M', R v M' ∧ e = .returned v ∧ Inv w (ids M) M' w'
def OpRW (P : Program) (St : Slots) (g off : Nat) (vs : List Value) (M : Mem) (o : Oper) (R : Value → Mem → Prop) : Prop :=
  ∀ (ρ : Operand → Value) (w0 : World) (S : List Nat) (w : World), (∀ x v, evalS St x = some v → ρ x = v) → Inv w0 S M w → Rd g off vs w (ids M) → Yields P w0 S R ((execOp ρ o).run P w)
section
variable {C : Ctx} {St : Slots} {M : Mem} {Q : Exit → Act → World → Prop} {g off : Nat} {vs : List Value}
theorem at_cW {ops : List Oper} {o : Oper} {l : List Oper} {R : Value → Mem → Prop} (hro : Rd g off vs C.w0 C.S) (hg : wantS ops St o = some true) (hd : fits C.n o.dst = true) (h : OpRW C.P St g off vs M o R)
    (k : ∀ v M', R v M' → At C (putS St o.dst v) M' (wpList C.P ops.toArray Q l)) : At C St M (wpList C.P ops.toArray Q (o :: l)) := by
  intro a w ha hw
  refine wpList_step fun K hK => ?_
  rw [if_pos (wanted_of ha hg)]
  exact Yields.upon (h _ _ _ _ (fun x v hx => ha.eval hx) hw (hro.now hw)) fun v M' w' hR hI => hK _ _ (k v M' hR _ _ (ha.put hd v) hI)
theorem at_dW {ops : List Oper} {o : Oper} {l : List Oper} {v : Value} {M' : Mem} (hro : Rd g off vs C.w0 C.S) (hg : wantS ops St o = some true) (hd : fits C.n o.dst = true) (h : OpRW C.P St g off vs M o (Det v M'))
    (k : At C (putS St o.dst v) M' (wpList C.P ops.toArray Q l)) : At C St M (wpList C.P ops.toArray Q (o :: l)) :=
  at_cW hro hg hd h (by rintro _ _ ⟨rfl, rfl⟩; exact k)
end
theorem ct_ofW {P : Program} {f : FuncId} {fn : Func} {c : Code} {vs : List Value} {n g off : Nat} {xs : List Value} {M : Mem} {R : Value → Mem → Prop} (hf : P.funcs[f]? = some fn) (hb : fn.body = some c) (hn : fn.ntmps = n) (hl : Nat.ble vs.length n = true)
    (h : ∀ w0, Rd g off xs w0 (ids M) → At ⟨P, n, w0, ids M⟩ (slotsOf vs 0) M (c.wp P (Done ⟨P, n, w0, ids M⟩ fn R))) : CtW P f vs.toArray g off xs M R := by
  intro w hw hro
  refine calls_of_wp hf hb ?_
  refine h w hro _ w ⟨?_, rfl, fun t v ht => ?_⟩ (Inv.start hw)
  · have : vs.length ≤ n := Nat.le_of_ble_eq_true hl
    simp [hn]; omega
  · obtain ⟨_, h2⟩ := look_slotsOf vs 0 t v ht
    have hlt : t < vs.length := by
      have := (List.getElem?_eq_some_iff.1 h2).1
      omega
    simp only [Array.getElem?_append, List.size_toArray, hlt, if_true, List.getElem?_toArray]
    simpa using h2
section
variable {P : Program} {St : Slots} {M : Mem} {o : Oper} {g off : Nat} {xs : List Value}
theorem opr_callW {as : List Operand} {ts : Array TypeId} {fo : Operand} {f : FuncId} {fn : Func} {vs : List Value} {R : Value → Mem → Prop} (ho : o.op = .call { callee := .value fo, args := as.toArray, argTypes := ts })
    (hfo : evalS St fo = some (.func (.func f) #[] #[])) (hxs : evalL St as = some vs) (hf : P.funcs[f]? = some fn) (hname : (fn.name == "runtime.NumGoroutine") = false) (hbody : fn.body.isNone = false)
    (h : CtW P f vs.toArray g off xs M R) : OpRW P St g off xs M o R := by
  intro ρ w0 S w hρ hw hro
  have hrun : (execOp ρ o).run P w = .ok (.enter f vs.toArray) w := by
    have h1 : ¬ fn.name = "runtime.NumGoroutine" := by simpa using hname
    simp only [execOp, ho, resolve, hρ _ _ hfo, List.map_toArray, evalL_map hρ as vs hxs, Deferred.ofValue, Sem.run_bind, Sem.run_pure, Result.andThen_ok, invoke, callFunc, run_program, hf, hname, hbody, Bool.false_eq_true, if_false, List.append_toArray, List.append_nil, List.nil_append]
  rw [hrun]
  refine (h w hw.has hro).mono ?_
  rintro e w' ⟨v, M', hR, rfl, hI⟩
  exact ⟨v, M', hR, rfl, hw.trans hI⟩
theorem opr_loadW {T : TypeId} {x : Operand} {off' j : Nat} {v : Value} {d : TypeDesc} (ho : o.op = .load T x) (hx : evalS St x = some (.pointer (some ⟨g, off', none⟩))) (hu : P.underlying T = some d) (hd : isAggD d = false) (he : off + j = off') (hc : xs[j]? = some v) : OpRW P St g off xs M o (Det v M) := by
  intro ρ w0 S w hρ hw hro
  subst he
  have h1 := hro.2.2 j v hc
  have hagg : (isAgg T).run P w = .ok false w := by
    unfold isAgg
    rw [Sem.run_bind, run_underlying hu w]
    cases d <;> simp_all [isAggD]
  have hrun : (execOp ρ o).run P w = .ok (.value v) w := by
    simp only [execOp, ho, hρ _ _ hx, Instr.loadAt, Instr.sureAddr, loadVar, Sem.run_bind, Sem.run_pure, Result.andThen_ok, hagg, Sem.run_ite, run_load, h1]
    rfl
  rw [hrun]
  exact ⟨M, ⟨rfl, rfl⟩, hw⟩
theorem opr_appendW {t e g1 n cap m c i : Nat} {x y : Operand} {cs : List Value} {z : Value} (ho : o.op = .call { callee := .builtin .append, args := #[x, y], argTypes := #[t, t] })
    (hx : evalS St x = some (.slice (some ⟨g1, 0, none⟩) n cap)) (hy : evalS St y = some (.slice (some ⟨g, off, none⟩) m c)) (hb : M[i]? = some ⟨g1, e, cs⟩) (hcs : cs.length = cap) (hn : n ≤ cap) (hnl : xs.length = m) (hfl : ∀ v ∈ xs, flat v = true)
    (hu : P.underlying t = some (.slice e)) (hi' : (P.info? e).map (fun i => (i.size, i.zero)) = some (1, some z)) (hz : z.cells.size = 1) (hby : (P.info? e).map (fun i => decide (i.bytes ≤ 8)) = some true) (hm : n + m ≤ 4000000000000) :
    OpRW P St g off xs M o (fun v M' => ∃ s : Sl, v = .slice (some ⟨s.g, 0, none⟩) (n + m) s.cap ∧ s.cs.length = s.cap ∧ n + m ≤ s.cap ∧ s.cs.take (n + m) = cs.take n ++ xs ∧ M' = ⟨s.g, e, s.cs⟩ :: M.eraseIdx i) := by
  intro ρ w0 S w hρ hw hro
  refine append_core ho (hρ _ _ hx) (hρ _ _ hy) hb hcs hn hnl hfl hu hi' hz hby hm hw fun k v hk => ?_
  have hadd : (⟨g, off, none⟩ : Addr).add k = ⟨g, off + k, none⟩ := by unfold Addr.add; split <;> simp_all
  rw [hadd]; exact hro.2.2 k v hk
end
end Go.Proofs.YtflbkfjemmmipaaDoor
