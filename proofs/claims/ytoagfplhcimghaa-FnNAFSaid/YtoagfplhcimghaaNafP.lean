/- Laws of operations, plain. -/
import Derived.Test.YtoagfplhcimghaaScalP
import Derived.Test.YtoagfplhcimghaaSpec
import Derived.Test.YtoagfplhcimghaaSlice
import Derived.Test.YtoagfplhcimghaaEq
import Derived.Test.YtoagfplhcimghaaDrawG
import Derived.Test.YtoagfplhcimghaaDrawK
namespace Go.Proofs.Ytoagfplhcimghaa
open Go
set_option maxRecDepth 100000

def evalP (St : Slots) : List (Nat × Operand) → Option (List (Nat × Value))
  | [] => some []
  | (i, x) :: r => match evalS St x, evalP St r with
    | some v, some vs => some ((i, v) :: vs)
    | _, _ => none
theorem evalP_map {St : Slots} {ρ : Operand → Value} (hρ : ∀ x v, evalS St x = some v → ρ x = v) : ∀ (ps : List (Nat × Operand)) (vs : List (Nat × Value)), evalP St ps = some vs → ps.map (fun p => (p.1, ρ p.2)) = vs
  | [], vs, h => by simp only [evalP, Option.some.injEq] at h; subst h; rfl
  | (i, x) :: r, vs, h => by
    unfold evalP at h
    cases hx : evalS St x with
    | none => rw [hx] at h; simp at h
    | some v =>
      cases hr : evalP St r with
      | none => rw [hx, hr] at h; simp at h
      | some us =>
        rw [hx, hr] at h
        simp only [Option.some.injEq] at h
        subst h
        rw [List.map_cons, evalP_map hρ r us hr, hρ x v hx]
theorem opr_buildP {P : Program} {St : Slots} {M : Mem} {o : Oper} {T : TypeId} {ps : List (Nat × Operand)} {vs : List (Nat × Value)} {cs : List Value} (ho : o.op = .build T ps.toArray) (hps : evalP St ps = some vs) (hb : P.built T vs = some cs.toArray) : OpR P St M o (Det (.agg cs.toArray) M) :=
  opr_build ho (fun _ hρ => evalP_map hρ ps vs hps) hb
theorem opr_pickT {P : Program} {St : Slots} {M : Mem} {o : Oper} {c x y : Operand} {u : Value} (ho : o.op = .pick c x y) (hc : evalS St c = some (.bool true)) (hx : evalS St x = some u) : OpR P St M o (Det u M) :=
  opr_value fun ρ w0 S w hρ hw => by
    simp only [execOp, ho, hρ _ _ hc, hρ _ _ hx, asBool, Sem.run_bind, Sem.run_pure, Result.andThen_ok, if_true]
theorem opr_pickN {P : Program} {St : Slots} {M : Mem} {o : Oper} {c x y : Operand} {u : Value} (ho : o.op = .pick c x y) (hc : evalS St c = some (.bool false)) (hy : evalS St y = some u) : OpR P St M o (Det u M) :=
  opr_value fun ρ w0 S w hρ hw => by
    simp only [execOp, ho, hρ _ _ hc, hρ _ _ hy, asBool, Sem.run_bind, Sem.run_pure, Result.andThen_ok]
    rfl
theorem opr_buildE {P : Program} {St : Slots} {M : Mem} {o : Oper} {T : TypeId} {ps : List (Nat × Operand)} {vs : List (Nat × Value)} {cs ds : List Value} (ho : o.op = .build T ps.toArray) (hps : evalP St ps = some vs) (hb : P.built T vs = some cs.toArray) (e : cs = ds) : OpR P St M o (Det (.agg ds.toArray) M) :=
  e ▸ opr_buildP ho hps hb
theorem E_small {c : Nat} (hc : c < 256) : (Value.int .u8 (c : Int) :: List.replicate 55 (.int .u8 0)) = E c := by
  have h0 : c / 256 = 0 := Nat.div_eq_of_lt hc
  have hz : ∀ n, (digs 256 n 0).map u8V = List.replicate n (.int .u8 0) := by
    intro n
    induction n with
    | zero => rfl
    | succ n ih => rw [digs, Nat.zero_mod, Nat.zero_div, List.map_cons, ih]; rfl
  rw [E, digs, h0, Nat.mod_eq_of_lt hc, List.map_cons, hz]; rfl
def ssub (X Y : Nat) : Nat := (X + qq - Y) % qq

end Go.Proofs.Ytoagfplhcimghaa
