/- The field's functions: sums, differences. -/
import Derived.Test.YtflbkfjemmmipaaDoorBin
import Derived.Test.YtflbkfjemmmipaaDoorWords
import Derived.Shelf.Spec.BitsCarry
namespace Go.Proofs.YtflbkfjemmmipaaDoor
open Go
set_option maxRecDepth 100000

theorem ple {cs : List Value} {a n x : Nat} (h : n ≤ cs.length) (ha : a + 8 ≤ n) : n ≤ (splice cs a (B8 x)).length := by
  rw [splice_length (by rw [B8_length]; omega)]; exact h
def Add64R (a b c : Nat) (M : Mem) : Value → Mem → Prop := fun v M' => ∃ s k : Nat, v = .tuple #[.int .u64 (s : Int), .int .u64 (k : Int)] ∧ s + 18446744073709551616 * k = a + b + c ∧ s < 18446744073709551616 ∧ k ≤ 1 ∧ M' = M
theorem opr_Add64 {St : Slots} {M : Mem} {o : Oper} {xs : List Operand} {ts : Array TypeId} {fo : Operand} {a b c : Nat} (ho : o.op = .call { callee := .value fo, args := xs.toArray, argTypes := ts })
    (hfo : evalS St fo = some (.func (.func 50) #[] #[])) (hxs : evalL St xs = some [.int .u64 (a : Int), .int .u64 (b : Int), .int .u64 (c : Int)]) (hc : c ≤ 1) (ha : a < 18446744073709551616) (hb : b < 18446744073709551616) : OpR Tryd.prog St M o (Add64R a b c M) := by
  have h := opr_extern (P := Tryd.prog) (M := M) (v := .tuple #[.int .u64 (((a : Int) + b + c) % 18446744073709551616), .int .u64 (((a : Int) + b + c) / 18446744073709551616)]) ho hfo hxs (fun w => by
    rw [run_callFunc_extern Tryd.func50 (by kernel_rfl) (by kernel_rfl) (by kernel_rfl) (e := add64Entry) (by kernel_rfl), run_add64 a b c (by omega) (by omega) (by omega) (by omega)]
    rfl)
  refine h.mono ?_
  rintro v M' ⟨rfl, rfl⟩
  refine ⟨(a + b + c) % 18446744073709551616, (a + b + c) / 18446744073709551616, ?_, by omega, by omega, by omega, rfl⟩
  congr 4 <;> omega
def Sub64R (a b c : Nat) (M : Mem) : Value → Mem → Prop := fun v M' => ∃ s k : Nat, v = .tuple #[.int .u64 (s : Int), .int .u64 (k : Int)] ∧ s + b + c = a + 18446744073709551616 * k ∧ s < 18446744073709551616 ∧ k ≤ 1 ∧ M' = M
theorem opr_Sub64 {St : Slots} {M : Mem} {o : Oper} {xs : List Operand} {ts : Array TypeId} {fo : Operand} {a b c : Nat} (ho : o.op = .call { callee := .value fo, args := xs.toArray, argTypes := ts })
    (hfo : evalS St fo = some (.func (.func 51) #[] #[])) (hxs : evalL St xs = some [.int .u64 (a : Int), .int .u64 (b : Int), .int .u64 (c : Int)]) (hc : c ≤ 1) (ha : a < 18446744073709551616) (hb : b < 18446744073709551616) : OpR Tryd.prog St M o (Sub64R a b c M) := by
  have h := opr_extern (P := Tryd.prog) (M := M) (v := .tuple #[.int .u64 (((a + 18446744073709551616 - b - c) % 18446744073709551616 : Nat) : Int), .int .u64 ((if a < b + c then 1 else 0 : Nat) : Int)]) ho hfo hxs (fun w => by
    rw [run_callFunc_extern Tryd.func51 (by kernel_rfl) (by kernel_rfl) (by kernel_rfl) (e := sub64Entry) (by kernel_rfl), run_sub64 a b c hc]
    rfl)
  refine h.mono ?_
  rintro v M' ⟨rfl, rfl⟩
  refine ⟨(a + 18446744073709551616 - b - c) % 18446744073709551616, if a < b + c then 1 else 0, ?_, by split <;> omega, by omega, by split <;> omega, rfl⟩
  rfl
end Go.Proofs.YtflbkfjemmmipaaDoor
