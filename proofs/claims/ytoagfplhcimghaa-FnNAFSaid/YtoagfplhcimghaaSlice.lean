/- Slices of slices. -/
import Derived.Test.YtoagfplhcimghaaCopy
import Derived.Laws.Slices
namespace Go.Proofs.Ytoagfplhcimghaa
open Go
section
variable {P : Program} {St : Slots} {M : Mem} {o : Oper}
theorem opr_sliceSHi {T : TypeId} {x hi : Operand} {g off n c b m : Nat} {k : IntKind} (ho : o.op = .slice T x none (some hi) none) (hx : evalS St x = some (.slice (some ⟨g, off, none⟩) n c)) (hhi : evalS St hi = some (.int k (b : Int)))
    (hu : P.underlying T = some (.slice (P.elem T))) (hs : (P.info? (P.elem T)).map (·.size) = some m) (hb : b ≤ c) (hc : 0 < c) : OpR P St M o (Det (.slice (some ⟨g, off, none⟩) b c) M) :=
  opr_value fun ρ w0 S w hρ hw => by
    obtain ⟨i, hi', hs'⟩ := Option.map_eq_some_iff.1 hs
    have h := run_slice_h (P := P) (w := w) (t := T) (some ⟨g, off, none⟩) n c hu k (b : Int) (by omega) (by omega)
    have hsz : (sizeOf (P.elem T)).run P w = .ok i.size w := by simp only [sizeOf, typeInfo, Sem.run_bind, run_program, Sem.run_pure, Result.andThen_ok, hi']
    rw [hsz] at h
    have hv : sliced (some ⟨g, off, none⟩) 0 (b : Int).toNat c i.size = .slice (some ⟨g, off, none⟩) b c := by
      simp [sliced, Addr.add]
    simp only [execOp, ho, Option.map_some, Option.map_none, hρ _ _ hx, hρ _ _ hhi, run_sliceAt_slice (h := hu), Sem.run_bind, h, Result.andThen_ok, Sem.run_pure, hv]
theorem opr_sliceSLo {T : TypeId} {x lo : Operand} {g off n c a m : Nat} {k : IntKind} (ho : o.op = .slice T x (some lo) none none) (hx : evalS St x = some (.slice (some ⟨g, off, none⟩) n c)) (hlo : evalS St lo = some (.int k (a : Int)))
    (hu : P.underlying T = some (.slice (P.elem T))) (hs : (P.info? (P.elem T)).map (·.size) = some m) (ha : a ≤ n) (hc : n ≤ c) (hac : a < c) {off' : Nat} (hoff : off + a * m = off') : OpR P St M o (Det (.slice (some ⟨g, off', none⟩) (n - a) (c - a)) M) :=
  opr_value fun ρ w0 S w hρ hw => by
    obtain ⟨i, hi', hs'⟩ := Option.map_eq_some_iff.1 hs
    have h := run_slice_l (P := P) (w := w) (t := T) (some ⟨g, off, none⟩) n c hu k (a : Int) (by omega) (by omega)
    have hsz : (sizeOf (P.elem T)).run P w = .ok i.size w := by simp only [sizeOf, typeInfo, Sem.run_bind, run_program, Sem.run_pure, Result.andThen_ok, hi']
    rw [hsz] at h
    have hv : sliced (some ⟨g, off, none⟩) (a : Int).toNat n c i.size = .slice (some ⟨g, off', none⟩) (n - a) (c - a) := by
      subst hoff
      have : ¬ c = a := by omega
      simp [sliced, Addr.add, this, hs']
    simp only [execOp, ho, Option.map_some, Option.map_none, hρ _ _ hx, hρ _ _ hlo, run_sliceAt_slice (h := hu), Sem.run_bind, h, Result.andThen_ok, Sem.run_pure, hv]
end
end Go.Proofs.Ytoagfplhcimghaa
