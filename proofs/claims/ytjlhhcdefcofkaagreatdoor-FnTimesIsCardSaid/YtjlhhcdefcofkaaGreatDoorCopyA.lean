/- Copy, Slice, in one text. -/
import Derived.Test.YtjlhhcdefcofkaaGreatDoorSpecPlain
import Derived.Laws.CopyRow
import Derived.Laws.Slices
/- Parts of arrays as slices, their lengths, and copying from one to another. -/
namespace Go.Proofs.YtjlhhcdefcofkaaGreatDoor
open Go

section
variable {P : Program} {St : Slots} {M : Mem} {o : Oper}
theorem opr_sliceHi {T E : TypeId} {x hi : Operand} {g off n b m : Nat} {k' : IntKind} (ho : o.op = .slice T x none (some hi) none) (hx : evalS St x = some (.pointer (some ⟨g, off, none⟩)))
    (hhi : evalS St hi = some (.int k' (b : Int))) (hu : P.underlying T = some (.array n E)) (hbn : b ≤ n) (hn : 0 < n) (hi'' : (P.info? E).map (·.size) = some m) :
    OpR P St M o (Det (.slice (some ⟨g, off, none⟩) b n) M) :=
  opr_value fun ρ w0 S w hρ hw => by
    obtain ⟨i, hi', hs⟩ := Option.map_eq_some_iff.1 hi''
    have hadd : (⟨g, off, none⟩ : Addr).add (0 * i.size) = ⟨g, off, none⟩ := by simp [Addr.add]
    have h1 : (0 : Int) ≤ (b : Int) ∧ (b : Int) ≤ (n : Int) := by omega
    have h3 : ¬ n = 0 := by omega
    simp only [execOp, ho, Option.map_some, Option.map_none, hρ _ _ hx, hρ _ _ hhi, Instr.sliceAt, Instr.sureAddr, Instr.sliceBounds, Instr.sliceBound, asIntOf, sizeOf, typeInfo, Sem.run_bind, run_underlying hu, Sem.run_pure, Result.andThen_ok, hi', run_program, h1, h3, and_self, if_true, if_false, Sem.run_ite, Int.toNat_natCast, Nat.sub_zero, hadd]
theorem opr_sliceLo {T E : TypeId} {x lo : Operand} {g off n a : Nat} {k : IntKind} (ho : o.op = .slice T x (some lo) none none) (hx : evalS St x = some (.pointer (some ⟨g, off, none⟩)))
    (hlo : evalS St lo = some (.int k (a : Int))) (hu : P.underlying T = some (.array n E)) (han : a < n) (hi'' : (P.info? E).map (·.size) = some 1) {off' : Nat} (hoff : off + a = off') :
    OpR P St M o (Det (.slice (some ⟨g, off', none⟩) (n - a) (n - a)) M) :=
  opr_value fun ρ w0 S w hρ hw => by
    obtain ⟨i, hi', hs⟩ := Option.map_eq_some_iff.1 hi''
    have hadd : (⟨g, off, none⟩ : Addr).add a = ⟨g, off', none⟩ := by subst hoff; unfold Addr.add; split <;> simp_all
    have h2 : (0 : Int) ≤ (a : Int) ∧ (a : Int) ≤ (n : Int) := by omega
    have h3 : ¬ n = a := by omega
    simp only [execOp, ho, Option.map_some, Option.map_none, hρ _ _ hx, hρ _ _ hlo, Instr.sliceAt, Instr.sureAddr, Instr.sliceBounds, Instr.sliceBound, asIntOf, sizeOf, typeInfo, Sem.run_bind, run_underlying hu, Sem.run_pure, Result.andThen_ok, hi', hs, run_program, h2, h3, and_self, if_true, if_false, Sem.run_ite, Int.toNat_natCast, Nat.mul_one, hadd]
theorem opr_lenS {T : TypeId} {x : Operand} {a : Option Addr} {n c : Nat} (ho : o.op = .call { callee := .builtin .len, args := #[x], argTypes := #[T] }) (hx : evalS St x = some (.slice a n c)) (hu : P.underlying T = some (.slice (P.elem T))) : OpR P St M o (Det (.int .i64 (n : Int)) M) :=
  opr_value fun ρ w0 S w hρ hw => by
    have hr : (Builtin.len_ #[T] o.type #[.slice a n c]).run P w = .ok (.int .i64 (n : Int)) w := run_len_slice (P := P) (w := w) T o.type a n c hu
    simp only [execOp, ho, resolve, List.map_toArray, List.map_cons, List.map_nil, hρ _ _ hx, Sem.run_bind, Sem.run_pure, Result.andThen_ok, invoke, builtin, hr]
theorem opr_copy {dT sT e : TypeId} {x y : Operand} {g g' a a' dl dc sl sc n i j : Nat} {T T' : TypeId} {cs ds vs es : List Value} (ho : o.op = .call { callee := .builtin .copy, args := #[x, y], argTypes := #[dT, sT] })
    (hx : evalS St x = some (.slice (some ⟨g, a, none⟩) dl dc)) (hy : evalS St y = some (.slice (some ⟨g', a', none⟩) sl sc)) (hb : M[i]? = some ⟨g, T, cs⟩) (hb' : M[j]? = some ⟨g', T', ds⟩) (hu : P.underlying dT = some (.slice e)) (hs : (P.info? e).map (·.size) = some 1)
    (hn : Nat.min sl dl = n) (hvl : vs.length = n) (hv : (ds.drop a').take n = vs) (hle : a + n ≤ cs.length) (hf : ∀ v ∈ vs, flat v = true) (hes : splice cs a vs = es) : OpR P St M o (Det (goInt n) (M.set i ⟨g, T, es⟩)) := by
  intro ρ w0 S w hρ hw
  have hg := hw.has.at_ _ (List.mem_of_getElem? hb)
  have hsrc : ∀ k v, vs[k]? = some v → w.cell? ((⟨g', a', none⟩ : Addr).add k) = some v := by
    intro k v hk
    have hadd : (⟨g', a', none⟩ : Addr).add k = ⟨g', a' + k, none⟩ := by unfold Addr.add; split <;> simp_all
    rw [hadd, cell_at hw hb' (a' + k)]
    subst hv
    have hlt : k < n := by have := (List.getElem?_eq_some_iff.1 hk).1; simp at this; omega
    rw [List.getElem?_take_of_lt hlt, List.getElem?_drop] at hk
    exact hk
  have hrun := run_copy_row (P := P) w dT sT o.type e g a dl dc ⟨g', a', none⟩ sl sc cs.toArray T vs hu hs hg (by rw [hvl, hn]) hsrc (by rw [hvl]; simpa using hle) hf
  have : (execOp ρ o).run P w = .ok (.value (goInt n)) (w.setRow g es.toArray) := by
    have he : (cs.toArray.toList.take a ++ vs ++ cs.toArray.toList.drop (a + vs.length)) = es := hes
    rw [he, hvl] at hrun
    simp only [execOp, ho, resolve, List.map_toArray, List.map_cons, List.map_nil, hρ _ _ hx, hρ _ _ hy, Sem.run_bind, Sem.run_pure, Result.andThen_ok, invoke, builtin, hrun]
  rw [this]
  exact ⟨_, ⟨rfl, rfl⟩, hw.setRow hb es⟩
end
end Go.Proofs.YtjlhhcdefcofkaaGreatDoor

/- Slices of slices. -/
namespace Go.Proofs.YtjlhhcdefcofkaaGreatDoor
open Go
section
variable {P : Program} {St : Slots} {M : Mem} {o : Oper}
theorem opr_sliceSHi {T : TypeId} {x hi : Operand} {g off n c b m : Nat} {k : IntKind} (ho : o.op = .slice T x none (some hi) none) (hx : evalS St x = some (.slice (some ⟨g, off, none⟩) n c)) (hhi : evalS St hi = some (.int k (b : Int)))
    (hu : P.underlying T = some (.slice (P.elem T))) (hs : (P.info? (P.elem T)).map (·.size) = some m) (hb : b ≤ c) (hc : 0 < c) : OpR P St M o (Det (.slice (some ⟨g, off, none⟩) b c) M) :=
  opr_value fun ρ w0 S w hρ hw => by
    obtain ⟨i, hi', hs'⟩ := Option.map_eq_some_iff.1 hs
    have h := run_slice_h (P := P) (w := w) (t := T) (some ⟨g, off, none⟩) n c hu k (b : Int) (by omega) (by omega)
    have hsz : (sizeOf (P.elem T)).run P w = .ok i.size w := by simp only [sizeOf, typeInfo, Sem.run_bind, run_program, Sem.run_pure, Result.andThen_ok, hi']
    rw [hsz] at h
    have hv : sliced (some ⟨g, off, none⟩) 0 (b : Int).toNat c i.size = .slice (some ⟨g, off, none⟩) b c := by
      simp [sliced, Addr.add]
    simp only [execOp, ho, Option.map_some, Option.map_none, hρ _ _ hx, hρ _ _ hhi, run_sliceAt_slice (h := hu), Sem.run_bind, h, Result.andThen_ok, Sem.run_pure, hv]
theorem opr_sliceSLo {T : TypeId} {x lo : Operand} {g off n c a m : Nat} {k : IntKind} (ho : o.op = .slice T x (some lo) none none) (hx : evalS St x = some (.slice (some ⟨g, off, none⟩) n c)) (hlo : evalS St lo = some (.int k (a : Int)))
    (hu : P.underlying T = some (.slice (P.elem T))) (hs : (P.info? (P.elem T)).map (·.size) = some m) (ha : a ≤ n) (hc : n ≤ c) (hac : a < c) {off' : Nat} (hoff : off + a * m = off') : OpR P St M o (Det (.slice (some ⟨g, off', none⟩) (n - a) (c - a)) M) :=
  opr_value fun ρ w0 S w hρ hw => by
    obtain ⟨i, hi', hs'⟩ := Option.map_eq_some_iff.1 hs
    have h := run_slice_l (P := P) (w := w) (t := T) (some ⟨g, off, none⟩) n c hu k (a : Int) (by omega) (by omega)
    have hsz : (sizeOf (P.elem T)).run P w = .ok i.size w := by simp only [sizeOf, typeInfo, Sem.run_bind, run_program, Sem.run_pure, Result.andThen_ok, hi']
    rw [hsz] at h
    have hv : sliced (some ⟨g, off, none⟩) (a : Int).toNat n c i.size = .slice (some ⟨g, off', none⟩) (n - a) (c - a) := by
      subst hoff
      have : ¬ c = a := by omega
      simp [sliced, Addr.add, this, hs']
    simp only [execOp, ho, Option.map_some, Option.map_none, hρ _ _ hx, hρ _ _ hlo, run_sliceAt_slice (h := hu), Sem.run_bind, h, Result.andThen_ok, Sem.run_pure, hv]
end
end Go.Proofs.YtjlhhcdefcofkaaGreatDoor
