/- Products and squares. -/
import Derived.Test.YtjlhhcdefcofkaaGreatDoorLaws2
import Derived.Test.YtjlhhcdefcofkaaGreatDoorProdA
namespace Go.Proofs.YtjlhhcdefcofkaaGreatDoor
open Go
set_option maxRecDepth 100000

theorem el_le {l : List Nat} {k o a : Nat} (h : l[k]? = some a) (ho : 56 * k = o) : o + 56 ≤ 56 * l.length := by
  have := (List.getElem?_eq_some_iff.1 h).1
  omega
theorem opr_eqlT {P : Program} {St : Slots} {M : Mem} {o : Oper} {x y : Operand} {T T' B : Nat} {a b : Nat} (ho : o.op = .binOp .eql T x y T') (hx : evalS St x = some (.agg (E a).toArray)) (hy : evalS St y = some (.agg (E b).toArray)) (hu : P.underlying T = some (.array 56 B)) (he : P.underlying B = some (.int .u8)) (hs : (P.info? B).map (·.size) = some 1)
    (hq : P.eqGuardType P.depth T = false) (h : a = b) (hb : b < RR) : OpR P St M o (Det (.bool true) M) := by
  have k := opr_eqlE (M := M) ho hx hy hu he hs hq (h ▸ hb) hb
  rw [decide_eq_true h] at k
  exact k
theorem opr_pickT {P : Program} {St : Slots} {M : Mem} {o : Oper} {c x y : Operand} {u : Value} (ho : o.op = .pick c x y) (hc : evalS St c = some (.bool true)) (hx : evalS St x = some u) : OpR P St M o (Det u M) :=
  opr_value fun ρ w0 S w hρ hw => by
    simp only [execOp, ho, hρ _ _ hc, hρ _ _ hx, asBool, Sem.run_bind, Sem.run_pure, Result.andThen_ok, if_true]

def MulR (M : Mem) (iz gz Tz kz n : Nat) (lz : List Nat) : Value → Mem → Prop := fun v M' => ∃ r, r < RR ∧ r % pp = n % pp ∧ v = .tuple #[] ∧ M' = M.set iz ⟨gz, Tz, EE (lz.set kz r)⟩
theorem mulR_tuple {M : Mem} {iz gz Tz kz n : Nat} {lz : List Nat} : ∀ v M', MulR M iz gz Tz kz n lz v M' → v = .tuple #[] := fun _ _ ⟨_, _, _, h, _⟩ => h
theorem Mul_ct {M : Mem} {iz ix iy gz gx gy Tz Tx Ty kz kx ky oz ox oy a b : Nat} {lz lx ly : List Nat} (hz : M[iz]? = some ⟨gz, Tz, EE lz⟩) (hkz : kz < lz.length) (hoz : 56 * kz = oz) (hx : M[ix]? = some ⟨gx, Tx, EE lx⟩) (hkx : lx[kx]? = some a) (hox : 56 * kx = ox) (hy : M[iy]? = some ⟨gy, Ty, EE ly⟩) (hky : ly[ky]? = some b) (hoy : 56 * ky = oy) (ha : a < RR) (hb : b < RR) : Ct Tryz.prog 43 #[.pointer (some ⟨gz, oz, none⟩), .pointer (some ⟨gx, ox, none⟩), .pointer (some ⟨gy, oy, none⟩)] M (MulR M iz gz Tz kz (a * b) lz) :=
  Mul_pass (mul_pass (mulGeneric_ct hz hkz hoz hx hkx hox hy hky hoy ha hb) mulR_tuple) mulR_tuple
theorem sqrGeneric_ct {M : Mem} {iz ix gz gx Tz Tx kz kx oz ox a : Nat} {lz lx : List Nat} (hz : M[iz]? = some ⟨gz, Tz, EE lz⟩) (hkz : kz < lz.length) (hoz : 56 * kz = oz) (hx : M[ix]? = some ⟨gx, Tx, EE lx⟩) (hkx : lx[kx]? = some a) (hox : 56 * kx = ox) (ha : a < RR) : Ct Tryz.prog 101 #[.pointer (some ⟨gz, oz, none⟩), .pointer (some ⟨gx, ox, none⟩)] M (MulR M iz gz Tz kz (a * a) lz) := by
  refine ct_of (vs := [.pointer (some ⟨gz, oz, none⟩), .pointer (some ⟨gx, ox, none⟩)]) Tryz.func101 rfl Tryz.ntmps101 rfl fun w0 => ?_
  refine at_region ?_
  refine at_d rfl rfl (opr_move rfl rfl) ?_
  refine at_d rfl rfl (opr_move rfl rfl) ?_
  refine at_d rfl rfl (opr_move rfl rfl) ?_
  refine at_c rfl rfl (opr_call rfl rfl rfl Tryz.func89 (by kernel_rfl) rfl (mulGeneric_ct hz hkz hoz hx hkx hox hx hkx hox ha ha)) ?_
  intro v M' hv
  refine at_nil ?_
  obtain rfl := mulR_tuple v M' hv
  exact done_of (res0 rfl) hv (List.Sublist.refl _)
theorem Sqr_ct {M : Mem} {iz ix gz gx Tz Tx kz kx oz ox a : Nat} {lz lx : List Nat} (hz : M[iz]? = some ⟨gz, Tz, EE lz⟩) (hkz : kz < lz.length) (hoz : 56 * kz = oz) (hx : M[ix]? = some ⟨gx, Tx, EE lx⟩) (hkx : lx[kx]? = some a) (hox : 56 * kx = ox) (ha : a < RR) : Ct Tryz.prog 61 #[.pointer (some ⟨gz, oz, none⟩), .pointer (some ⟨gx, ox, none⟩)] M (MulR M iz gz Tz kz (a * a) lz) :=
  Sqr_pass (sqr_pass (sqrGeneric_ct hz hkz hoz hx hkx hox ha) mulR_tuple) mulR_tuple
theorem built_small (c : Nat) : Tryz.prog.built 22 [(0, .int .u8 (c : Int))] = some (.int .u8 (c : Int) :: List.replicate 55 (.int .u8 0)).toArray := by kernel_rfl
theorem E_small {c : Nat} (hc : c < 256) : (Value.int .u8 (c : Int) :: List.replicate 55 (.int .u8 0)) = E c := by
  have h0 : c / 256 = 0 := Nat.div_eq_of_lt hc
  have hz : ∀ n, (digs 256 n 0).map u8V = List.replicate n (.int .u8 0) := by
    intro n
    induction n with
    | zero => rfl
    | succ n ih => rw [digs, Nat.zero_mod, Nat.zero_div, List.map_cons, ih]; rfl
  rw [E, digs, h0, Nat.mod_eq_of_lt hc, List.map_cons, hz]; rfl
theorem opr_buildE {P : Program} {St : Slots} {M : Mem} {o : Oper} {T : TypeId} {ps : List (Nat × Operand)} {vs : List (Nat × Value)} {cs ds : List Value} (ho : o.op = .build T ps.toArray) (hps : evalP St ps = some vs) (hb : P.built T vs = some cs.toArray) (e : cs = ds) : OpR P St M o (Det (.agg ds.toArray) M) :=
  e ▸ opr_buildP ho hps hb
end Go.Proofs.YtjlhhcdefcofkaaGreatDoor
