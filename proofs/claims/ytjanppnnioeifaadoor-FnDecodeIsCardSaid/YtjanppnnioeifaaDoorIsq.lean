/- Roots of quotients. -/
import Derived.Test.YtjanppnnioeifaaDoorPow
import Derived.Test.YtjanppnnioeifaaDoorSqrt
namespace Go.Proofs.YtjanppnnioeifaaDoor
open Go
set_option maxRecDepth 100000

theorem isq_val {x y r0 r1 r2 r3 r4 : Nat} (h0 : r0 % pp = x * y % pp) (h1 : r1 % pp = y * y % pp) (h2 : r2 % pp = r0 * r1 % pp) (h3 : Pw r2 ((pp - 3) / 4) r3) (h4 : r4 % pp = r3 * r0 % pp) : r4 % pp = isq x y := by
  rw [isq_eq, h4, Nat.mul_comm, Nat.mul_mod, h0, h3.2, Nat.pow_mod, h2, Nat.mul_mod r0 r1, h0, h1, ← Nat.mul_mod (x * y) (y * y), ← Nat.pow_mod, ← Nat.mul_mod]
theorem isq_RR (x y : Nat) : isq x y < RR := Nat.lt_trans (isq_lt x y) RR_pp
theorem isq_mod (x y : Nat) : isq x y % pp = isq x y := Nat.mod_eq_of_lt (isq_lt x y)
/-- Is the first one a quotient's root? -/
noncomputable def isqOk (x y : Nat) : Bool := decide (isq x y * isq x y * y % pp = x % pp)
theorem isq_test {x y r r5 r6 : Nat} (hx : x < RR) (h6 : r6 < RR) (hr : r % pp = isq x y) (e5 : r5 % pp = r * r % pp) (e6 : r6 % pp = r5 * y % pp) : decide (subF r6 x % pp = 0) = isqOk x y := by
  rw [isqOk, decide_eq_decide, ← el_eq_zero, el_subF h6 hx, ← el_eq, el_of e6, el_mul, el_of e5, el_mul, el_mul, el_mul]
  have : el r = el (isq x y) := el_of (by rw [hr, isq_mod])
  rw [this]
  generalize el (isq x y) * el (isq x y) * el y = u
  generalize el x = v
  constructor
  · intro h; grind
  · intro h; rw [h]; grind
theorem isq_yes {x y : Nat} (h : isqOk x y = true) : isq x y * isq x y % pp * y % pp = x % pp := by
  rw [Nat.mod_mul_mod]; exact of_decide_eq_true h
theorem isq_no {x y : Nat} (h : isqOk x y = false) (hx : x < RR) (hx0 : ¬ x % pp = 0) (hy0 : ¬ y % pp = 0) : isq x y * isq x y % pp * y % pp = subF pp x % pp := by
  have hn := of_decide_eq_false h
  rw [Nat.mod_mul_mod, subF_neg hx]
  have e : negp x = negp x % pp := (Nat.mod_eq_of_lt (by rw [negp]; exact Nat.mod_lt _ (by decide))).symm
  rw [e, ← el_eq, el_neg]
  rw [← el_eq] at hn
  simp only [el_mul] at hn ⊢
  exact (isq_or hx0 hy0).resolve_left hn
theorem opr_eqlNt {P : Program} {St : Slots} {M : Mem} {o : Oper} {x y : Operand} {T T' B a b : Nat} {t : Bool} (ho : o.op = .binOp .eql T x y T') (hx : evalS St x = some (.agg (N a).toArray)) (hy : evalS St y = some (.agg (N b).toArray)) (hu : P.underlying T = some (.array 28 B)) (he : P.underlying B = some (.int .u64)) (hs : (P.info? B).map (·.size) = some 1)
    (hq : P.eqGuardType P.depth T = false) (ha : a < RR) (hb : b < RR) (ht : decide (a = b) = t) : OpR P St M o (Det (.bool t) M) := ht ▸ opr_eqlN ho hx hy hu he hs hq ha hb
theorem opr_neqEF {P : Program} {St : Slots} {M : Mem} {o : Oper} {x y : Operand} {T T' B a b : Nat} (ho : o.op = .binOp .neq T x y T') (hx : evalS St x = some (.agg (E a).toArray)) (hy : evalS St y = some (.agg (E b).toArray)) (hu : P.underlying T = some (.array 56 B)) (he : P.underlying B = some (.int .u8)) (hs : (P.info? B).map (·.size) = some 1)
    (hq : P.eqGuardType P.depth T = false) (hb : b < RR) (h : a = b) : OpR P St M o (Det (.bool false) M) := by
  have k := opr_neqE (M := M) ho hx hy hu he hs hq (h ▸ hb) hb
  rw [decide_eq_true h] at k
  exact k
theorem opr_pickF {P : Program} {St : Slots} {M : Mem} {o : Oper} {c x y : Operand} {u : Value} (ho : o.op = .pick c x y) (hc : evalS St c = some (.bool false)) (hy : evalS St y = some u) : OpR P St M o (Det u M) :=
  opr_value fun ρ w0 S w hρ hw => by
    simp only [execOp, ho, hρ _ _ hc, hρ _ _ hy, asBool, Sem.run_bind, Sem.run_pure, Result.andThen_ok]
    rfl
theorem opr_pickT' {P : Program} {St : Slots} {M : Mem} {o : Oper} {c x y : Operand} {u : Value} (ho : o.op = .pick c x y) (hc : evalS St c = some (.bool true)) (hx : evalS St x = some u) : OpR P St M o (Det u M) :=
  opr_value fun ρ w0 S w hρ hw => by
    simp only [execOp, ho, hρ _ _ hc, hρ _ _ hx, asBool, Sem.run_bind, Sem.run_pure, Result.andThen_ok]
    rfl
def IsqR (M : Mem) (iz gz Tz kz a b : Nat) (lz : List Nat) : Value → Mem → Prop := fun v M' => ∃ r, r < RR ∧ r % pp = isq a b ∧ v = .bool (isqOk a b) ∧ M' = M.set iz ⟨gz, Tz, EE (lz.set kz r)⟩
theorem InvSqrt_ct {M : Mem} {ig Tp : Nat} (hG : M[ig]? = some ⟨3, Tp, EE [pp]⟩) {iz ix iy gz gx gy Tz Tx Ty kz kx ky oz ox oy a b : Nat} {lz lx ly : List Nat} (hz : M[iz]? = some ⟨gz, Tz, EE lz⟩) (hkz : kz < lz.length) (hoz : 56 * kz = oz) (hx : M[ix]? = some ⟨gx, Tx, EE lx⟩) (hkx : lx[kx]? = some a) (hox : 56 * kx = ox) (hy : M[iy]? = some ⟨gy, Ty, EE ly⟩) (hky : ly[ky]? = some b) (hoy : 56 * ky = oy) (hne : iz ≠ ix) (hne2 : iz ≠ iy) (hne3 : iz ≠ ig) (ha : a < RR) (hb : b < RR) : Ct Tryd.prog 85 #[.pointer (some ⟨gz, oz, none⟩), .pointer (some ⟨gx, ox, none⟩), .pointer (some ⟨gy, oy, none⟩)] M (IsqR M iz gz Tz kz a b lz) := by
  refine ct_of (vs := [.pointer (some ⟨gz, oz, none⟩), .pointer (some ⟨gx, ox, none⟩), .pointer (some ⟨gy, oy, none⟩)]) Tryd.func85 rfl Tryd.ntmps85 rfl fun w0 => ?_
  refine at_seq ?_
  refine at_region ?_
  refine at_d rfl rfl (opr_assign rfl rfl) ?_
  refine at_nil ?_
  refine at_then ?_
  refine at_seq ?_
  refine at_region ?_
  refine at_d rfl rfl (opr_buildE rfl rfl built_zero E_zero0) ?_
  refine at_n rfl rfl (opr_box (cs := EE [0]) rfl rfl (E_box _)) ?_
  intro g0
  refine at_d rfl rfl (opr_buildE rfl rfl built_zero E_zero0) ?_
  refine at_n rfl rfl (opr_box (cs := EE [0]) rfl rfl (E_box _)) ?_
  intro g1
  refine at_d rfl rfl (opr_assign rfl rfl) ?_
  refine at_d rfl rfl (opr_assign rfl rfl) ?_
  refine at_nil ?_
  refine at_then ?_
  refine at_seq ?_
  refine at_region ?_
  refine at_d rfl rfl (opr_move rfl rfl) ?_
  refine at_d rfl rfl (opr_move rfl rfl) ?_
  refine at_d rfl rfl (opr_move rfl rfl) ?_
  refine at_c rfl rfl (opr_call rfl rfl rfl Tryd.func73 (by kernel_rfl) rfl (Mul_ct (iz := 1) (ix := ix + 2) (iy := iy + 2) (kz := 0) (kx := kx) (ky := ky) rfl (Nat.le_of_ble_eq_true rfl) rfl hx hkx hox hy hky hoy ha hb)) ?_
  rintro _ _ ⟨r0, hr0, e0, rfl, rfl⟩
  refine at_nil ?_
  refine at_then ?_
  refine at_seq ?_
  refine at_region ?_
  refine at_d rfl rfl (opr_move rfl rfl) ?_
  refine at_d rfl rfl (opr_move rfl rfl) ?_
  refine at_c rfl rfl (opr_call rfl rfl rfl Tryd.func84 (by kernel_rfl) rfl (Sqr_ct (iz := 0) (ix := iy + 2) (kz := 0) (kx := ky) rfl (Nat.le_of_ble_eq_true rfl) rfl hy hky hoy hb)) ?_
  rintro _ _ ⟨r1, hr1, e1, rfl, rfl⟩
  refine at_nil ?_
  refine at_then ?_
  refine at_seq ?_
  refine at_region ?_
  refine at_d rfl rfl (opr_move rfl rfl) ?_
  refine at_d rfl rfl (opr_move rfl rfl) ?_
  refine at_d rfl rfl (opr_move rfl rfl) ?_
  refine at_c rfl rfl (opr_call rfl rfl rfl Tryd.func73 (by kernel_rfl) rfl (Mul_ct (iz := 0) (ix := 1) (iy := 0) (kz := 0) (kx := 0) (ky := 0) rfl (Nat.le_of_ble_eq_true rfl) rfl rfl rfl rfl rfl rfl rfl hr0 hr1)) ?_
  rintro _ _ ⟨r2, hr2, e2, rfl, rfl⟩
  refine at_nil ?_
  refine at_then ?_
  refine at_seq ?_
  refine at_region ?_
  refine at_d rfl rfl (opr_move rfl rfl) ?_
  refine at_d rfl rfl (opr_move rfl rfl) ?_
  refine at_c rfl rfl (opr_call rfl rfl rfl Tryd.func96 (by kernel_rfl) rfl (pow_ct (iz := iz + 2) (ix := 0) (kz := kz) (kx := 0) hz hkz hoz rfl rfl rfl (Nat.succ_ne_zero _) hr2)) ?_
  rintro _ _ ⟨r3, e3, rfl, rfl⟩
  have hb1 : (M.set iz ⟨gz, Tz, EE (lz.set kz r3)⟩)[iz]? = some ⟨gz, Tz, EE (lz.set kz r3)⟩ := get_set hz
  have hb1_3 : (M.set iz ⟨gz, Tz, EE (lz.set kz r3)⟩)[ig]? = some ⟨3, Tp, EE [pp]⟩ := get_set_ne hG hne3
  have hb1_gx : (M.set iz ⟨gz, Tz, EE (lz.set kz r3)⟩)[ix]? = some ⟨gx, Tx, EE lx⟩ := get_set_ne hx hne
  have hb1_gy : (M.set iz ⟨gz, Tz, EE (lz.set kz r3)⟩)[iy]? = some ⟨gy, Ty, EE ly⟩ := get_set_ne hy hne2
  refine at_mem (M2 := ⟨g1, 82, EE [r2]⟩ :: ⟨g0, 82, EE [r0]⟩ :: (M.set iz ⟨gz, Tz, EE (lz.set kz r3)⟩)) (by simp) ?_
  refine at_nil ?_
  refine at_then ?_
  refine at_seq ?_
  refine at_region ?_
  refine at_d rfl rfl (opr_move rfl rfl) ?_
  refine at_d rfl rfl (opr_move rfl rfl) ?_
  refine at_d rfl rfl (opr_move rfl rfl) ?_
  refine at_c rfl rfl (opr_call rfl rfl rfl Tryd.func73 (by kernel_rfl) rfl (Mul_ct (iz := iz + 2) (ix := iz + 2) (iy := 1) (kz := kz) (kx := kz) (ky := 0) hb1 (lset_lt hkz) hoz hb1 (lset hkz) hoz rfl rfl rfl e3.1 hr0)) ?_
  rintro _ _ ⟨r4, hr4, e4, rfl, rfl⟩
  have hQ : r4 % pp = isq a b := isq_val e0 e1 e2 (pw_cast e3 (by decide +kernel)) e4
  have hb2 : (M.set iz ⟨gz, Tz, EE (lz.set kz r4)⟩)[iz]? = some ⟨gz, Tz, EE (lz.set kz r4)⟩ := get_set hz
  have hb2_3 : (M.set iz ⟨gz, Tz, EE (lz.set kz r4)⟩)[ig]? = some ⟨3, Tp, EE [pp]⟩ := get_set_ne hG hne3
  have hb2_gx : (M.set iz ⟨gz, Tz, EE (lz.set kz r4)⟩)[ix]? = some ⟨gx, Tx, EE lx⟩ := get_set_ne hx hne
  have hb2_gy : (M.set iz ⟨gz, Tz, EE (lz.set kz r4)⟩)[iy]? = some ⟨gy, Ty, EE ly⟩ := get_set_ne hy hne2
  refine at_mem (M2 := ⟨g1, 82, EE [r2]⟩ :: ⟨g0, 82, EE [r0]⟩ :: (M.set iz ⟨gz, Tz, EE (lz.set kz r4)⟩)) (by simp) ?_
  refine at_nil ?_
  refine at_then ?_
  refine at_seq ?_
  refine at_region ?_
  refine at_d rfl rfl (opr_move rfl rfl) ?_
  refine at_d rfl rfl (opr_move rfl rfl) ?_
  refine at_c rfl rfl (opr_call rfl rfl rfl Tryd.func84 (by kernel_rfl) rfl (Sqr_ct (iz := 1) (ix := iz + 2) (kz := 0) (kx := kz) rfl (Nat.le_of_ble_eq_true rfl) rfl hb2 (lset hkz) hoz hr4)) ?_
  rintro _ _ ⟨r5, hr5, e5, rfl, rfl⟩
  refine at_nil ?_
  refine at_then ?_
  refine at_seq ?_
  refine at_region ?_
  refine at_d rfl rfl (opr_move rfl rfl) ?_
  refine at_d rfl rfl (opr_move rfl rfl) ?_
  refine at_d rfl rfl (opr_move rfl rfl) ?_
  refine at_c rfl rfl (opr_call rfl rfl rfl Tryd.func73 (by kernel_rfl) rfl (Mul_ct (iz := 1) (ix := 1) (iy := iy + 2) (kz := 0) (kx := 0) (ky := ky) rfl (Nat.le_of_ble_eq_true rfl) rfl rfl rfl rfl hb2_gy hky hoy hr5 hb)) ?_
  rintro _ _ ⟨r6, hr6, e6, rfl, rfl⟩
  refine at_nil ?_
  refine at_then ?_
  refine at_seq ?_
  refine at_region ?_
  refine at_d rfl rfl (opr_move rfl rfl) ?_
  refine at_d rfl rfl (opr_move rfl rfl) ?_
  refine at_d rfl rfl (opr_move rfl rfl) ?_
  refine at_d rfl rfl (opr_call rfl rfl rfl Tryd.func74 (by kernel_rfl) rfl (Sub_ct (iz := 1) (ix := 1) (iy := ix + 2) (kz := 0) (kx := 0) (ky := kx) rfl (Nat.le_of_ble_eq_true rfl) rfl rfl rfl rfl hb2_gx hkx hox hr6 ha)) ?_
  refine at_nil ?_
  refine at_then ?_
  refine at_seq ?_
  refine at_region ?_
  refine at_d rfl rfl (opr_move rfl rfl) ?_
  refine at_d rfl rfl (opr_call rfl rfl rfl Tryd.func75 (by kernel_rfl) rfl (fIsZero_ct (ig := ig + 2) (iz := 1) (kz := 0) (t := isqOk a b) hb2_3 rfl rfl rfl (subF_lt hr6 ha) (isq_test ha hr6 hQ e5 e6))) ?_
  refine at_d rfl rfl (opr_assign rfl rfl) ?_
  refine at_nil ?_
  refine at_then ?_
  refine at_ret ?_
  exact done_of (res1 Tryd.results85 (res_tmp rfl)) ⟨r4, hr4, hQ, rfl, rfl⟩ (by repeat (first | exact List.Sublist.refl _ | apply List.Sublist.cons))
end Go.Proofs.YtjanppnnioeifaaDoor
