/- Roots of quotients. -/
import Derived.Test.YtkjfongekklabaaDoorPow
import Derived.Test.YtkjfongekklabaaDoorSqrt
namespace Go.Proofs.YtkjfongekklabaaDoor
open Go
set_option maxRecDepth 100000

theorem isq_val {x y r0 r1 r2 r3 r4 : Nat} (h0 : r0 % pp = x * y % pp) (h1 : r1 % pp = y * y % pp) (h2 : r2 % pp = r0 * r1 % pp) (h3 : Pw r2 ((pp - 3) / 4) r3) (h4 : r4 % pp = r3 * r0 % pp) : r4 % pp = isq x y := by
  rw [isq_eq, h4, Nat.mul_comm, Nat.mul_mod, h0, h3.2, Nat.pow_mod, h2, Nat.mul_mod r0 r1, h0, h1, ← Nat.mul_mod (x * y) (y * y), ← Nat.pow_mod, ← Nat.mul_mod]
theorem isq_RR (x y : Nat) : isq x y < RR := Nat.lt_trans (isq_lt x y) RR_pp
theorem isq_mod (x y : Nat) : isq x y % pp = isq x y := Nat.mod_eq_of_lt (isq_lt x y)
/-- Is the first one a quotient's root? -/
noncomputable def isqOk (x y : Nat) : Bool := decide (isq x y * isq x y * y % pp = x % pp)
theorem isq_test {x y r r5 r6 : Nat} (hx : x < RR) (h6 : r6 < RR) (hr : r % pp = isq x y) (e5 : r5 % pp = r * r % pp) (e6 : r6 % pp = r5 * y % pp) : decide (subF r6 x % pp = 0) = isqOk x y := by
  rw [isqOk, decide_eq_decide, ← el_eq_zero, el_subF h6 hx, ← el_eq, el_of e6, el_mul, el_of e5, el_mul, el_mul, el_mul]
  have : el r = el (isq x y) := el_of (by rw [hr, isq_mod])
  rw [this]
  generalize el (isq x y) * el (isq x y) * el y = u
  generalize el x = v
  constructor
  · intro h; grind
  · intro h; rw [h]; grind
theorem isq_yes {x y : Nat} (h : isqOk x y = true) : isq x y * isq x y % pp * y % pp = x % pp := by
  rw [Nat.mod_mul_mod]; exact of_decide_eq_true h
theorem isq_no {x y : Nat} (h : isqOk x y = false) (hx : x < RR) (hx0 : ¬ x % pp = 0) (hy0 : ¬ y % pp = 0) : isq x y * isq x y % pp * y % pp = subF pp x % pp := by
  have hn := of_decide_eq_false h
  rw [Nat.mod_mul_mod, subF_neg hx]
  have e : negp x = negp x % pp := (Nat.mod_eq_of_lt (by rw [negp]; exact Nat.mod_lt _ (by decide))).symm
  rw [e, ← el_eq, el_neg]
  rw [← el_eq] at hn
  simp only [el_mul] at hn ⊢
  exact (isq_or hx0 hy0).resolve_left hn
theorem opr_eqlNt {P : Program} {St : Slots} {M : Mem} {o : Oper} {x y : Operand} {T T' B a b : Nat} {t : Bool} (ho : o.op = .binOp .eql T x y T') (hx : evalS St x = some (.agg (N a).toArray)) (hy : evalS St y = some (.agg (N b).toArray)) (hu : P.underlying T = some (.array 28 B)) (he : P.underlying B = some (.int .u64)) (hs : (P.info? B).map (·.size) = some 1)
    (hq : P.eqGuardType P.depth T = false) (ha : a < RR) (hb : b < RR) (ht : decide (a = b) = t) : OpR P St M o (Det (.bool t) M) := ht ▸ opr_eqlN ho hx hy hu he hs hq ha hb
theorem opr_neqEF {P : Program} {St : Slots} {M : Mem} {o : Oper} {x y : Operand} {T T' B a b : Nat} (ho : o.op = .binOp .neq T x y T') (hx : evalS St x = some (.agg (E a).toArray)) (hy : evalS St y = some (.agg (E b).toArray)) (hu : P.underlying T = some (.array 56 B)) (he : P.underlying B = some (.int .u8)) (hs : (P.info? B).map (·.size) = some 1)
    (hq : P.eqGuardType P.depth T = false) (hb : b < RR) (h : a = b) : OpR P St M o (Det (.bool false) M) := by
  have k := opr_neqE (M := M) ho hx hy hu he hs hq (h ▸ hb) hb
  rw [decide_eq_true h] at k
  exact k
theorem opr_pickF {P : Program} {St : Slots} {M : Mem} {o : Oper} {c x y : Operand} {u : Value} (ho : o.op = .pick c x y) (hc : evalS St c = some (.bool false)) (hy : evalS St y = some u) : OpR P St M o (Det u M) :=
  opr_value fun ρ w0 S w hρ hw => by
    simp only [execOp, ho, hρ _ _ hc, hρ _ _ hy, asBool, Sem.run_bind, Sem.run_pure, Result.andThen_ok]
    rfl
theorem opr_pickT' {P : Program} {St : Slots} {M : Mem} {o : Oper} {c x y : Operand} {u : Value} (ho : o.op = .pick c x y) (hc : evalS St c = some (.bool true)) (hx : evalS St x = some u) : OpR P St M o (Det u M) :=
  opr_value fun ρ w0 S w hρ hw => by
    simp only [execOp, ho, hρ _ _ hc, hρ _ _ hx, asBool, Sem.run_bind, Sem.run_pure, Result.andThen_ok]
    rfl
theorem built_nzero : Tryd.prog.built 25 [] = some (List.replicate 28 (Value.int .u64 0)).toArray := by kernel_rfl
theorem N_zero0 : List.replicate 28 (Value.int .u64 0) = N 0 := rfl
def IsqR (M : Mem) (iz gz Tz kz a b : Nat) (lz : List Nat) : Value → Mem → Prop := fun v M' => ∃ r, r < RR ∧ r % pp = isq a b ∧ v = .bool (isqOk a b) ∧ M' = M.set iz ⟨gz, Tz, EE (lz.set kz r)⟩
theorem InvSqrt_ct {M : Mem} {ig Tp : Nat} (hG : M[ig]? = some ⟨0, Tp, EE [pp]⟩) {iz ix iy gz gx gy Tz Tx Ty kz kx ky oz ox oy a b : Nat} {lz lx ly : List Nat} (hz : M[iz]? = some ⟨gz, Tz, EE lz⟩) (hkz : kz < lz.length) (hoz : 56 * kz = oz) (hx : M[ix]? = some ⟨gx, Tx, EE lx⟩) (hkx : lx[kx]? = some a) (hox : 56 * kx = ox) (hy : M[iy]? = some ⟨gy, Ty, EE ly⟩) (hky : ly[ky]? = some b) (hoy : 56 * ky = oy) (hne : iz ≠ ix) (hne2 : iz ≠ iy) (hne3 : iz ≠ ig) (ha : a < RR) (hb : b < RR) : Ct Tryd.prog 31 #[.pointer (some ⟨gz, oz, none⟩), .pointer (some ⟨gx, ox, none⟩), .pointer (some ⟨gy, oy, none⟩)] M (IsqR M iz gz Tz kz a b lz) := by
  refine ct_of (vs := [.pointer (some ⟨gz, oz, none⟩), .pointer (some ⟨gx, ox, none⟩), .pointer (some ⟨gy, oy, none⟩)]) Tryd.func31 rfl Tryd.ntmps31 rfl fun w0 => ?_
  refine at_seq ?_
  refine at_region ?_
  refine at_d rfl rfl (opr_assign rfl rfl) ?_
  refine at_nil ?_
  refine at_then ?_
  refine at_seq ?_
  refine at_region ?_
  refine at_d rfl rfl (opr_buildE rfl rfl built_zero E_zero0) ?_
  refine at_n rfl rfl (opr_box (cs := EE [0]) rfl rfl (E_box _)) ?_
  intro g0
  refine at_d rfl rfl (opr_buildE rfl rfl built_zero E_zero0) ?_
  refine at_n rfl rfl (opr_box (cs := EE [0]) rfl rfl (E_box _)) ?_
  intro g1
  refine at_d rfl rfl (opr_assign rfl rfl) ?_
  refine at_d rfl rfl (opr_assign rfl rfl) ?_
  refine at_nil ?_
  refine at_then ?_
  refine at_seq ?_
  refine at_region ?_
  refine at_d rfl rfl (opr_move rfl rfl) ?_
  refine at_d rfl rfl (opr_move rfl rfl) ?_
  refine at_d rfl rfl (opr_move rfl rfl) ?_
  refine at_c rfl rfl (opr_call rfl rfl rfl Tryd.func33 (by kernel_rfl) rfl (Mul_ct (iz := 1) (ix := ix + 2) (iy := iy + 2) (kz := 0) (kx := kx) (ky := ky) rfl (Nat.le_of_ble_eq_true rfl) rfl hx hkx hox hy hky hoy ha hb)) ?_
  rintro _ _ ⟨r0, hr0, e0, rfl, rfl⟩
  refine at_nil ?_
  refine at_then ?_
  refine at_seq ?_
  refine at_region ?_
  refine at_d rfl rfl (opr_move rfl rfl) ?_
  refine at_d rfl rfl (opr_move rfl rfl) ?_
  refine at_c rfl rfl (opr_call rfl rfl rfl Tryd.func34 (by kernel_rfl) rfl (Sqr_ct (iz := 0) (ix := iy + 2) (kz := 0) (kx := ky) rfl (Nat.le_of_ble_eq_true rfl) rfl hy hky hoy hb)) ?_
  rintro _ _ ⟨r1, hr1, e1, rfl, rfl⟩
  refine at_nil ?_
  refine at_then ?_
  refine at_seq ?_
  refine at_region ?_
  refine at_d rfl rfl (opr_move rfl rfl) ?_
  refine at_d rfl rfl (opr_move rfl rfl) ?_
  refine at_d rfl rfl (opr_move rfl rfl) ?_
  refine at_c rfl rfl (opr_call rfl rfl rfl Tryd.func33 (by kernel_rfl) rfl (Mul_ct (iz := 0) (ix := 1) (iy := 0) (kz := 0) (kx := 0) (ky := 0) rfl (Nat.le_of_ble_eq_true rfl) rfl rfl rfl rfl rfl rfl rfl hr0 hr1)) ?_
  rintro _ _ ⟨r2, hr2, e2, rfl, rfl⟩
  refine at_nil ?_
  refine at_then ?_
  refine at_seq ?_
  refine at_region ?_
  refine at_d rfl rfl (opr_move rfl rfl) ?_
  refine at_d rfl rfl (opr_move rfl rfl) ?_
  refine at_c rfl rfl (opr_call rfl rfl rfl Tryd.func51 (by kernel_rfl) rfl (pow_ct (iz := iz + 2) (ix := 0) (kz := kz) (kx := 0) hz hkz hoz rfl rfl rfl (Nat.succ_ne_zero _) hr2)) ?_
  rintro _ _ ⟨r3, e3, rfl, rfl⟩
  have hb1 : (M.set iz ⟨gz, Tz, EE (lz.set kz r3)⟩)[iz]? = some ⟨gz, Tz, EE (lz.set kz r3)⟩ := get_set hz
  have hb1_0 : (M.set iz ⟨gz, Tz, EE (lz.set kz r3)⟩)[ig]? = some ⟨0, Tp, EE [pp]⟩ := get_set_ne hG hne3
  have hb1_gx : (M.set iz ⟨gz, Tz, EE (lz.set kz r3)⟩)[ix]? = some ⟨gx, Tx, EE lx⟩ := get_set_ne hx hne
  have hb1_gy : (M.set iz ⟨gz, Tz, EE (lz.set kz r3)⟩)[iy]? = some ⟨gy, Ty, EE ly⟩ := get_set_ne hy hne2
  refine at_mem (M2 := ⟨g1, 47, EE [r2]⟩ :: ⟨g0, 47, EE [r0]⟩ :: (M.set iz ⟨gz, Tz, EE (lz.set kz r3)⟩)) (by simp only [List.set_cons_succ, List.set_cons_zero, List.set_set]) ?_
  refine at_nil ?_
  refine at_then ?_
  refine at_seq ?_
  refine at_region ?_
  refine at_d rfl rfl (opr_move rfl rfl) ?_
  refine at_d rfl rfl (opr_move rfl rfl) ?_
  refine at_d rfl rfl (opr_move rfl rfl) ?_
  refine at_c rfl rfl (opr_call rfl rfl rfl Tryd.func33 (by kernel_rfl) rfl (Mul_ct (iz := iz + 2) (ix := iz + 2) (iy := 1) (kz := kz) (kx := kz) (ky := 0) hb1 (lset_lt hkz) hoz hb1 (lset hkz) hoz rfl rfl rfl e3.1 hr0)) ?_
  rintro _ _ ⟨r4, hr4, e4, rfl, rfl⟩
  have hQ : r4 % pp = isq a b := isq_val e0 e1 e2 (pw_cast e3 (by decide +kernel)) e4
  have hb2 : (M.set iz ⟨gz, Tz, EE (lz.set kz r4)⟩)[iz]? = some ⟨gz, Tz, EE (lz.set kz r4)⟩ := get_set hz
  have hb2_0 : (M.set iz ⟨gz, Tz, EE (lz.set kz r4)⟩)[ig]? = some ⟨0, Tp, EE [pp]⟩ := get_set_ne hG hne3
  have hb2_gx : (M.set iz ⟨gz, Tz, EE (lz.set kz r4)⟩)[ix]? = some ⟨gx, Tx, EE lx⟩ := get_set_ne hx hne
  have hb2_gy : (M.set iz ⟨gz, Tz, EE (lz.set kz r4)⟩)[iy]? = some ⟨gy, Ty, EE ly⟩ := get_set_ne hy hne2
  refine at_mem (M2 := ⟨g1, 47, EE [r2]⟩ :: ⟨g0, 47, EE [r0]⟩ :: (M.set iz ⟨gz, Tz, EE (lz.set kz r4)⟩)) (by simp only [List.set_cons_succ, List.set_cons_zero, List.set_set]) ?_
  refine at_nil ?_
  refine at_then ?_
  refine at_seq ?_
  refine at_region ?_
  refine at_d rfl rfl (opr_move rfl rfl) ?_
  refine at_d rfl rfl (opr_move rfl rfl) ?_
  refine at_c rfl rfl (opr_call rfl rfl rfl Tryd.func34 (by kernel_rfl) rfl (Sqr_ct (iz := 1) (ix := iz + 2) (kz := 0) (kx := kz) rfl (Nat.le_of_ble_eq_true rfl) rfl hb2 (lset hkz) hoz hr4)) ?_
  rintro _ _ ⟨r5, hr5, e5, rfl, rfl⟩
  refine at_nil ?_
  refine at_then ?_
  refine at_seq ?_
  refine at_region ?_
  refine at_d rfl rfl (opr_move rfl rfl) ?_
  refine at_d rfl rfl (opr_move rfl rfl) ?_
  refine at_d rfl rfl (opr_move rfl rfl) ?_
  refine at_c rfl rfl (opr_call rfl rfl rfl Tryd.func33 (by kernel_rfl) rfl (Mul_ct (iz := 1) (ix := 1) (iy := iy + 2) (kz := 0) (kx := 0) (ky := ky) rfl (Nat.le_of_ble_eq_true rfl) rfl rfl rfl rfl hb2_gy hky hoy hr5 hb)) ?_
  rintro _ _ ⟨r6, hr6, e6, rfl, rfl⟩
  refine at_nil ?_
  refine at_then ?_
  refine at_seq ?_
  refine at_region ?_
  refine at_d rfl rfl (opr_move rfl rfl) ?_
  refine at_d rfl rfl (opr_move rfl rfl) ?_
  refine at_d rfl rfl (opr_move rfl rfl) ?_
  refine at_d rfl rfl (opr_call rfl rfl rfl Tryd.func52 (by kernel_rfl) rfl (Sub_ct (iz := 1) (ix := 1) (iy := ix + 2) (kz := 0) (kx := 0) (ky := kx) rfl (Nat.le_of_ble_eq_true rfl) rfl rfl rfl rfl hb2_gx hkx hox hr6 ha)) ?_
  refine at_nil ?_
  refine at_then ?_
  refine at_seq ?_
  refine at_region ?_
  refine at_d rfl rfl (opr_move rfl rfl) ?_
  refine at_d rfl rfl (opr_call rfl rfl rfl Tryd.func53 (by kernel_rfl) rfl (fIsZero_ct (ig := ig + 2) (iz := 1) (kz := 0) (t := isqOk a b) hb2_0 rfl rfl rfl (subF_lt hr6 ha) (isq_test ha hr6 hQ e5 e6))) ?_
  refine at_d rfl rfl (opr_assign rfl rfl) ?_
  refine at_nil ?_
  refine at_then ?_
  refine at_ret ?_
  exact done_of (res1 Tryd.results31 (res_tmp rfl)) ⟨r4, hr4, hQ, rfl, rfl⟩ (by repeat (first | exact List.Sublist.refl _ | apply List.Sublist.cons))
theorem iInvSqrt_ct {M : Mem} {ig Tp : Nat} (hG : M[ig]? = some ⟨0, Tp, EE [pp]⟩) {a b : Nat} (ha : a < RR) (hb : b < RR) : Ct Tryd.prog 12 #[.agg (E a).toArray, .agg (E b).toArray] M (Det (.tuple #[.agg (E (isq a b)).toArray, .bool (isqOk a b)]) M) := by
  refine ct_of (vs := [.agg (E a).toArray, .agg (E b).toArray]) Tryd.func12 rfl Tryd.ntmps12 rfl fun w0 => ?_
  refine at_seq ?_
  refine at_region ?_
  refine at_n rfl rfl (opr_box (cs := EE [a]) rfl rfl (E_box _)) ?_
  intro g0
  refine at_n rfl rfl (opr_box (cs := EE [b]) rfl rfl (E_box _)) ?_
  intro g1
  refine at_n rfl rfl (opr_alloc rfl zero22 rfl) ?_
  intro g2
  refine at_d rfl rfl (opr_assign rfl rfl) ?_
  refine at_nil ?_
  refine at_then ?_
  refine at_seq ?_
  refine at_region ?_
  refine at_n rfl rfl (opr_alloc rfl zero47 rfl) ?_
  intro g3
  refine at_nil ?_
  refine at_then ?_
  refine at_seq ?_
  refine at_drawG (B := [⟨g3, 47, EE [0]⟩, ⟨g2, 22, EE [0]⟩, ⟨g1, 22, EE [b]⟩, ⟨g0, 22, EE [a]⟩]) (E := [⟨.pure [3], 0, [], .v (.agg (E (a)).toArray)⟩, ⟨.pure [2], 0, [], .v (.agg (E (b)).toArray)⟩, ⟨.alloc, 47, EE [0], .p 2 0⟩, ⟨.alloc, 47, EE [0], .p 3 0⟩, ⟨.storeA 2, 0, EE [a], .v undef⟩, ⟨.storeA 3, 0, EE [b], .v undef⟩]) (by kernel_rfl) (by kernel_rfl) (by kernel_rfl) (fun γ0 => ?_)
  refine gs_pure rfl rfl (fun M' sB sT => ?_) ?_
  · obtain ⟨iB3, hB3⟩ := sB 3 _ rfl rfl; exact opr_load (i := iB3) rfl rfl hB3 Tryd.underlying22 rfl size22 (E_length _) (EE_at (k := 0) rfl rfl rfl)
  refine gs_pure rfl rfl (fun M' sB sT => ?_) ?_
  · obtain ⟨iB2, hB2⟩ := sB 2 _ rfl rfl; exact opr_load (i := iB2) rfl rfl hB2 Tryd.underlying22 rfl size22 (E_length _) (EE_at (k := 0) rfl rfl rfl)
  refine gs_alloc rfl rfl (fun M' => opr_alloc rfl zero47 rfl) ?_
  refine gs_alloc rfl rfl (fun M' => opr_alloc rfl zero47 rfl) ?_
  refine gs_storeA rfl rfl rfl rfl rfl (fun M' j hj => opr_store (i := j) rfl rfl rfl rfl hj size47 (E_length _) (by rw [EE_length]; exact Nat.le_of_ble_eq_true rfl) (E_flat _) (EE_set (k := 0) (Nat.le_of_ble_eq_true rfl) rfl)) ?_
  refine gs_storeA rfl rfl rfl rfl rfl (fun M' j hj => opr_store (i := j) rfl rfl rfl rfl hj size47 (E_length _) (by rw [EE_length]; exact Nat.le_of_ble_eq_true rfl) (E_flat _) (EE_set (k := 0) (Nat.le_of_ble_eq_true rfl) rfl)) ?_
  refine gs_nil ?_
  refine (show At _ _ (⟨(γ0 3), 47, EE [b]⟩ :: ⟨(γ0 2), 47, EE [a]⟩ :: ⟨g3, 47, EE [0]⟩ :: ⟨g2, 22, EE [0]⟩ :: ⟨g1, 22, EE [b]⟩ :: ⟨g0, 22, EE [a]⟩ :: _) _ from ?_)
  refine at_then ?_
  refine at_seq ?_
  refine at_region ?_
  refine at_c rfl rfl (opr_call rfl rfl rfl Tryd.func31 (by kernel_rfl) rfl (InvSqrt_ct (ig := ig + 6) (iz := 2) (ix := 1) (iy := 0) (kz := 0) (kx := 0) (ky := 0) hG rfl (Nat.le_of_ble_eq_true rfl) rfl rfl rfl rfl rfl rfl rfl (by decide) (by decide) (by omega) ha hb)) ?_
  rintro _ _ ⟨r, hr, hrm, rfl, rfl⟩
  refine at_d rfl rfl (opr_assign rfl rfl) ?_
  refine at_nil ?_
  refine at_then ?_
  refine at_seq ?_
  refine at_region ?_
  refine at_d rfl rfl (opr_load (i := 2) rfl rfl rfl Tryd.underlying47 rfl size47 (E_length _) (EE_at (k := 0) rfl rfl rfl)) ?_
  refine at_d rfl rfl (opr_call rfl rfl rfl Tryd.func32 (by kernel_rfl) rfl (reduced_ct (ig := ig + 6) hG hr)) ?_
  refine at_d rfl rfl (opr_move rfl rfl) ?_
  refine at_d rfl rfl (opr_store (i := 3) rfl rfl rfl rfl rfl size22 (E_length _) (by rw [EE_length]; exact Nat.le_of_ble_eq_true rfl) (E_flat _) (EE_set (k := 0) (Nat.le_of_ble_eq_true rfl) rfl)) ?_
  refine at_d rfl rfl (opr_assign rfl rfl) ?_
  refine at_nil ?_
  refine at_then ?_
  refine at_ret ?_
  refine done_of (res2 Tryd.results12 (res_cell (i := 3) rfl rfl Tryd.underlying22 rfl size22 (E_length _) (EE_at (k := 0) rfl rfl rfl)) (res_tmp rfl)) ⟨?_, rfl⟩ (by repeat (first | exact List.Sublist.refl _ | apply List.Sublist.cons))
  rw [hrm]
theorem fnInvSqrt_ct0 {M : Mem} {ig Tp : Nat} (hG : M[ig]? = some ⟨0, Tp, EE [pp]⟩) {a b : Nat} (ha : a < RR) (hb : b < RR) (h0 : a % pp = 0) : Ct Tryd.prog 3 #[.agg (E a).toArray, .agg (E b).toArray] M (Det (.bool true) M) := by
  refine ct_of (vs := [.agg (E a).toArray, .agg (E b).toArray]) Tryd.func3 rfl Tryd.ntmps3 rfl fun w0 => ?_
  refine at_seq ?_
  refine at_region ?_
  refine at_n rfl rfl (opr_box (cs := EE [a]) rfl rfl (E_box _)) ?_
  intro g0
  refine at_n rfl rfl (opr_box (cs := EE [b]) rfl rfl (E_box _)) ?_
  intro g1
  refine at_d rfl rfl (opr_assign rfl rfl) ?_
  refine at_nil ?_
  refine at_then ?_
  refine at_seq ?_
  refine at_seq ?_
  refine at_region ?_
  refine at_d rfl rfl (opr_load (i := 1) rfl rfl rfl Tryd.underlying22 rfl size22 (E_length _) (EE_at (k := 0) rfl rfl rfl)) ?_
  refine at_d rfl rfl (opr_call rfl rfl rfl Tryd.func11 (by kernel_rfl) rfl (of_ct _)) ?_
  refine at_d rfl rfl (opr_call rfl rfl rfl Tryd.func10 (by kernel_rfl) rfl (mod_ct ha)) ?_
  refine at_d rfl rfl (opr_buildE rfl rfl built_nzero N_zero0) ?_
  refine at_d rfl rfl (opr_eqlNt rfl rfl rfl Tryd.underlying25 Tryd.underlying23 size23 (by kernel_rfl) (modp_lt _) RR_zero (decide_eq_true h0)) ?_
  refine at_d rfl rfl (opr_move rfl rfl) ?_
  refine at_op_skip rfl rfl ?_
  refine at_op_skip rfl rfl ?_
  refine at_op_skip rfl rfl ?_
  refine at_op_skip rfl rfl ?_
  refine at_op_skip rfl rfl ?_
  refine at_d rfl rfl (opr_pickT' rfl rfl rfl) ?_
  refine at_nil ?_
  refine at_then ?_
  refine at_cond_true rfl ?_
  refine at_seq ?_
  refine at_region ?_
  refine at_d rfl rfl (opr_assign rfl rfl) ?_
  refine at_nil ?_
  refine at_then ?_
  refine at_ret ?_
  refine at_then_ret ?_
  refine done_of (res1 Tryd.results3 (res_tmp rfl)) ⟨rfl, rfl⟩ (by repeat (first | exact List.Sublist.refl _ | apply List.Sublist.cons))
theorem fnInvSqrt_ct1 {M : Mem} {ig Tp : Nat} (hG : M[ig]? = some ⟨0, Tp, EE [pp]⟩) {a b : Nat} (ha : a < RR) (hb : b < RR) (h0 : ¬ a % pp = 0) (h1 : b % pp = 0) : Ct Tryd.prog 3 #[.agg (E a).toArray, .agg (E b).toArray] M (Det (.bool true) M) := by
  refine ct_of (vs := [.agg (E a).toArray, .agg (E b).toArray]) Tryd.func3 rfl Tryd.ntmps3 rfl fun w0 => ?_
  refine at_seq ?_
  refine at_region ?_
  refine at_n rfl rfl (opr_box (cs := EE [a]) rfl rfl (E_box _)) ?_
  intro g0
  refine at_n rfl rfl (opr_box (cs := EE [b]) rfl rfl (E_box _)) ?_
  intro g1
  refine at_d rfl rfl (opr_assign rfl rfl) ?_
  refine at_nil ?_
  refine at_then ?_
  refine at_seq ?_
  refine at_seq ?_
  refine at_region ?_
  refine at_d rfl rfl (opr_load (i := 1) rfl rfl rfl Tryd.underlying22 rfl size22 (E_length _) (EE_at (k := 0) rfl rfl rfl)) ?_
  refine at_d rfl rfl (opr_call rfl rfl rfl Tryd.func11 (by kernel_rfl) rfl (of_ct _)) ?_
  refine at_d rfl rfl (opr_call rfl rfl rfl Tryd.func10 (by kernel_rfl) rfl (mod_ct ha)) ?_
  refine at_d rfl rfl (opr_buildE rfl rfl built_nzero N_zero0) ?_
  refine at_d rfl rfl (opr_eqlNt rfl rfl rfl Tryd.underlying25 Tryd.underlying23 size23 (by kernel_rfl) (modp_lt _) RR_zero (decide_eq_false h0)) ?_
  refine at_d rfl rfl (opr_move rfl rfl) ?_
  refine at_d rfl rfl (opr_load (i := 0) rfl rfl rfl Tryd.underlying22 rfl size22 (E_length _) (EE_at (k := 0) rfl rfl rfl)) ?_
  refine at_d rfl rfl (opr_call rfl rfl rfl Tryd.func11 (by kernel_rfl) rfl (of_ct _)) ?_
  refine at_d rfl rfl (opr_call rfl rfl rfl Tryd.func10 (by kernel_rfl) rfl (mod_ct hb)) ?_
  refine at_d rfl rfl (opr_buildE rfl rfl built_nzero N_zero0) ?_
  refine at_d rfl rfl (opr_eqlNt rfl rfl rfl Tryd.underlying25 Tryd.underlying23 size23 (by kernel_rfl) (modp_lt _) RR_zero (decide_eq_true h1)) ?_
  refine at_d rfl rfl (opr_pickF rfl rfl rfl) ?_
  refine at_nil ?_
  refine at_then ?_
  refine at_cond_true rfl ?_
  refine at_seq ?_
  refine at_region ?_
  refine at_d rfl rfl (opr_assign rfl rfl) ?_
  refine at_nil ?_
  refine at_then ?_
  refine at_ret ?_
  refine at_then_ret ?_
  refine done_of (res1 Tryd.results3 (res_tmp rfl)) ⟨rfl, rfl⟩ (by repeat (first | exact List.Sublist.refl _ | apply List.Sublist.cons))
theorem fnInvSqrt_ct2 {M : Mem} {ig Tp : Nat} (hG : M[ig]? = some ⟨0, Tp, EE [pp]⟩) {a b : Nat} (ha : a < RR) (hb : b < RR) (h0 : ¬ a % pp = 0) (h1 : ¬ b % pp = 0) : Ct Tryd.prog 3 #[.agg (E a).toArray, .agg (E b).toArray] M (Det (.bool true) M) := by
  refine ct_of (vs := [.agg (E a).toArray, .agg (E b).toArray]) Tryd.func3 rfl Tryd.ntmps3 rfl fun w0 => ?_
  refine at_seq ?_
  refine at_region ?_
  refine at_n rfl rfl (opr_box (cs := EE [a]) rfl rfl (E_box _)) ?_
  intro g0
  refine at_n rfl rfl (opr_box (cs := EE [b]) rfl rfl (E_box _)) ?_
  intro g1
  refine at_d rfl rfl (opr_assign rfl rfl) ?_
  refine at_nil ?_
  refine at_then ?_
  refine at_seq ?_
  refine at_seq ?_
  refine at_region ?_
  refine at_d rfl rfl (opr_load (i := 1) rfl rfl rfl Tryd.underlying22 rfl size22 (E_length _) (EE_at (k := 0) rfl rfl rfl)) ?_
  refine at_d rfl rfl (opr_call rfl rfl rfl Tryd.func11 (by kernel_rfl) rfl (of_ct _)) ?_
  refine at_d rfl rfl (opr_call rfl rfl rfl Tryd.func10 (by kernel_rfl) rfl (mod_ct ha)) ?_
  refine at_d rfl rfl (opr_buildE rfl rfl built_nzero N_zero0) ?_
  refine at_d rfl rfl (opr_eqlNt rfl rfl rfl Tryd.underlying25 Tryd.underlying23 size23 (by kernel_rfl) (modp_lt _) RR_zero (decide_eq_false h0)) ?_
  refine at_d rfl rfl (opr_move rfl rfl) ?_
  refine at_d rfl rfl (opr_load (i := 0) rfl rfl rfl Tryd.underlying22 rfl size22 (E_length _) (EE_at (k := 0) rfl rfl rfl)) ?_
  refine at_d rfl rfl (opr_call rfl rfl rfl Tryd.func11 (by kernel_rfl) rfl (of_ct _)) ?_
  refine at_d rfl rfl (opr_call rfl rfl rfl Tryd.func10 (by kernel_rfl) rfl (mod_ct hb)) ?_
  refine at_d rfl rfl (opr_buildE rfl rfl built_nzero N_zero0) ?_
  refine at_d rfl rfl (opr_eqlNt rfl rfl rfl Tryd.underlying25 Tryd.underlying23 size23 (by kernel_rfl) (modp_lt _) RR_zero (decide_eq_false h1)) ?_
  refine at_d rfl rfl (opr_pickF rfl rfl rfl) ?_
  refine at_nil ?_
  refine at_then ?_
  refine at_cond_false rfl ?_
  refine at_skip ?_
  refine at_then ?_
  refine at_seq ?_
  refine at_region ?_
  refine at_d rfl rfl (opr_load (i := 1) rfl rfl rfl Tryd.underlying22 rfl size22 (E_length _) (EE_at (k := 0) rfl rfl rfl)) ?_
  refine at_d rfl rfl (opr_load (i := 0) rfl rfl rfl Tryd.underlying22 rfl size22 (E_length _) (EE_at (k := 0) rfl rfl rfl)) ?_
  refine at_d rfl rfl (opr_call rfl rfl rfl Tryd.func12 (by kernel_rfl) rfl (iInvSqrt_ct (ig := ig + 2) hG ha hb)) ?_
  refine at_d rfl rfl (opr_move rfl rfl) ?_
  refine at_d rfl rfl (opr_extract rfl rfl rfl) ?_
  refine at_d rfl rfl (opr_extract rfl rfl rfl) ?_
  refine at_n rfl rfl (opr_alloc rfl zero22 rfl) ?_
  intro g2
  refine at_d rfl rfl (opr_store (i := 0) rfl rfl rfl rfl rfl size22 (E_length _) (by rw [EE_length]; exact Nat.le_of_ble_eq_true rfl) (E_flat _) (EE_set (k := 0) (Nat.le_of_ble_eq_true rfl) rfl)) ?_
  refine at_d rfl rfl (opr_assign rfl rfl) ?_
  refine at_nil ?_
  refine at_then ?_
  refine at_seq ?_
  refine at_seq ?_
  refine at_region ?_
  refine at_d rfl rfl (opr_call rfl rfl rfl Tryd.func14 (by kernel_rfl) rfl (one_ct)) ?_
  refine at_d rfl rfl (opr_call rfl rfl rfl Tryd.func14 (by kernel_rfl) rfl (one_ct)) ?_
  refine at_d rfl rfl (opr_call rfl rfl rfl Tryd.func13 (by kernel_rfl) rfl (iMul_ct (ig := ig + 3) hG RR_one RR_one)) ?_
  refine at_d rfl rfl (opr_call rfl rfl rfl Tryd.func14 (by kernel_rfl) rfl (one_ct)) ?_
  refine at_d rfl rfl (opr_neqEF rfl rfl rfl Tryd.underlying22 Tryd.underlying5 size5 (by kernel_rfl) RR_one (by decide +kernel)) ?_
  refine at_nil ?_
  refine at_then ?_
  refine at_cond_false rfl ?_
  refine at_skip ?_
  refine at_then ?_
  refine at_seq ?_
  refine at_drawG (B := [⟨g2, 22, EE [(isq a b)]⟩, ⟨g1, 22, EE [b]⟩, ⟨g0, 22, EE [a]⟩]) (E := [⟨.pure [0], 0, [], .v (.agg (E ((isq a b))).toArray)⟩, ⟨.pure [], 0, [], .v (.agg (E (((isq a b) * (isq a b) % pp))).toArray)⟩, ⟨.pure [1], 0, [], .v (.agg (E (b)).toArray)⟩, ⟨.pure [], 0, [], .v (.agg (E ((((isq a b) * (isq a b) % pp) * b % pp))).toArray)⟩, ⟨.alloc, 22, EE [0], .p 4 0⟩, ⟨.storeA 4, 0, EE [(((isq a b) * (isq a b) % pp) * b % pp)], .v undef⟩]) (by kernel_rfl) (by kernel_rfl) (by kernel_rfl) (fun γ0 => ?_)
  refine gs_pure rfl rfl (fun M' sB sT => ?_) ?_
  · obtain ⟨iB0, hB0⟩ := sB 0 _ rfl rfl; exact opr_load (i := iB0) rfl rfl hB0 Tryd.underlying22 rfl size22 (E_length _) (EE_at (k := 0) rfl rfl rfl)
  refine gs_pure rfl rfl (fun M' sB sT => ?_) ?_
  · obtain ⟨iT0, hT0⟩ := sT _ _ hG; exact opr_call rfl rfl rfl Tryd.func15 (by kernel_rfl) rfl (iSqr_ct (ig := iT0) hT0 (isq_RR a b))
  refine gs_pure rfl rfl (fun M' sB sT => ?_) ?_
  · obtain ⟨iB1, hB1⟩ := sB 1 _ rfl rfl; exact opr_load (i := iB1) rfl rfl hB1 Tryd.underlying22 rfl size22 (E_length _) (EE_at (k := 0) rfl rfl rfl)
  refine gs_pure rfl rfl (fun M' sB sT => ?_) ?_
  · obtain ⟨iT0, hT0⟩ := sT _ _ hG; exact opr_call rfl rfl rfl Tryd.func13 (by kernel_rfl) rfl (iMul_ct (ig := iT0) hT0 (modp_lt _) hb)
  refine gs_alloc rfl rfl (fun M' => opr_alloc rfl zero22 rfl) ?_
  refine gs_storeA rfl rfl rfl rfl rfl (fun M' j hj => opr_store (i := j) rfl rfl rfl rfl hj size22 (E_length _) (by rw [EE_length]; exact Nat.le_of_ble_eq_true rfl) (E_flat _) (EE_set (k := 0) (Nat.le_of_ble_eq_true rfl) rfl)) ?_
  refine gs_nil ?_
  refine (show At _ _ (⟨(γ0 4), 22, EE [(((isq a b) * (isq a b) % pp) * b % pp)]⟩ :: ⟨g2, 22, EE [(isq a b)]⟩ :: ⟨g1, 22, EE [b]⟩ :: ⟨g0, 22, EE [a]⟩ :: _) _ from ?_)
  refine at_then ?_
  refine at_seq ?_
  refine at_seq ?_
  refine at_region ?_
  refine at_d rfl rfl (opr_move rfl rfl) ?_
  refine at_nil ?_
  refine at_then ?_
  refine at_cond rfl (fun ht => ?_) (fun ht => ?_)
  ·
    refine at_seq ?_
    refine at_drawQ (by kernel_rfl) (by kernel_rfl) (List.cons_ne_nil _ _) ?_
    refine dr_op rfl rfl (opr_load (i := 0) rfl rfl rfl Tryd.underlying22 rfl size22 (E_length _) (EE_at (k := 0) rfl rfl rfl)) ?_
    refine dr_op rfl rfl (opr_load (i := 3) rfl rfl rfl Tryd.underlying22 rfl size22 (E_length _) (EE_at (k := 0) rfl rfl rfl)) ?_
    refine dr_op rfl rfl (opr_call rfl rfl rfl Tryd.func16 (by kernel_rfl) rfl (implModp_ct (ig := ig + 4) hG ha)) ?_
    refine dr_op rfl rfl (opr_eqlT rfl rfl rfl Tryd.underlying22 Tryd.underlying5 size5 (by kernel_rfl) (isq_yes ht) (modp_lt _)) ?_
    refine dr_last rfl rfl (opr_assign rfl rfl) ?_
    refine ⟨rfl, ?_⟩
    refine at_then ?_
    refine at_ret ?_
    refine at_then_ret ?_
    refine done_of (res1 Tryd.results3 (res_tmp rfl)) ⟨rfl, rfl⟩ (by repeat (first | exact List.Sublist.refl _ | apply List.Sublist.cons))
  ·
    refine at_skip ?_
    refine at_then ?_
    refine at_seq ?_
    refine at_drawQ (by kernel_rfl) (by kernel_rfl) (List.cons_ne_nil _ _) ?_
    refine dr_op rfl rfl (opr_load (i := 0) rfl rfl rfl Tryd.underlying22 rfl size22 (E_length _) (EE_at (k := 0) rfl rfl rfl)) ?_
    refine dr_op rfl rfl (opr_load (i := 3) rfl rfl rfl Tryd.underlying22 rfl size22 (E_length _) (EE_at (k := 0) rfl rfl rfl)) ?_
    refine dr_op rfl rfl (opr_call rfl rfl rfl Tryd.func17 (by kernel_rfl) rfl (iNeg_ct (ig := ig + 4) hG ha)) ?_
    refine dr_op rfl rfl (opr_eqlT rfl rfl rfl Tryd.underlying22 Tryd.underlying5 size5 (by kernel_rfl) (isq_no ht ha h0 h1) (modp_lt _)) ?_
    refine dr_last rfl rfl (opr_assign rfl rfl) ?_
    refine ⟨rfl, ?_⟩
    refine at_then ?_
    refine at_ret ?_
    refine done_of (res1 Tryd.results3 (res_tmp rfl)) ⟨rfl, rfl⟩ (by repeat (first | exact List.Sublist.refl _ | apply List.Sublist.cons))
theorem fnInvSqrt_ct {M : Mem} {ig Tp : Nat} (hG : M[ig]? = some ⟨0, Tp, EE [pp]⟩) {a b : Nat} (ha : a < RR) (hb : b < RR) : Ct Tryd.prog 3 #[.agg (E a).toArray, .agg (E b).toArray] M (Det (.bool true) M) := by
  by_cases h0 : a % pp = 0
  · exact fnInvSqrt_ct0 hG ha hb h0
  · by_cases h1 : b % pp = 0
    · exact fnInvSqrt_ct1 hG ha hb h0 h1
    · exact fnInvSqrt_ct2 hG ha hb h0 h1
end Go.Proofs.YtkjfongekklabaaDoor
