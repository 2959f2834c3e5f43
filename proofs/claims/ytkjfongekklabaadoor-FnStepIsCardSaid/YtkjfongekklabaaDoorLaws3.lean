/- Products and squares. -/
import Derived.Test.YtkjfongekklabaaDoorLaws2
import Derived.Test.YtkjfongekklabaaDoorProd3
namespace Go.Proofs.YtkjfongekklabaaDoor
open Go
set_option maxRecDepth 100000

theorem el_le {l : List Nat} {k o a : Nat} (h : l[k]? = some a) (ho : 56 * k = o) : o + 56 ≤ 56 * l.length := by
  have := (List.getElem?_eq_some_iff.1 h).1
  omega
theorem opr_eqlT {P : Program} {St : Slots} {M : Mem} {o : Oper} {x y : Operand} {T T' B : Nat} {a b : Nat} (ho : o.op = .binOp .eql T x y T') (hx : evalS St x = some (.agg (E a).toArray)) (hy : evalS St y = some (.agg (E b).toArray)) (hu : P.underlying T = some (.array 56 B)) (he : P.underlying B = some (.int .u8)) (hs : (P.info? B).map (·.size) = some 1)
    (hq : P.eqGuardType P.depth T = false) (h : a = b) (hb : b < RR) : OpR P St M o (Det (.bool true) M) := by
  have k := opr_eqlE (M := M) ho hx hy hu he hs hq (h ▸ hb) hb
  rw [decide_eq_true h] at k
  exact k
theorem opr_pickT {P : Program} {St : Slots} {M : Mem} {o : Oper} {c x y : Operand} {u : Value} (ho : o.op = .pick c x y) (hc : evalS St c = some (.bool true)) (hx : evalS St x = some u) : OpR P St M o (Det u M) :=
  opr_value fun ρ w0 S w hρ hw => by
    simp only [execOp, ho, hρ _ _ hc, hρ _ _ hx, asBool, Sem.run_bind, Sem.run_pure, Result.andThen_ok, if_true]

def MulR (M : Mem) (iz gz Tz kz n : Nat) (lz : List Nat) : Value → Mem → Prop := fun v M' => ∃ r, r < RR ∧ r % pp = n % pp ∧ v = .tuple #[] ∧ M' = M.set iz ⟨gz, Tz, EE (lz.set kz r)⟩
theorem mulR_tuple {M : Mem} {iz gz Tz kz n : Nat} {lz : List Nat} : ∀ v M', MulR M iz gz Tz kz n lz v M' → v = .tuple #[] := fun _ _ ⟨_, _, _, h, _⟩ => h
theorem Mul_ct {M : Mem} {iz ix iy gz gx gy Tz Tx Ty kz kx ky oz ox oy a b : Nat} {lz lx ly : List Nat} (hz : M[iz]? = some ⟨gz, Tz, EE lz⟩) (hkz : kz < lz.length) (hoz : 56 * kz = oz) (hx : M[ix]? = some ⟨gx, Tx, EE lx⟩) (hkx : lx[kx]? = some a) (hox : 56 * kx = ox) (hy : M[iy]? = some ⟨gy, Ty, EE ly⟩) (hky : ly[ky]? = some b) (hoy : 56 * ky = oy) (ha : a < RR) (hb : b < RR) : Ct Tryd.prog 33 #[.pointer (some ⟨gz, oz, none⟩), .pointer (some ⟨gx, ox, none⟩), .pointer (some ⟨gy, oy, none⟩)] M (MulR M iz gz Tz kz (a * b) lz) :=
  Mul_pass (mul_pass (mulGeneric_ct hz hkz hoz hx hkx hox hy hky hoy ha hb) mulR_tuple) mulR_tuple
theorem sqrGeneric_ct {M : Mem} {iz ix gz gx Tz Tx kz kx oz ox a : Nat} {lz lx : List Nat} (hz : M[iz]? = some ⟨gz, Tz, EE lz⟩) (hkz : kz < lz.length) (hoz : 56 * kz = oz) (hx : M[ix]? = some ⟨gx, Tx, EE lx⟩) (hkx : lx[kx]? = some a) (hox : 56 * kx = ox) (ha : a < RR) : Ct Tryd.prog 66 #[.pointer (some ⟨gz, oz, none⟩), .pointer (some ⟨gx, ox, none⟩)] M (MulR M iz gz Tz kz (a * a) lz) := by
  refine ct_of (vs := [.pointer (some ⟨gz, oz, none⟩), .pointer (some ⟨gx, ox, none⟩)]) Tryd.func66 rfl Tryd.ntmps66 rfl fun w0 => ?_
  refine at_region ?_
  refine at_d rfl rfl (opr_move rfl rfl) ?_
  refine at_d rfl rfl (opr_move rfl rfl) ?_
  refine at_d rfl rfl (opr_move rfl rfl) ?_
  refine at_c rfl rfl (opr_call rfl rfl rfl Tryd.func65 (by kernel_rfl) rfl (mulGeneric_ct hz hkz hoz hx hkx hox hx hkx hox ha ha)) ?_
  intro v M' hv
  refine at_nil ?_
  obtain rfl := mulR_tuple v M' hv
  exact done_of (res0 rfl) hv (List.Sublist.refl _)
theorem Sqr_ct {M : Mem} {iz ix gz gx Tz Tx kz kx oz ox a : Nat} {lz lx : List Nat} (hz : M[iz]? = some ⟨gz, Tz, EE lz⟩) (hkz : kz < lz.length) (hoz : 56 * kz = oz) (hx : M[ix]? = some ⟨gx, Tx, EE lx⟩) (hkx : lx[kx]? = some a) (hox : 56 * kx = ox) (ha : a < RR) : Ct Tryd.prog 34 #[.pointer (some ⟨gz, oz, none⟩), .pointer (some ⟨gx, ox, none⟩)] M (MulR M iz gz Tz kz (a * a) lz) :=
  Sqr_pass (sqr_pass (sqrGeneric_ct hz hkz hoz hx hkx hox ha) mulR_tuple) mulR_tuple
theorem iMul_ct {M : Mem} {ig Tp : Nat} (hG : M[ig]? = some ⟨0, Tp, EE [pp]⟩) {a b : Nat} (ha : a < RR) (hb : b < RR) : Ct Tryd.prog 13 #[.agg (E a).toArray, .agg (E b).toArray] M (Det (.agg (E (a * b % pp)).toArray) M) := by
  refine ct_of (vs := [.agg (E a).toArray, .agg (E b).toArray]) Tryd.func13 rfl Tryd.ntmps13 rfl fun w0 => ?_
  refine at_seq ?_
  refine at_region ?_
  refine at_n rfl rfl (opr_box (cs := EE [a]) rfl rfl (E_box _)) ?_
  intro g0
  refine at_n rfl rfl (opr_box (cs := EE [b]) rfl rfl (E_box _)) ?_
  intro g1
  refine at_n rfl rfl (opr_alloc rfl zero22 rfl) ?_
  intro g2
  refine at_nil ?_
  refine at_then ?_
  refine at_seq ?_
  refine at_region ?_
  refine at_n rfl rfl (opr_alloc rfl zero47 rfl) ?_
  intro g3
  refine at_nil ?_
  refine at_then ?_
  refine at_seq ?_
  refine at_drawG (B := [⟨g3, 47, EE [0]⟩, ⟨g2, 22, EE [0]⟩, ⟨g1, 22, EE [b]⟩, ⟨g0, 22, EE [a]⟩]) (E := [⟨.pure [3], 0, [], .v (.agg (E (a)).toArray)⟩, ⟨.pure [2], 0, [], .v (.agg (E (b)).toArray)⟩, ⟨.alloc, 47, EE [0], .p 2 0⟩, ⟨.alloc, 47, EE [0], .p 3 0⟩, ⟨.storeA 2, 0, EE [a], .v undef⟩, ⟨.storeA 3, 0, EE [b], .v undef⟩]) (by kernel_rfl) (by kernel_rfl) (by kernel_rfl) (fun γ0 => ?_)
  refine gs_pure rfl rfl (fun M' sB sT => ?_) ?_
  · obtain ⟨iB3, hB3⟩ := sB 3 _ rfl rfl; exact opr_load (i := iB3) rfl rfl hB3 Tryd.underlying22 rfl size22 (E_length _) (EE_at (k := 0) rfl rfl rfl)
  refine gs_pure rfl rfl (fun M' sB sT => ?_) ?_
  · obtain ⟨iB2, hB2⟩ := sB 2 _ rfl rfl; exact opr_load (i := iB2) rfl rfl hB2 Tryd.underlying22 rfl size22 (E_length _) (EE_at (k := 0) rfl rfl rfl)
  refine gs_alloc rfl rfl (fun M' => opr_alloc rfl zero47 rfl) ?_
  refine gs_alloc rfl rfl (fun M' => opr_alloc rfl zero47 rfl) ?_
  refine gs_storeA rfl rfl rfl rfl rfl (fun M' j hj => opr_store (i := j) rfl rfl rfl rfl hj size47 (E_length _) (by rw [EE_length]; exact Nat.le_of_ble_eq_true rfl) (E_flat _) (EE_set (k := 0) (Nat.le_of_ble_eq_true rfl) rfl)) ?_
  refine gs_storeA rfl rfl rfl rfl rfl (fun M' j hj => opr_store (i := j) rfl rfl rfl rfl hj size47 (E_length _) (by rw [EE_length]; exact Nat.le_of_ble_eq_true rfl) (E_flat _) (EE_set (k := 0) (Nat.le_of_ble_eq_true rfl) rfl)) ?_
  refine gs_nil ?_
  refine (show At _ _ (⟨(γ0 3), 47, EE [b]⟩ :: ⟨(γ0 2), 47, EE [a]⟩ :: ⟨g3, 47, EE [0]⟩ :: ⟨g2, 22, EE [0]⟩ :: ⟨g1, 22, EE [b]⟩ :: ⟨g0, 22, EE [a]⟩ :: _) _ from ?_)
  refine at_then ?_
  refine at_seq ?_
  refine at_region ?_
  refine at_c rfl rfl (opr_call rfl rfl rfl Tryd.func33 (by kernel_rfl) rfl (Mul_ct (iz := 2) (ix := 1) (iy := 0) (kz := 0) (kx := 0) (ky := 0) rfl (Nat.le_of_ble_eq_true rfl) rfl rfl rfl rfl rfl rfl rfl ha hb)) ?_
  rintro _ _ ⟨r, hr, hrm, rfl, rfl⟩
  refine at_nil ?_
  refine at_then ?_
  refine at_seq ?_
  refine at_region ?_
  refine at_d rfl rfl (opr_load (i := 2) rfl rfl rfl Tryd.underlying47 rfl size47 (E_length _) (EE_at (k := 0) rfl rfl rfl)) ?_
  refine at_d rfl rfl (opr_call rfl rfl rfl Tryd.func32 (by kernel_rfl) rfl (reduced_ct (ig := ig + 6) hG hr)) ?_
  refine at_d rfl rfl (opr_store (i := 3) rfl rfl rfl rfl rfl size22 (E_length _) (by rw [EE_length]; exact Nat.le_of_ble_eq_true rfl) (E_flat _) (EE_set (k := 0) (Nat.le_of_ble_eq_true rfl) rfl)) ?_
  refine at_nil ?_
  refine at_then ?_
  refine at_ret ?_
  refine done_of (res1 Tryd.results13 (res_cell (i := 3) rfl rfl Tryd.underlying22 rfl size22 (E_length _) (EE_at (k := 0) rfl rfl rfl))) ⟨?_, rfl⟩ (by repeat (first | exact List.Sublist.refl _ | apply List.Sublist.cons))
  rw [hrm]
theorem iSqr_ct {M : Mem} {ig Tp : Nat} (hG : M[ig]? = some ⟨0, Tp, EE [pp]⟩) {a : Nat} (ha : a < RR) : Ct Tryd.prog 15 #[.agg (E a).toArray] M (Det (.agg (E (a * a % pp)).toArray) M) := by
  refine ct_of (vs := [.agg (E a).toArray]) Tryd.func15 rfl Tryd.ntmps15 rfl fun w0 => ?_
  refine at_seq ?_
  refine at_region ?_
  refine at_n rfl rfl (opr_box (cs := EE [a]) rfl rfl (E_box _)) ?_
  intro g0
  refine at_n rfl rfl (opr_alloc rfl zero22 rfl) ?_
  intro g1
  refine at_nil ?_
  refine at_then ?_
  refine at_seq ?_
  refine at_region ?_
  refine at_n rfl rfl (opr_alloc rfl zero47 rfl) ?_
  intro g2
  refine at_nil ?_
  refine at_then ?_
  refine at_seq ?_
  refine at_region ?_
  refine at_d rfl rfl (opr_load (i := 2) rfl rfl rfl Tryd.underlying22 rfl size22 (E_length _) (EE_at (k := 0) rfl rfl rfl)) ?_
  refine at_n rfl rfl (opr_alloc rfl zero47 rfl) ?_
  intro g3
  refine at_d rfl rfl (opr_store (i := 0) rfl rfl rfl rfl rfl size47 (E_length _) (by rw [EE_length]; exact Nat.le_of_ble_eq_true rfl) (E_flat _) (EE_set (k := 0) (Nat.le_of_ble_eq_true rfl) rfl)) ?_
  refine at_nil ?_
  refine at_then ?_
  refine at_seq ?_
  refine at_region ?_
  refine at_c rfl rfl (opr_call rfl rfl rfl Tryd.func34 (by kernel_rfl) rfl (Sqr_ct (iz := 1) (ix := 0) (kz := 0) (kx := 0) rfl (Nat.le_of_ble_eq_true rfl) rfl rfl rfl rfl ha)) ?_
  rintro _ _ ⟨r, hr, hrm, rfl, rfl⟩
  refine at_nil ?_
  refine at_then ?_
  refine at_seq ?_
  refine at_region ?_
  refine at_d rfl rfl (opr_load (i := 1) rfl rfl rfl Tryd.underlying47 rfl size47 (E_length _) (EE_at (k := 0) rfl rfl rfl)) ?_
  refine at_d rfl rfl (opr_call rfl rfl rfl Tryd.func32 (by kernel_rfl) rfl (reduced_ct (ig := ig + 4) hG hr)) ?_
  refine at_d rfl rfl (opr_store (i := 2) rfl rfl rfl rfl rfl size22 (E_length _) (by rw [EE_length]; exact Nat.le_of_ble_eq_true rfl) (E_flat _) (EE_set (k := 0) (Nat.le_of_ble_eq_true rfl) rfl)) ?_
  refine at_nil ?_
  refine at_then ?_
  refine at_ret ?_
  refine done_of (res1 Tryd.results15 (res_cell (i := 2) rfl rfl Tryd.underlying22 rfl size22 (E_length _) (EE_at (k := 0) rfl rfl rfl))) ⟨?_, rfl⟩ (by repeat (first | exact List.Sublist.refl _ | apply List.Sublist.cons))
  rw [hrm]
theorem addsubGeneric_ct {M : Mem} {ix iy gx gy Tx Ty kx ky ox oy a b : Nat} {lx ly : List Nat} (hx : M[ix]? = some ⟨gx, Tx, EE lx⟩) (hkx : lx[kx]? = some a) (hox : 56 * kx = ox) (hy : M[iy]? = some ⟨gy, Ty, EE ly⟩) (hky : ly[ky]? = some b) (hoy : 56 * ky = oy) (hne : iy ≠ ix) (ha : a < RR) (hb : b < RR) : Ct Tryd.prog 92 #[.pointer (some ⟨gx, ox, none⟩), .pointer (some ⟨gy, oy, none⟩)] M (Det (.tuple #[]) ((M.set iy ⟨gy, Ty, EE (ly.set ky (subF a b))⟩).set ix ⟨gx, Tx, EE (lx.set kx (addF a b))⟩)) := by
  refine ct_of (vs := [.pointer (some ⟨gx, ox, none⟩), .pointer (some ⟨gy, oy, none⟩)]) Tryd.func92 rfl Tryd.ntmps92 rfl fun w0 => ?_
  refine at_seq ?_
  refine at_region ?_
  refine at_d rfl rfl (opr_build0 rfl zero47 rfl Tryd.underlying47 size5) ?_
  refine at_n rfl rfl (opr_box rfl rfl rfl) ?_
  intro g0
  refine at_d rfl rfl (opr_assign rfl rfl) ?_
  refine at_nil ?_
  refine at_then ?_
  refine at_seq ?_
  refine at_region ?_
  refine at_d rfl rfl (opr_move rfl rfl) ?_
  refine at_d rfl rfl (opr_move rfl rfl) ?_
  refine at_d rfl rfl (opr_move rfl rfl) ?_
  refine at_d rfl rfl (opr_call rfl rfl rfl Tryd.func93 (by kernel_rfl) rfl (addGeneric_ct (iz := 0) (ix := ix + 1) (iy := iy + 1) (kz := 0) (kx := kx) (ky := ky) rfl (Nat.le_of_ble_eq_true rfl) rfl hx hkx hox hy hky hoy ha hb)) ?_
  refine at_nil ?_
  refine at_then ?_
  refine at_seq ?_
  refine at_region ?_
  refine at_d rfl rfl (opr_move rfl rfl) ?_
  refine at_d rfl rfl (opr_move rfl rfl) ?_
  refine at_d rfl rfl (opr_move rfl rfl) ?_
  refine at_d rfl rfl (opr_call rfl rfl rfl Tryd.func73 (by kernel_rfl) rfl (subGeneric_ct (iz := iy + 1) (ix := ix + 1) (iy := iy + 1) (kz := ky) (kx := kx) (ky := ky) hy (List.getElem?_eq_some_iff.1 hky).1 hoy hx hkx hox hy hky hoy ha hb)) ?_
  refine at_nil ?_
  refine at_then ?_
  refine at_region ?_
  refine at_d rfl rfl (opr_move rfl rfl) ?_
  refine at_d rfl rfl (opr_move rfl rfl) ?_
  refine at_d rfl rfl (opr_nilCheck rfl rfl) ?_
  refine at_d rfl rfl (opr_load (i := 0) rfl rfl rfl Tryd.underlying47 rfl size47 (E_length _) (EE_at (k := 0) rfl rfl rfl)) ?_
  refine at_d rfl rfl (opr_nilCheck rfl rfl) ?_
  refine at_d rfl rfl (opr_store (i := ix + 1) rfl rfl rfl rfl (get_set_ne hx (fun e => hne (Nat.succ.inj e))) size47 (E_length _) (by rw [EE_length]; exact el_le hkx hox) (E_flat _) (EE_set (List.getElem?_eq_some_iff.1 hkx).1 hox)) ?_
  refine at_nil ?_
  exact done_of (res0 Tryd.results92) ⟨rfl, rfl⟩ (List.Sublist.cons _ (List.Sublist.refl _))
theorem AddSub_ct {M : Mem} {ix iy gx gy Tx Ty kx ky ox oy a b : Nat} {lx ly : List Nat} (hx : M[ix]? = some ⟨gx, Tx, EE lx⟩) (hkx : lx[kx]? = some a) (hox : 56 * kx = ox) (hy : M[iy]? = some ⟨gy, Ty, EE ly⟩) (hky : ly[ky]? = some b) (hoy : 56 * ky = oy) (hne : iy ≠ ix) (ha : a < RR) (hb : b < RR) : Ct Tryd.prog 80 #[.pointer (some ⟨gx, ox, none⟩), .pointer (some ⟨gy, oy, none⟩)] M (Det (.tuple #[]) ((M.set iy ⟨gy, Ty, EE (ly.set ky (subF a b))⟩).set ix ⟨gx, Tx, EE (lx.set kx (addF a b))⟩)) :=
  AddSub_pass (addsub_pass (addsubGeneric_ct hx hkx hox hy hky hoy hne ha hb) (fun _ _ h => h.1)) (fun _ _ h => h.1)
theorem is_true {M : Mem} {a b : Nat} (h : a = b) (hb : b < RR) : Ct Tryd.prog 20 #[.agg (E a).toArray, .agg (N b).toArray] M (Det (.bool true) M) := by
  have k := is_ct (M := M) (a := a) (b := b) (h ▸ hb) hb
  rw [decide_eq_true h] at k
  exact k

theorem built_small (c : Nat) : Tryd.prog.built 22 [(0, .int .u8 (c : Int))] = some (.int .u8 (c : Int) :: List.replicate 55 (.int .u8 0)).toArray := by kernel_rfl
theorem E_small {c : Nat} (hc : c < 256) : (Value.int .u8 (c : Int) :: List.replicate 55 (.int .u8 0)) = E c := by
  have h0 : c / 256 = 0 := Nat.div_eq_of_lt hc
  have hz : ∀ n, (digs 256 n 0).map u8V = List.replicate n (.int .u8 0) := by
    intro n
    induction n with
    | zero => rfl
    | succ n ih => rw [digs, Nat.zero_mod, Nat.zero_div, List.map_cons, ih]; rfl
  rw [E, digs, h0, Nat.mod_eq_of_lt hc, List.map_cons, hz]; rfl
theorem opr_buildE {P : Program} {St : Slots} {M : Mem} {o : Oper} {T : TypeId} {ps : List (Nat × Operand)} {vs : List (Nat × Value)} {cs ds : List Value} (ho : o.op = .build T ps.toArray) (hps : evalP St ps = some vs) (hb : P.built T vs = some cs.toArray) (e : cs = ds) : OpR P St M o (Det (.agg ds.toArray) M) :=
  e ▸ opr_buildP ho hps hb
theorem one_ct {M : Mem} : Ct Tryd.prog 14 #[] M (Det (.agg (E 1).toArray) M) := by
  refine ct_of (vs := []) Tryd.func14 rfl Tryd.ntmps14 rfl fun w0 => ?_
  refine at_seq ?_
  refine at_region ?_
  refine at_n rfl rfl (opr_alloc rfl zero22 rfl) ?_
  intro g0
  refine at_nil ?_
  refine at_then ?_
  refine at_seq ?_
  refine at_region ?_
  refine at_d rfl rfl (opr_buildE rfl rfl (built_small 1) (E_small (by decide))) ?_
  refine at_d rfl rfl (opr_store (i := 0) rfl rfl rfl rfl rfl size22 (E_length _) (by rw [EE_length]; exact Nat.le_of_ble_eq_true rfl) (E_flat _) (EE_set (k := 0) (Nat.le_of_ble_eq_true rfl) rfl)) ?_
  refine at_nil ?_
  refine at_then ?_
  refine at_ret ?_
  refine done_of (res1 Tryd.results14 (res_cell (i := 0) rfl rfl Tryd.underlying22 rfl size22 (E_length _) (EE_at (k := 0) rfl rfl rfl))) ⟨rfl, rfl⟩ (by repeat (first | exact List.Sublist.refl _ | apply List.Sublist.cons))
end Go.Proofs.YtkjfongekklabaaDoor
