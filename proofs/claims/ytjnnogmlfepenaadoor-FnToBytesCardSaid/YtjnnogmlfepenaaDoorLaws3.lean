/- Products and squares. -/
import Derived.Test.YtjnnogmlfepenaaDoorLaws2
import Derived.Test.YtjnnogmlfepenaaDoorProd3
namespace Go.Proofs.YtjnnogmlfepenaaDoor
open Go
set_option maxRecDepth 100000

theorem el_le {l : List Nat} {k o a : Nat} (h : l[k]? = some a) (ho : 56 * k = o) : o + 56 ≤ 56 * l.length := by
  have := (List.getElem?_eq_some_iff.1 h).1
  omega
theorem opr_eqlT {P : Program} {St : Slots} {M : Mem} {o : Oper} {x y : Operand} {T T' B : Nat} {a b : Nat} (ho : o.op = .binOp .eql T x y T') (hx : evalS St x = some (.agg (E a).toArray)) (hy : evalS St y = some (.agg (E b).toArray)) (hu : P.underlying T = some (.array 56 B)) (he : P.underlying B = some (.int .u8)) (hs : (P.info? B).map (·.size) = some 1)
    (hq : P.eqGuardType P.depth T = false) (h : a = b) (hb : b < RR) : OpR P St M o (Det (.bool true) M) := by
  have k := opr_eqlE (M := M) ho hx hy hu he hs hq (h ▸ hb) hb
  rw [decide_eq_true h] at k
  exact k
theorem opr_pickT {P : Program} {St : Slots} {M : Mem} {o : Oper} {c x y : Operand} {u : Value} (ho : o.op = .pick c x y) (hc : evalS St c = some (.bool true)) (hx : evalS St x = some u) : OpR P St M o (Det u M) :=
  opr_value fun ρ w0 S w hρ hw => by
    simp only [execOp, ho, hρ _ _ hc, hρ _ _ hx, asBool, Sem.run_bind, Sem.run_pure, Result.andThen_ok, if_true]

def MulR (M : Mem) (iz gz Tz kz n : Nat) (lz : List Nat) : Value → Mem → Prop := fun v M' => ∃ r, r < RR ∧ r % pp = n % pp ∧ v = .tuple #[] ∧ M' = M.set iz ⟨gz, Tz, EE (lz.set kz r)⟩
theorem mulR_tuple {M : Mem} {iz gz Tz kz n : Nat} {lz : List Nat} : ∀ v M', MulR M iz gz Tz kz n lz v M' → v = .tuple #[] := fun _ _ ⟨_, _, _, h, _⟩ => h
theorem Mul_ct {M : Mem} {iz ix iy gz gx gy Tz Tx Ty kz kx ky oz ox oy a b : Nat} {lz lx ly : List Nat} (hz : M[iz]? = some ⟨gz, Tz, EE lz⟩) (hkz : kz < lz.length) (hoz : 56 * kz = oz) (hx : M[ix]? = some ⟨gx, Tx, EE lx⟩) (hkx : lx[kx]? = some a) (hox : 56 * kx = ox) (hy : M[iy]? = some ⟨gy, Ty, EE ly⟩) (hky : ly[ky]? = some b) (hoy : 56 * ky = oy) (ha : a < RR) (hb : b < RR) : Ct Tryd.prog 52 #[.pointer (some ⟨gz, oz, none⟩), .pointer (some ⟨gx, ox, none⟩), .pointer (some ⟨gy, oy, none⟩)] M (MulR M iz gz Tz kz (a * b) lz) :=
  Mul_pass (mul_pass (mulGeneric_ct hz hkz hoz hx hkx hox hy hky hoy ha hb) mulR_tuple) mulR_tuple
theorem sqrGeneric_ct {M : Mem} {iz ix gz gx Tz Tx kz kx oz ox a : Nat} {lz lx : List Nat} (hz : M[iz]? = some ⟨gz, Tz, EE lz⟩) (hkz : kz < lz.length) (hoz : 56 * kz = oz) (hx : M[ix]? = some ⟨gx, Tx, EE lx⟩) (hkx : lx[kx]? = some a) (hox : 56 * kx = ox) (ha : a < RR) : Ct Tryd.prog 69 #[.pointer (some ⟨gz, oz, none⟩), .pointer (some ⟨gx, ox, none⟩)] M (MulR M iz gz Tz kz (a * a) lz) := by
  refine ct_of (vs := [.pointer (some ⟨gz, oz, none⟩), .pointer (some ⟨gx, ox, none⟩)]) Tryd.func69 rfl Tryd.ntmps69 rfl fun w0 => ?_
  refine at_region ?_
  refine at_d rfl rfl (opr_move rfl rfl) ?_
  refine at_d rfl rfl (opr_move rfl rfl) ?_
  refine at_d rfl rfl (opr_move rfl rfl) ?_
  refine at_c rfl rfl (opr_call rfl rfl rfl Tryd.func68 (by kernel_rfl) rfl (mulGeneric_ct hz hkz hoz hx hkx hox hx hkx hox ha ha)) ?_
  intro v M' hv
  refine at_nil ?_
  obtain rfl := mulR_tuple v M' hv
  exact done_of (res0 rfl) hv (List.Sublist.refl _)
theorem Sqr_ct {M : Mem} {iz ix gz gx Tz Tx kz kx oz ox a : Nat} {lz lx : List Nat} (hz : M[iz]? = some ⟨gz, Tz, EE lz⟩) (hkz : kz < lz.length) (hoz : 56 * kz = oz) (hx : M[ix]? = some ⟨gx, Tx, EE lx⟩) (hkx : lx[kx]? = some a) (hox : 56 * kx = ox) (ha : a < RR) : Ct Tryd.prog 54 #[.pointer (some ⟨gz, oz, none⟩), .pointer (some ⟨gx, ox, none⟩)] M (MulR M iz gz Tz kz (a * a) lz) :=
  Sqr_pass (sqr_pass (sqrGeneric_ct hz hkz hoz hx hkx hox ha) mulR_tuple) mulR_tuple
theorem iMul_ct {M : Mem} {ig Tp : Nat} (hG : M[ig]? = some ⟨0, Tp, EE [pp]⟩) {a b : Nat} (ha : a < RR) (hb : b < RR) : Ct Tryd.prog 36 #[.agg (E a).toArray, .agg (E b).toArray] M (Det (.agg (E (a * b % pp)).toArray) M) := by
  refine ct_of (vs := [.agg (E a).toArray, .agg (E b).toArray]) Tryd.func36 rfl Tryd.ntmps36 rfl fun w0 => ?_
  refine at_seq ?_
  refine at_region ?_
  refine at_n rfl rfl (opr_box (cs := EE [a]) rfl rfl (E_box _)) ?_
  intro g0
  refine at_n rfl rfl (opr_box (cs := EE [b]) rfl rfl (E_box _)) ?_
  intro g1
  refine at_n rfl rfl (opr_alloc rfl zero22 rfl) ?_
  intro g2
  refine at_nil ?_
  refine at_then ?_
  refine at_seq ?_
  refine at_region ?_
  refine at_n rfl rfl (opr_alloc rfl zero46 rfl) ?_
  intro g3
  refine at_nil ?_
  refine at_then ?_
  refine at_seq ?_
  refine at_drawG (B := [⟨g3, 46, EE [0]⟩, ⟨g2, 22, EE [0]⟩, ⟨g1, 22, EE [b]⟩, ⟨g0, 22, EE [a]⟩]) (E := [⟨.pure [3], 0, [], .v (.agg (E (a)).toArray)⟩, ⟨.pure [2], 0, [], .v (.agg (E (b)).toArray)⟩, ⟨.alloc, 46, EE [0], .p 2 0⟩, ⟨.alloc, 46, EE [0], .p 3 0⟩, ⟨.storeA 2, 0, EE [a], .v undef⟩, ⟨.storeA 3, 0, EE [b], .v undef⟩]) (by kernel_rfl) (by kernel_rfl) (by kernel_rfl) (fun γ0 => ?_)
  refine gs_pure rfl rfl (fun M' sB sT => ?_) ?_
  · obtain ⟨iB3, hB3⟩ := sB 3 _ rfl rfl; exact opr_load (i := iB3) rfl rfl hB3 Tryd.underlying22 rfl size22 (E_length _) (EE_at (k := 0) rfl rfl rfl)
  refine gs_pure rfl rfl (fun M' sB sT => ?_) ?_
  · obtain ⟨iB2, hB2⟩ := sB 2 _ rfl rfl; exact opr_load (i := iB2) rfl rfl hB2 Tryd.underlying22 rfl size22 (E_length _) (EE_at (k := 0) rfl rfl rfl)
  refine gs_alloc rfl rfl (fun M' => opr_alloc rfl zero46 rfl) ?_
  refine gs_alloc rfl rfl (fun M' => opr_alloc rfl zero46 rfl) ?_
  refine gs_storeA rfl rfl rfl rfl rfl (fun M' j hj => opr_store (i := j) rfl rfl rfl rfl hj size46 (E_length _) (by rw [EE_length]; exact Nat.le_of_ble_eq_true rfl) (E_flat _) (EE_set (k := 0) (Nat.le_of_ble_eq_true rfl) rfl)) ?_
  refine gs_storeA rfl rfl rfl rfl rfl (fun M' j hj => opr_store (i := j) rfl rfl rfl rfl hj size46 (E_length _) (by rw [EE_length]; exact Nat.le_of_ble_eq_true rfl) (E_flat _) (EE_set (k := 0) (Nat.le_of_ble_eq_true rfl) rfl)) ?_
  refine gs_nil ?_
  refine (show At _ _ (⟨(γ0 3), 46, EE [b]⟩ :: ⟨(γ0 2), 46, EE [a]⟩ :: ⟨g3, 46, EE [0]⟩ :: ⟨g2, 22, EE [0]⟩ :: ⟨g1, 22, EE [b]⟩ :: ⟨g0, 22, EE [a]⟩ :: _) _ from ?_)
  refine at_then ?_
  refine at_seq ?_
  refine at_region ?_
  refine at_c rfl rfl (opr_call rfl rfl rfl Tryd.func52 (by kernel_rfl) rfl (Mul_ct (iz := 2) (ix := 1) (iy := 0) (kz := 0) (kx := 0) (ky := 0) rfl (Nat.le_of_ble_eq_true rfl) rfl rfl rfl rfl rfl rfl rfl ha hb)) ?_
  rintro _ _ ⟨r, hr, hrm, rfl, rfl⟩
  refine at_nil ?_
  refine at_then ?_
  refine at_seq ?_
  refine at_region ?_
  refine at_d rfl rfl (opr_load (i := 2) rfl rfl rfl Tryd.underlying46 rfl size46 (E_length _) (EE_at (k := 0) rfl rfl rfl)) ?_
  refine at_d rfl rfl (opr_call rfl rfl rfl Tryd.func40 (by kernel_rfl) rfl (reduced_ct (ig := ig + 6) hG hr)) ?_
  refine at_d rfl rfl (opr_store (i := 3) rfl rfl rfl rfl rfl size22 (E_length _) (by rw [EE_length]; exact Nat.le_of_ble_eq_true rfl) (E_flat _) (EE_set (k := 0) (Nat.le_of_ble_eq_true rfl) rfl)) ?_
  refine at_nil ?_
  refine at_then ?_
  refine at_ret ?_
  refine done_of (res1 Tryd.results36 (res_cell (i := 3) rfl rfl Tryd.underlying22 rfl size22 (E_length _) (EE_at (k := 0) rfl rfl rfl))) ⟨?_, rfl⟩ (by repeat (first | exact List.Sublist.refl _ | apply List.Sublist.cons))
  rw [hrm]
theorem iSqr_ct {M : Mem} {ig Tp : Nat} (hG : M[ig]? = some ⟨0, Tp, EE [pp]⟩) {a : Nat} (ha : a < RR) : Ct Tryd.prog 38 #[.agg (E a).toArray] M (Det (.agg (E (a * a % pp)).toArray) M) := by
  refine ct_of (vs := [.agg (E a).toArray]) Tryd.func38 rfl Tryd.ntmps38 rfl fun w0 => ?_
  refine at_seq ?_
  refine at_region ?_
  refine at_n rfl rfl (opr_box (cs := EE [a]) rfl rfl (E_box _)) ?_
  intro g0
  refine at_n rfl rfl (opr_alloc rfl zero22 rfl) ?_
  intro g1
  refine at_nil ?_
  refine at_then ?_
  refine at_seq ?_
  refine at_region ?_
  refine at_n rfl rfl (opr_alloc rfl zero46 rfl) ?_
  intro g2
  refine at_nil ?_
  refine at_then ?_
  refine at_seq ?_
  refine at_region ?_
  refine at_d rfl rfl (opr_load (i := 2) rfl rfl rfl Tryd.underlying22 rfl size22 (E_length _) (EE_at (k := 0) rfl rfl rfl)) ?_
  refine at_n rfl rfl (opr_alloc rfl zero46 rfl) ?_
  intro g3
  refine at_d rfl rfl (opr_store (i := 0) rfl rfl rfl rfl rfl size46 (E_length _) (by rw [EE_length]; exact Nat.le_of_ble_eq_true rfl) (E_flat _) (EE_set (k := 0) (Nat.le_of_ble_eq_true rfl) rfl)) ?_
  refine at_nil ?_
  refine at_then ?_
  refine at_seq ?_
  refine at_region ?_
  refine at_c rfl rfl (opr_call rfl rfl rfl Tryd.func54 (by kernel_rfl) rfl (Sqr_ct (iz := 1) (ix := 0) (kz := 0) (kx := 0) rfl (Nat.le_of_ble_eq_true rfl) rfl rfl rfl rfl ha)) ?_
  rintro _ _ ⟨r, hr, hrm, rfl, rfl⟩
  refine at_nil ?_
  refine at_then ?_
  refine at_seq ?_
  refine at_region ?_
  refine at_d rfl rfl (opr_load (i := 1) rfl rfl rfl Tryd.underlying46 rfl size46 (E_length _) (EE_at (k := 0) rfl rfl rfl)) ?_
  refine at_d rfl rfl (opr_call rfl rfl rfl Tryd.func40 (by kernel_rfl) rfl (reduced_ct (ig := ig + 4) hG hr)) ?_
  refine at_d rfl rfl (opr_store (i := 2) rfl rfl rfl rfl rfl size22 (E_length _) (by rw [EE_length]; exact Nat.le_of_ble_eq_true rfl) (E_flat _) (EE_set (k := 0) (Nat.le_of_ble_eq_true rfl) rfl)) ?_
  refine at_nil ?_
  refine at_then ?_
  refine at_ret ?_
  refine done_of (res1 Tryd.results38 (res_cell (i := 2) rfl rfl Tryd.underlying22 rfl size22 (E_length _) (EE_at (k := 0) rfl rfl rfl))) ⟨?_, rfl⟩ (by repeat (first | exact List.Sublist.refl _ | apply List.Sublist.cons))
  rw [hrm]
theorem addsubGeneric_ct {M : Mem} {ix iy gx gy Tx Ty kx ky ox oy a b : Nat} {lx ly : List Nat} (hx : M[ix]? = some ⟨gx, Tx, EE lx⟩) (hkx : lx[kx]? = some a) (hox : 56 * kx = ox) (hy : M[iy]? = some ⟨gy, Ty, EE ly⟩) (hky : ly[ky]? = some b) (hoy : 56 * ky = oy) (hne : iy ≠ ix) (ha : a < RR) (hb : b < RR) : Ct Tryd.prog 67 #[.pointer (some ⟨gx, ox, none⟩), .pointer (some ⟨gy, oy, none⟩)] M (Det (.tuple #[]) ((M.set iy ⟨gy, Ty, EE (ly.set ky (subF a b))⟩).set ix ⟨gx, Tx, EE (lx.set kx (addF a b))⟩)) := by
  refine ct_of (vs := [.pointer (some ⟨gx, ox, none⟩), .pointer (some ⟨gy, oy, none⟩)]) Tryd.func67 rfl Tryd.ntmps67 rfl fun w0 => ?_
  refine at_seq ?_
  refine at_region ?_
  refine at_d rfl rfl (opr_build0 rfl zero46 rfl Tryd.underlying46 size5) ?_
  refine at_n rfl rfl (opr_box rfl rfl rfl) ?_
  intro g0
  refine at_d rfl rfl (opr_assign rfl rfl) ?_
  refine at_nil ?_
  refine at_then ?_
  refine at_seq ?_
  refine at_region ?_
  refine at_d rfl rfl (opr_move rfl rfl) ?_
  refine at_d rfl rfl (opr_move rfl rfl) ?_
  refine at_d rfl rfl (opr_move rfl rfl) ?_
  refine at_d rfl rfl (opr_call rfl rfl rfl Tryd.func66 (by kernel_rfl) rfl (addGeneric_ct (iz := 0) (ix := ix + 1) (iy := iy + 1) (kz := 0) (kx := kx) (ky := ky) rfl (Nat.le_of_ble_eq_true rfl) rfl hx hkx hox hy hky hoy ha hb)) ?_
  refine at_nil ?_
  refine at_then ?_
  refine at_seq ?_
  refine at_region ?_
  refine at_d rfl rfl (opr_move rfl rfl) ?_
  refine at_d rfl rfl (opr_move rfl rfl) ?_
  refine at_d rfl rfl (opr_move rfl rfl) ?_
  refine at_d rfl rfl (opr_call rfl rfl rfl Tryd.func65 (by kernel_rfl) rfl (subGeneric_ct (iz := iy + 1) (ix := ix + 1) (iy := iy + 1) (kz := ky) (kx := kx) (ky := ky) hy (List.getElem?_eq_some_iff.1 hky).1 hoy hx hkx hox hy hky hoy ha hb)) ?_
  refine at_nil ?_
  refine at_then ?_
  refine at_region ?_
  refine at_d rfl rfl (opr_move rfl rfl) ?_
  refine at_d rfl rfl (opr_move rfl rfl) ?_
  refine at_d rfl rfl (opr_nilCheck rfl rfl) ?_
  refine at_d rfl rfl (opr_load (i := 0) rfl rfl rfl Tryd.underlying46 rfl size46 (E_length _) (EE_at (k := 0) rfl rfl rfl)) ?_
  refine at_d rfl rfl (opr_nilCheck rfl rfl) ?_
  refine at_d rfl rfl (opr_store (i := ix + 1) rfl rfl rfl rfl (get_set_ne hx (fun e => hne (Nat.succ.inj e))) size46 (E_length _) (by rw [EE_length]; exact el_le hkx hox) (E_flat _) (EE_set (List.getElem?_eq_some_iff.1 hkx).1 hox)) ?_
  refine at_nil ?_
  exact done_of (res0 Tryd.results67) ⟨rfl, rfl⟩ (List.Sublist.cons _ (List.Sublist.refl _))
theorem AddSub_ct {M : Mem} {ix iy gx gy Tx Ty kx ky ox oy a b : Nat} {lx ly : List Nat} (hx : M[ix]? = some ⟨gx, Tx, EE lx⟩) (hkx : lx[kx]? = some a) (hox : 56 * kx = ox) (hy : M[iy]? = some ⟨gy, Ty, EE ly⟩) (hky : ly[ky]? = some b) (hoy : 56 * ky = oy) (hne : iy ≠ ix) (ha : a < RR) (hb : b < RR) : Ct Tryd.prog 51 #[.pointer (some ⟨gx, ox, none⟩), .pointer (some ⟨gy, oy, none⟩)] M (Det (.tuple #[]) ((M.set iy ⟨gy, Ty, EE (ly.set ky (subF a b))⟩).set ix ⟨gx, Tx, EE (lx.set kx (addF a b))⟩)) :=
  AddSub_pass (addsub_pass (addsubGeneric_ct hx hkx hox hy hky hoy hne ha hb) (fun _ _ h => h.1)) (fun _ _ h => h.1)
theorem iAddSub_ct {M : Mem} {ig Tp : Nat} (hG : M[ig]? = some ⟨0, Tp, EE [pp]⟩) {a b : Nat} (ha : a < RR) (hb : b < RR) : Ct Tryd.prog 35 #[.agg (E a).toArray, .agg (E b).toArray] M (Det (.tuple #[.agg (E (addF a b % pp)).toArray, .agg (E (subF a b % pp)).toArray]) M) := by
  refine ct_of (vs := [.agg (E a).toArray, .agg (E b).toArray]) Tryd.func35 rfl Tryd.ntmps35 rfl fun w0 => ?_
  refine at_seq ?_
  refine at_region ?_
  refine at_n rfl rfl (opr_box (cs := EE [a]) rfl rfl (E_box _)) ?_
  intro g0
  refine at_n rfl rfl (opr_box (cs := EE [b]) rfl rfl (E_box _)) ?_
  intro g1
  refine at_n rfl rfl (opr_alloc rfl zero22 rfl) ?_
  intro g2
  refine at_n rfl rfl (opr_alloc rfl zero22 rfl) ?_
  intro g3
  refine at_nil ?_
  refine at_then ?_
  refine at_seq ?_
  refine at_drawG (B := [⟨g3, 22, EE [0]⟩, ⟨g2, 22, EE [0]⟩, ⟨g1, 22, EE [b]⟩, ⟨g0, 22, EE [a]⟩]) (E := [⟨.pure [3], 0, [], .v (.agg (E (a)).toArray)⟩, ⟨.pure [2], 0, [], .v (.agg (E (b)).toArray)⟩, ⟨.alloc, 46, EE [0], .p 2 0⟩, ⟨.alloc, 46, EE [0], .p 3 0⟩, ⟨.storeA 2, 0, EE [a], .v undef⟩, ⟨.storeA 3, 0, EE [b], .v undef⟩]) (by kernel_rfl) (by kernel_rfl) (by kernel_rfl) (fun γ0 => ?_)
  refine gs_pure rfl rfl (fun M' sB sT => ?_) ?_
  · obtain ⟨iB3, hB3⟩ := sB 3 _ rfl rfl; exact opr_load (i := iB3) rfl rfl hB3 Tryd.underlying22 rfl size22 (E_length _) (EE_at (k := 0) rfl rfl rfl)
  refine gs_pure rfl rfl (fun M' sB sT => ?_) ?_
  · obtain ⟨iB2, hB2⟩ := sB 2 _ rfl rfl; exact opr_load (i := iB2) rfl rfl hB2 Tryd.underlying22 rfl size22 (E_length _) (EE_at (k := 0) rfl rfl rfl)
  refine gs_alloc rfl rfl (fun M' => opr_alloc rfl zero46 rfl) ?_
  refine gs_alloc rfl rfl (fun M' => opr_alloc rfl zero46 rfl) ?_
  refine gs_storeA rfl rfl rfl rfl rfl (fun M' j hj => opr_store (i := j) rfl rfl rfl rfl hj size46 (E_length _) (by rw [EE_length]; exact Nat.le_of_ble_eq_true rfl) (E_flat _) (EE_set (k := 0) (Nat.le_of_ble_eq_true rfl) rfl)) ?_
  refine gs_storeA rfl rfl rfl rfl rfl (fun M' j hj => opr_store (i := j) rfl rfl rfl rfl hj size46 (E_length _) (by rw [EE_length]; exact Nat.le_of_ble_eq_true rfl) (E_flat _) (EE_set (k := 0) (Nat.le_of_ble_eq_true rfl) rfl)) ?_
  refine gs_nil ?_
  refine (show At _ _ (⟨(γ0 3), 46, EE [b]⟩ :: ⟨(γ0 2), 46, EE [a]⟩ :: ⟨g3, 22, EE [0]⟩ :: ⟨g2, 22, EE [0]⟩ :: ⟨g1, 22, EE [b]⟩ :: ⟨g0, 22, EE [a]⟩ :: _) _ from ?_)
  refine at_then ?_
  refine at_seq ?_
  refine at_region ?_
  refine at_d rfl rfl (opr_call rfl rfl rfl Tryd.func51 (by kernel_rfl) rfl (AddSub_ct (ix := 1) (iy := 0) (kx := 0) (ky := 0) rfl rfl rfl rfl rfl rfl (by decide) ha hb)) ?_
  refine at_nil ?_
  refine at_then ?_
  refine at_seq ?_
  refine at_drawG (B := [⟨(γ0 3), 46, EE [(subF a b)]⟩, ⟨(γ0 2), 46, EE [(addF a b)]⟩, ⟨g3, 22, EE [0]⟩, ⟨g2, 22, EE [0]⟩, ⟨g1, 22, EE [b]⟩, ⟨g0, 22, EE [a]⟩]) (E := [⟨.pure [1], 0, [], .v (.agg (E ((addF a b))).toArray)⟩, ⟨.pure [], 0, [], .v (.agg (E (((addF a b) % pp))).toArray)⟩, ⟨.pure [0], 0, [], .v (.agg (E ((subF a b))).toArray)⟩, ⟨.pure [], 0, [], .v (.agg (E (((subF a b) % pp))).toArray)⟩, ⟨.storeB 3, 0, EE [((addF a b) % pp)], .v undef⟩, ⟨.storeB 2, 0, EE [((subF a b) % pp)], .v undef⟩]) (by kernel_rfl) (by kernel_rfl) (by kernel_rfl) (fun γ1 => ?_)
  refine gs_pure rfl rfl (fun M' sB sT => ?_) ?_
  · obtain ⟨iB1, hB1⟩ := sB 1 _ rfl rfl; exact opr_load (i := iB1) rfl rfl hB1 Tryd.underlying46 rfl size46 (E_length _) (EE_at (k := 0) rfl rfl rfl)
  refine gs_pure rfl rfl (fun M' sB sT => ?_) ?_
  · obtain ⟨iT0, hT0⟩ := sT _ _ hG; exact opr_call rfl rfl rfl Tryd.func40 (by kernel_rfl) rfl (reduced_ct (ig := iT0) hT0 (addF_lt ha hb))
  refine gs_pure rfl rfl (fun M' sB sT => ?_) ?_
  · obtain ⟨iB0, hB0⟩ := sB 0 _ rfl rfl; exact opr_load (i := iB0) rfl rfl hB0 Tryd.underlying46 rfl size46 (E_length _) (EE_at (k := 0) rfl rfl rfl)
  refine gs_pure rfl rfl (fun M' sB sT => ?_) ?_
  · obtain ⟨iT0, hT0⟩ := sT _ _ hG; exact opr_call rfl rfl rfl Tryd.func40 (by kernel_rfl) rfl (reduced_ct (ig := iT0) hT0 (subF_lt ha hb))
  refine gs_storeB rfl rfl rfl (fun M' j hj => opr_store (i := j) rfl rfl rfl rfl hj size22 (E_length _) (by rw [EE_length]; exact Nat.le_of_ble_eq_true rfl) (E_flat _) (EE_set (k := 0) (Nat.le_of_ble_eq_true rfl) rfl)) ?_
  refine gs_storeB rfl rfl rfl (fun M' j hj => opr_store (i := j) rfl rfl rfl rfl hj size22 (E_length _) (by rw [EE_length]; exact Nat.le_of_ble_eq_true rfl) (E_flat _) (EE_set (k := 0) (Nat.le_of_ble_eq_true rfl) rfl)) ?_
  refine gs_nil ?_
  refine (show At _ _ (⟨(γ0 3), 46, EE [(subF a b)]⟩ :: ⟨(γ0 2), 46, EE [(addF a b)]⟩ :: ⟨g3, 22, EE [((subF a b) % pp)]⟩ :: ⟨g2, 22, EE [((addF a b) % pp)]⟩ :: ⟨g1, 22, EE [b]⟩ :: ⟨g0, 22, EE [a]⟩ :: _) _ from ?_)
  refine at_then ?_
  refine at_ret ?_
  exact done_of (res2 Tryd.results35 (res_cell (i := 3) rfl rfl Tryd.underlying22 rfl size22 (E_length _) (EE_at (k := 0) rfl rfl rfl)) (res_cell (i := 2) rfl rfl Tryd.underlying22 rfl size22 (E_length _) (EE_at (k := 0) rfl rfl rfl))) ⟨rfl, rfl⟩ (by repeat (first | exact List.Sublist.refl _ | apply List.Sublist.cons))
theorem is_true {M : Mem} {a b : Nat} (h : a = b) (hb : b < RR) : Ct Tryd.prog 15 #[.agg (E a).toArray, .agg (N b).toArray] M (Det (.bool true) M) := by
  have k := is_ct (M := M) (a := a) (b := b) (h ▸ hb) hb
  rw [decide_eq_true h] at k
  exact k

theorem fnAddSubIs_ct {M : Mem} {ig Tp : Nat} (hG : M[ig]? = some ⟨0, Tp, EE [pp]⟩) {a b : Nat} (ha : a < RR) (hb : b < RR) : Ct Tryd.prog 9 #[.agg (E a).toArray, .agg (E b).toArray] M (Det (.bool true) M) := by
  refine ct_of (vs := [.agg (E a).toArray, .agg (E b).toArray]) Tryd.func9 rfl Tryd.ntmps9 rfl fun w0 => ?_
  refine at_seq ?_
  refine at_region ?_
  refine at_n rfl rfl (opr_box (cs := EE [a]) rfl rfl (E_box _)) ?_
  intro g0
  refine at_n rfl rfl (opr_box (cs := EE [b]) rfl rfl (E_box _)) ?_
  intro g1
  refine at_d rfl rfl (opr_assign rfl rfl) ?_
  refine at_nil ?_
  refine at_then ?_
  refine at_seq ?_
  refine at_region ?_
  refine at_d rfl rfl (opr_load (i := 1) rfl rfl rfl Tryd.underlying22 rfl size22 (E_length _) (EE_at (k := 0) rfl rfl rfl)) ?_
  refine at_d rfl rfl (opr_load (i := 0) rfl rfl rfl Tryd.underlying22 rfl size22 (E_length _) (EE_at (k := 0) rfl rfl rfl)) ?_
  refine at_d rfl rfl (opr_call rfl rfl rfl Tryd.func35 (by kernel_rfl) rfl (iAddSub_ct (ig := ig + 2) hG ha hb)) ?_
  refine at_d rfl rfl (opr_move rfl rfl) ?_
  refine at_d rfl rfl (opr_extract rfl rfl rfl) ?_
  refine at_d rfl rfl (opr_extract rfl rfl rfl) ?_
  refine at_n rfl rfl (opr_alloc rfl zero22 rfl) ?_
  intro g2
  refine at_n rfl rfl (opr_alloc rfl zero22 rfl) ?_
  intro g3
  refine at_d rfl rfl (opr_store (i := 1) rfl rfl rfl rfl rfl size22 (E_length _) (by rw [EE_length]; exact Nat.le_of_ble_eq_true rfl) (E_flat _) (EE_set (k := 0) (Nat.le_of_ble_eq_true rfl) rfl)) ?_
  refine at_d rfl rfl (opr_store (i := 0) rfl rfl rfl rfl rfl size22 (E_length _) (by rw [EE_length]; exact Nat.le_of_ble_eq_true rfl) (E_flat _) (EE_set (k := 0) (Nat.le_of_ble_eq_true rfl) rfl)) ?_
  refine at_nil ?_
  refine at_then ?_
  refine at_seq ?_
  refine at_drawQ (by kernel_rfl) (by kernel_rfl) (List.cons_ne_nil _ _) ?_
  refine dr_op rfl rfl (opr_load (i := 1) rfl rfl rfl Tryd.underlying22 rfl size22 (E_length _) (EE_at (k := 0) rfl rfl rfl)) ?_
  refine dr_op rfl rfl (opr_load (i := 3) rfl rfl rfl Tryd.underlying22 rfl size22 (E_length _) (EE_at (k := 0) rfl rfl rfl)) ?_
  refine dr_op rfl rfl (opr_call rfl rfl rfl Tryd.func18 (by kernel_rfl) rfl (of_ct _)) ?_
  refine dr_op rfl rfl (opr_load (i := 2) rfl rfl rfl Tryd.underlying22 rfl size22 (E_length _) (EE_at (k := 0) rfl rfl rfl)) ?_
  refine dr_op rfl rfl (opr_call rfl rfl rfl Tryd.func18 (by kernel_rfl) rfl (of_ct _)) ?_
  refine dr_op rfl rfl (opr_call rfl rfl rfl Tryd.func34 (by kernel_rfl) rfl (sAdd_ct ha hb)) ?_
  refine dr_op rfl rfl (opr_call rfl rfl rfl Tryd.func15 (by kernel_rfl) rfl (is_true (addF_mod ha hb) (modp_lt _))) ?_
  refine dr_op rfl rfl (opr_move rfl rfl) ?_
  refine dr_op rfl rfl (opr_load (i := 0) rfl rfl rfl Tryd.underlying22 rfl size22 (E_length _) (EE_at (k := 0) rfl rfl rfl)) ?_
  refine dr_op rfl rfl (opr_load (i := 3) rfl rfl rfl Tryd.underlying22 rfl size22 (E_length _) (EE_at (k := 0) rfl rfl rfl)) ?_
  refine dr_op rfl rfl (opr_call rfl rfl rfl Tryd.func18 (by kernel_rfl) rfl (of_ct _)) ?_
  refine dr_op rfl rfl (opr_load (i := 2) rfl rfl rfl Tryd.underlying22 rfl size22 (E_length _) (EE_at (k := 0) rfl rfl rfl)) ?_
  refine dr_op rfl rfl (opr_call rfl rfl rfl Tryd.func18 (by kernel_rfl) rfl (of_ct _)) ?_
  refine dr_op rfl rfl (opr_call rfl rfl rfl Tryd.func20 (by kernel_rfl) rfl (sSub_ct ha hb)) ?_
  refine dr_op rfl rfl (opr_call rfl rfl rfl Tryd.func15 (by kernel_rfl) rfl (is_true (subF_mod ha hb) (modp_lt _))) ?_
  refine dr_op rfl rfl (opr_pickT rfl rfl rfl) ?_
  refine dr_last rfl rfl (opr_assign rfl rfl) ?_
  refine ⟨rfl, ?_⟩
  refine at_then ?_
  refine at_ret ?_
  refine done_of (res1 Tryd.results9 (res_tmp rfl)) ⟨rfl, rfl⟩ (by repeat (first | exact List.Sublist.refl _ | apply List.Sublist.cons))
theorem built_small (c : Nat) : Tryd.prog.built 22 [(0, .int .u8 (c : Int))] = some (.int .u8 (c : Int) :: List.replicate 55 (.int .u8 0)).toArray := by kernel_rfl
theorem E_small {c : Nat} (hc : c < 256) : (Value.int .u8 (c : Int) :: List.replicate 55 (.int .u8 0)) = E c := by
  have h0 : c / 256 = 0 := Nat.div_eq_of_lt hc
  have hz : ∀ n, (digs 256 n 0).map u8V = List.replicate n (.int .u8 0) := by
    intro n
    induction n with
    | zero => rfl
    | succ n ih => rw [digs, Nat.zero_mod, Nat.zero_div, List.map_cons, ih]; rfl
  rw [E, digs, h0, Nat.mod_eq_of_lt hc, List.map_cons, hz]; rfl
theorem opr_buildE {P : Program} {St : Slots} {M : Mem} {o : Oper} {T : TypeId} {ps : List (Nat × Operand)} {vs : List (Nat × Value)} {cs ds : List Value} (ho : o.op = .build T ps.toArray) (hps : evalP St ps = some vs) (hb : P.built T vs = some cs.toArray) (e : cs = ds) : OpR P St M o (Det (.agg ds.toArray) M) :=
  e ▸ opr_buildP ho hps hb
theorem one_ct {M : Mem} : Ct Tryd.prog 30 #[] M (Det (.agg (E 1).toArray) M) := by
  refine ct_of (vs := []) Tryd.func30 rfl Tryd.ntmps30 rfl fun w0 => ?_
  refine at_seq ?_
  refine at_region ?_
  refine at_n rfl rfl (opr_alloc rfl zero22 rfl) ?_
  intro g0
  refine at_nil ?_
  refine at_then ?_
  refine at_seq ?_
  refine at_region ?_
  refine at_d rfl rfl (opr_buildE rfl rfl (built_small 1) (E_small (by decide))) ?_
  refine at_d rfl rfl (opr_store (i := 0) rfl rfl rfl rfl rfl size22 (E_length _) (by rw [EE_length]; exact Nat.le_of_ble_eq_true rfl) (E_flat _) (EE_set (k := 0) (Nat.le_of_ble_eq_true rfl) rfl)) ?_
  refine at_nil ?_
  refine at_then ?_
  refine at_ret ?_
  refine done_of (res1 Tryd.results30 (res_cell (i := 0) rfl rfl Tryd.underlying22 rfl size22 (E_length _) (EE_at (k := 0) rfl rfl rfl))) ⟨rfl, rfl⟩ (by repeat (first | exact List.Sublist.refl _ | apply List.Sublist.cons))
theorem road1 {a b : Nat} (ha : a < RR) (hb : b < RR) : subF a b % pp = addF a (subF pp b % pp) % pp := by
  rw [subF_mod ha hb, subF_neg hb, addF_mod ha (negp_lt b)]
theorem fnRoads_ct {M : Mem} {ig Tp : Nat} (hG : M[ig]? = some ⟨0, Tp, EE [pp]⟩) {a b : Nat} (ha : a < RR) (hb : b < RR) : Ct Tryd.prog 14 #[.agg (E a).toArray, .agg (E b).toArray] M (Det (.bool true) M) := by
  refine ct_of (vs := [.agg (E a).toArray, .agg (E b).toArray]) Tryd.func14 rfl Tryd.ntmps14 rfl fun w0 => ?_
  refine at_seq ?_
  refine at_region ?_
  refine at_n rfl rfl (opr_box (cs := EE [a]) rfl rfl (E_box _)) ?_
  intro g0
  refine at_n rfl rfl (opr_box (cs := EE [b]) rfl rfl (E_box _)) ?_
  intro g1
  refine at_d rfl rfl (opr_assign rfl rfl) ?_
  refine at_nil ?_
  refine at_then ?_
  refine at_seq ?_
  refine at_region ?_
  refine at_d rfl rfl (opr_load (i := 1) rfl rfl rfl Tryd.underlying22 rfl size22 (E_length _) (EE_at (k := 0) rfl rfl rfl)) ?_
  refine at_d rfl rfl (opr_load (i := 0) rfl rfl rfl Tryd.underlying22 rfl size22 (E_length _) (EE_at (k := 0) rfl rfl rfl)) ?_
  refine at_d rfl rfl (opr_call rfl rfl rfl Tryd.func35 (by kernel_rfl) rfl (iAddSub_ct (ig := ig + 2) hG ha hb)) ?_
  refine at_d rfl rfl (opr_move rfl rfl) ?_
  refine at_d rfl rfl (opr_extract rfl rfl rfl) ?_
  refine at_d rfl rfl (opr_extract rfl rfl rfl) ?_
  refine at_n rfl rfl (opr_alloc rfl zero22 rfl) ?_
  intro g2
  refine at_n rfl rfl (opr_alloc rfl zero22 rfl) ?_
  intro g3
  refine at_d rfl rfl (opr_store (i := 1) rfl rfl rfl rfl rfl size22 (E_length _) (by rw [EE_length]; exact Nat.le_of_ble_eq_true rfl) (E_flat _) (EE_set (k := 0) (Nat.le_of_ble_eq_true rfl) rfl)) ?_
  refine at_d rfl rfl (opr_store (i := 0) rfl rfl rfl rfl rfl size22 (E_length _) (by rw [EE_length]; exact Nat.le_of_ble_eq_true rfl) (E_flat _) (EE_set (k := 0) (Nat.le_of_ble_eq_true rfl) rfl)) ?_
  refine at_nil ?_
  refine at_then ?_
  refine at_seq ?_
  refine at_drawQ (by kernel_rfl) (by kernel_rfl) (List.cons_ne_nil _ _) ?_
  refine dr_op rfl rfl (opr_load (i := 3) rfl rfl rfl Tryd.underlying22 rfl size22 (E_length _) (EE_at (k := 0) rfl rfl rfl)) ?_
  refine dr_op rfl rfl (opr_load (i := 2) rfl rfl rfl Tryd.underlying22 rfl size22 (E_length _) (EE_at (k := 0) rfl rfl rfl)) ?_
  refine dr_op rfl rfl (opr_call rfl rfl rfl Tryd.func19 (by kernel_rfl) rfl (iSub_ct (ig := ig + 4) hG ha hb)) ?_
  refine dr_op rfl rfl (opr_load (i := 3) rfl rfl rfl Tryd.underlying22 rfl size22 (E_length _) (EE_at (k := 0) rfl rfl rfl)) ?_
  refine dr_op rfl rfl (opr_load (i := 2) rfl rfl rfl Tryd.underlying22 rfl size22 (E_length _) (EE_at (k := 0) rfl rfl rfl)) ?_
  refine dr_op rfl rfl (opr_call rfl rfl rfl Tryd.func21 (by kernel_rfl) rfl (iNeg_ct (ig := ig + 4) hG hb)) ?_
  refine dr_op rfl rfl (opr_call rfl rfl rfl Tryd.func33 (by kernel_rfl) rfl (iAdd_ct (ig := ig + 4) hG ha (modp_lt _))) ?_
  refine dr_op rfl rfl (opr_eqlT rfl rfl rfl Tryd.underlying22 Tryd.underlying5 size5 (by kernel_rfl) (road1 ha hb) (modp_lt _)) ?_
  refine dr_op rfl rfl (opr_move rfl rfl) ?_
  refine dr_op rfl rfl (opr_load (i := 3) rfl rfl rfl Tryd.underlying22 rfl size22 (E_length _) (EE_at (k := 0) rfl rfl rfl)) ?_
  refine dr_op rfl rfl (opr_call rfl rfl rfl Tryd.func38 (by kernel_rfl) rfl (iSqr_ct (ig := ig + 4) hG ha)) ?_
  refine dr_op rfl rfl (opr_load (i := 3) rfl rfl rfl Tryd.underlying22 rfl size22 (E_length _) (EE_at (k := 0) rfl rfl rfl)) ?_
  refine dr_op rfl rfl (opr_load (i := 3) rfl rfl rfl Tryd.underlying22 rfl size22 (E_length _) (EE_at (k := 0) rfl rfl rfl)) ?_
  refine dr_op rfl rfl (opr_call rfl rfl rfl Tryd.func36 (by kernel_rfl) rfl (iMul_ct (ig := ig + 4) hG ha ha)) ?_
  refine dr_op rfl rfl (opr_eqlT rfl rfl rfl Tryd.underlying22 Tryd.underlying5 size5 (by kernel_rfl) rfl (modp_lt _)) ?_
  refine dr_op rfl rfl (opr_pickT rfl rfl rfl) ?_
  refine dr_op rfl rfl (opr_move rfl rfl) ?_
  refine dr_op rfl rfl (opr_load (i := 1) rfl rfl rfl Tryd.underlying22 rfl size22 (E_length _) (EE_at (k := 0) rfl rfl rfl)) ?_
  refine dr_op rfl rfl (opr_load (i := 3) rfl rfl rfl Tryd.underlying22 rfl size22 (E_length _) (EE_at (k := 0) rfl rfl rfl)) ?_
  refine dr_op rfl rfl (opr_load (i := 2) rfl rfl rfl Tryd.underlying22 rfl size22 (E_length _) (EE_at (k := 0) rfl rfl rfl)) ?_
  refine dr_op rfl rfl (opr_call rfl rfl rfl Tryd.func33 (by kernel_rfl) rfl (iAdd_ct (ig := ig + 4) hG ha hb)) ?_
  refine dr_op rfl rfl (opr_eqlT rfl rfl rfl Tryd.underlying22 Tryd.underlying5 size5 (by kernel_rfl) rfl (modp_lt _)) ?_
  refine dr_op rfl rfl (opr_pickT rfl rfl rfl) ?_
  refine dr_op rfl rfl (opr_move rfl rfl) ?_
  refine dr_op rfl rfl (opr_load (i := 0) rfl rfl rfl Tryd.underlying22 rfl size22 (E_length _) (EE_at (k := 0) rfl rfl rfl)) ?_
  refine dr_op rfl rfl (opr_load (i := 3) rfl rfl rfl Tryd.underlying22 rfl size22 (E_length _) (EE_at (k := 0) rfl rfl rfl)) ?_
  refine dr_op rfl rfl (opr_load (i := 2) rfl rfl rfl Tryd.underlying22 rfl size22 (E_length _) (EE_at (k := 0) rfl rfl rfl)) ?_
  refine dr_op rfl rfl (opr_call rfl rfl rfl Tryd.func19 (by kernel_rfl) rfl (iSub_ct (ig := ig + 4) hG ha hb)) ?_
  refine dr_op rfl rfl (opr_eqlT rfl rfl rfl Tryd.underlying22 Tryd.underlying5 size5 (by kernel_rfl) rfl (modp_lt _)) ?_
  refine dr_op rfl rfl (opr_pickT rfl rfl rfl) ?_
  refine dr_op rfl rfl (opr_move rfl rfl) ?_
  refine dr_op rfl rfl (opr_call rfl rfl rfl Tryd.func30 (by kernel_rfl) rfl (one_ct)) ?_
  refine dr_op rfl rfl (opr_call rfl rfl rfl Tryd.func30 (by kernel_rfl) rfl (one_ct)) ?_
  refine dr_op rfl rfl (opr_call rfl rfl rfl Tryd.func33 (by kernel_rfl) rfl (iAdd_ct (ig := ig + 4) hG RR_one RR_one)) ?_
  refine dr_op rfl rfl (opr_buildE rfl rfl (built_small 2) (E_small (by decide))) ?_
  refine dr_op rfl rfl (opr_eqlT rfl rfl rfl Tryd.underlying22 Tryd.underlying5 size5 (by kernel_rfl) (by decide +kernel) (by decide)) ?_
  refine dr_op rfl rfl (opr_pickT rfl rfl rfl) ?_
  refine dr_last rfl rfl (opr_assign rfl rfl) ?_
  refine ⟨rfl, ?_⟩
  refine at_then ?_
  refine at_ret ?_
  refine done_of (res1 Tryd.results14 (res_tmp rfl)) ⟨rfl, rfl⟩ (by repeat (first | exact List.Sublist.refl _ | apply List.Sublist.cons))
end Go.Proofs.YtjnnogmlfepenaaDoor
