/- The field's functions on elements. -/
import Derived.Test.YtkjfongekklabaaDoorPow
import Derived.Test.YtkjfongekklabaaDoorSqrt
namespace Go.Proofs.YtkjfongekklabaaDoor
open Go
set_option maxRecDepth 100000

/-- The result stands at element kz of block iz; as an element it is e. -/
def ElR (M : Mem) (iz gz Tz kz : Nat) (lz : List Nat) (e : Fin pp) : Value → Mem → Prop := fun v M' => ∃ r, r < RR ∧ el r = e ∧ v = .tuple #[] ∧ M' = M.set iz ⟨gz, Tz, EE (lz.set kz r)⟩
theorem elR_mulR {M : Mem} {iz gz Tz kz a b : Nat} {lz : List Nat} {v : Value} {M' : Mem} (h : MulR M iz gz Tz kz (a * b) lz v M') : ElR M iz gz Tz kz lz (el a * el b) v M' := by
  obtain ⟨r, hr, hm, h1, h2⟩ := h
  exact ⟨r, hr, el_mulR hm, h1, h2⟩
theorem elR_det {M : Mem} {iz gz Tz kz n : Nat} {lz : List Nat} {e : Fin pp} {v : Value} {M' : Mem} (hn : n < RR) (he : el n = e) (h : Det (.tuple #[]) (M.set iz ⟨gz, Tz, EE (lz.set kz n)⟩) v M') : ElR M iz gz Tz kz lz e v M' := ⟨n, hn, he, h.1, h.2⟩
theorem el_RR {a : Nat} (h : a % pp = 0) : el a = 0 := el_eq_zero.2 h
theorem val_of_el {r s : Nat} (h : el r = el s) (hs : s < pp) : r % pp = s := by rw [el_eq.1 h, Nat.mod_eq_of_lt hs]
theorem Mul_el {M : Mem} {iz ix iy gz gx gy Tz Tx Ty kz kx ky oz ox oy a b : Nat} {lz lx ly : List Nat} (hz : M[iz]? = some ⟨gz, Tz, EE lz⟩) (hkz : kz < lz.length) (hoz : 56 * kz = oz) (hx : M[ix]? = some ⟨gx, Tx, EE lx⟩) (hkx : lx[kx]? = some a) (hox : 56 * kx = ox) (hy : M[iy]? = some ⟨gy, Ty, EE ly⟩) (hky : ly[ky]? = some b) (hoy : 56 * ky = oy) (ha : a < RR) (hb : b < RR) : Ct Tryd.prog 33 #[.pointer (some ⟨gz, oz, none⟩), .pointer (some ⟨gx, ox, none⟩), .pointer (some ⟨gy, oy, none⟩)] M (ElR M iz gz Tz kz lz (el a * el b)) := (Mul_ct hz hkz hoz hx hkx hox hy hky hoy ha hb).mono fun _ _ h => elR_mulR h
theorem Sqr_el {M : Mem} {iz ix gz gx Tz Tx kz kx oz ox a : Nat} {lz lx : List Nat} (hz : M[iz]? = some ⟨gz, Tz, EE lz⟩) (hkz : kz < lz.length) (hoz : 56 * kz = oz) (hx : M[ix]? = some ⟨gx, Tx, EE lx⟩) (hkx : lx[kx]? = some a) (hox : 56 * kx = ox) (ha : a < RR) : Ct Tryd.prog 34 #[.pointer (some ⟨gz, oz, none⟩), .pointer (some ⟨gx, ox, none⟩)] M (ElR M iz gz Tz kz lz (el a * el a)) := (Sqr_ct hz hkz hoz hx hkx hox ha).mono fun _ _ h => elR_mulR h
theorem Add_el {M : Mem} {iz ix iy gz gx gy Tz Tx Ty kz kx ky oz ox oy a b : Nat} {lz lx ly : List Nat} (hz : M[iz]? = some ⟨gz, Tz, EE lz⟩) (hkz : kz < lz.length) (hoz : 56 * kz = oz) (hx : M[ix]? = some ⟨gx, Tx, EE lx⟩) (hkx : lx[kx]? = some a) (hox : 56 * kx = ox) (hy : M[iy]? = some ⟨gy, Ty, EE ly⟩) (hky : ly[ky]? = some b) (hoy : 56 * ky = oy) (ha : a < RR) (hb : b < RR) : Ct Tryd.prog 81 #[.pointer (some ⟨gz, oz, none⟩), .pointer (some ⟨gx, ox, none⟩), .pointer (some ⟨gy, oy, none⟩)] M (ElR M iz gz Tz kz lz (el a + el b)) := (Add_ct hz hkz hoz hx hkx hox hy hky hoy ha hb).mono fun _ _ h => elR_det (addF_lt ha hb) (el_addF ha hb) h
theorem Sub_el {M : Mem} {iz ix iy gz gx gy Tz Tx Ty kz kx ky oz ox oy a b : Nat} {lz lx ly : List Nat} (hz : M[iz]? = some ⟨gz, Tz, EE lz⟩) (hkz : kz < lz.length) (hoz : 56 * kz = oz) (hx : M[ix]? = some ⟨gx, Tx, EE lx⟩) (hkx : lx[kx]? = some a) (hox : 56 * kx = ox) (hy : M[iy]? = some ⟨gy, Ty, EE ly⟩) (hky : ly[ky]? = some b) (hoy : 56 * ky = oy) (ha : a < RR) (hb : b < RR) : Ct Tryd.prog 52 #[.pointer (some ⟨gz, oz, none⟩), .pointer (some ⟨gx, ox, none⟩), .pointer (some ⟨gy, oy, none⟩)] M (ElR M iz gz Tz kz lz (el a - el b)) := (Sub_ct hz hkz hoz hx hkx hox hy hky hoy ha hb).mono fun _ _ h => elR_det (subF_lt ha hb) (el_subF ha hb) h
theorem el_pp : el pp = 0 := el_eq_zero.2 (Nat.mod_self pp)
theorem el_neg' {a : Nat} (ha : a < RR) : el (subF pp a) = -el a := by
  rw [el_subF RR_pp ha, el_pp]
  generalize el a = x
  grind
theorem Neg_el {M : Mem} {ig Tp : Nat} (hG : M[ig]? = some ⟨0, Tp, EE [pp]⟩) {iz ix gz gx Tz Tx kz kx oz ox a : Nat} {lz lx : List Nat} (hz : M[iz]? = some ⟨gz, Tz, EE lz⟩) (hkz : kz < lz.length) (hoz : 56 * kz = oz) (hx : M[ix]? = some ⟨gx, Tx, EE lx⟩) (hkx : lx[kx]? = some a) (hox : 56 * kx = ox) (ha : a < RR) : Ct Tryd.prog 35 #[.pointer (some ⟨gz, oz, none⟩), .pointer (some ⟨gx, ox, none⟩)] M (ElR M iz gz Tz kz lz (-el a)) := (fNeg_ct hG hz hkz hoz hx hkx hox ha).mono fun _ _ h => elR_det (subF_lt RR_pp ha) (el_neg' ha) h
theorem AddSub_el {M : Mem} {ix iy gx gy Tx Ty kx ky ox oy a b : Nat} {lx ly : List Nat} (hx : M[ix]? = some ⟨gx, Tx, EE lx⟩) (hkx : lx[kx]? = some a) (hox : 56 * kx = ox) (hy : M[iy]? = some ⟨gy, Ty, EE ly⟩) (hky : ly[ky]? = some b) (hoy : 56 * ky = oy) (hne : iy ≠ ix) (ha : a < RR) (hb : b < RR) : Ct Tryd.prog 80 #[.pointer (some ⟨gx, ox, none⟩), .pointer (some ⟨gy, oy, none⟩)] M (fun v M' => ∃ r s, r < RR ∧ s < RR ∧ el r = el a + el b ∧ el s = el a - el b ∧ v = .tuple #[] ∧ M' = (M.set iy ⟨gy, Ty, EE (ly.set ky s)⟩).set ix ⟨gx, Tx, EE (lx.set kx r)⟩) :=
  (AddSub_ct hx hkx hox hy hky hoy hne ha hb).mono fun _ _ h => ⟨_, _, addF_lt ha hb, subF_lt ha hb, el_addF ha hb, el_subF ha hb, h.1, h.2⟩
theorem addsubGenericS_ct {M : Mem} {ix gx Tx kx ky ox oy a b : Nat} {lx : List Nat} (hx : M[ix]? = some ⟨gx, Tx, EE lx⟩) (hkx : lx[kx]? = some a) (hox : 56 * kx = ox) (hky : lx[ky]? = some b) (hoy : 56 * ky = oy) (hne : kx ≠ ky) (ha : a < RR) (hb : b < RR) : Ct Tryd.prog 92 #[.pointer (some ⟨gx, ox, none⟩), .pointer (some ⟨gx, oy, none⟩)] M (Det (.tuple #[]) (M.set ix ⟨gx, Tx, EE ((lx.set ky (subF a b)).set kx (addF a b))⟩)) := by
  refine ct_of (vs := [.pointer (some ⟨gx, ox, none⟩), .pointer (some ⟨gx, oy, none⟩)]) Tryd.func92 rfl Tryd.ntmps92 rfl fun w0 => ?_
  refine at_seq ?_
  refine at_region ?_
  refine at_d rfl rfl (opr_build0 rfl zero47 rfl Tryd.underlying47 size5) ?_
  refine at_n rfl rfl (opr_box rfl rfl rfl) ?_
  intro g0
  refine at_d rfl rfl (opr_assign rfl rfl) ?_
  refine at_nil ?_
  refine at_then ?_
  refine at_seq ?_
  refine at_region ?_
  refine at_d rfl rfl (opr_move rfl rfl) ?_
  refine at_d rfl rfl (opr_move rfl rfl) ?_
  refine at_d rfl rfl (opr_move rfl rfl) ?_
  refine at_d rfl rfl (opr_call rfl rfl rfl Tryd.func93 (by kernel_rfl) rfl (addGeneric_ct (iz := 0) (ix := ix + 1) (iy := ix + 1) (kz := 0) rfl (Nat.le_of_ble_eq_true rfl) rfl hx hkx hox hx hky hoy ha hb)) ?_
  refine at_nil ?_
  refine at_then ?_
  refine at_seq ?_
  refine at_region ?_
  refine at_d rfl rfl (opr_move rfl rfl) ?_
  refine at_d rfl rfl (opr_move rfl rfl) ?_
  refine at_d rfl rfl (opr_move rfl rfl) ?_
  refine at_d rfl rfl (opr_call rfl rfl rfl Tryd.func73 (by kernel_rfl) rfl (subGeneric_ct (iz := ix + 1) (ix := ix + 1) (iy := ix + 1) (kz := ky) hx (List.getElem?_eq_some_iff.1 hky).1 hoy hx hkx hox hx hky hoy ha hb)) ?_
  refine at_nil ?_
  refine at_then ?_
  refine at_region ?_
  refine at_d rfl rfl (opr_move rfl rfl) ?_
  refine at_d rfl rfl (opr_move rfl rfl) ?_
  refine at_d rfl rfl (opr_nilCheck rfl rfl) ?_
  refine at_d rfl rfl (opr_load (i := 0) rfl rfl rfl Tryd.underlying47 rfl size47 (E_length _) (EE_at (k := 0) rfl rfl rfl)) ?_
  refine at_d rfl rfl (opr_nilCheck rfl rfl) ?_
  refine at_d rfl rfl (opr_store (i := ix + 1) rfl rfl rfl rfl (get_set hx) size47 (E_length _) (by rw [EE_length, List.length_set]; exact el_le hkx hox) (E_flat _) (EE_set (by rw [List.length_set]; exact (List.getElem?_eq_some_iff.1 hkx).1) hox)) ?_
  refine at_nil ?_
  exact done_of (res0 Tryd.results92) ⟨rfl, by simp only [List.tail_cons, List.set_cons_succ, List.set_set]⟩ (List.Sublist.cons _ (List.Sublist.refl _))
theorem AddSubS_el {M : Mem} {ix gx Tx kx ky ox oy a b : Nat} {lx : List Nat} (hx : M[ix]? = some ⟨gx, Tx, EE lx⟩) (hkx : lx[kx]? = some a) (hox : 56 * kx = ox) (hky : lx[ky]? = some b) (hoy : 56 * ky = oy) (hne : kx ≠ ky) (ha : a < RR) (hb : b < RR) : Ct Tryd.prog 80 #[.pointer (some ⟨gx, ox, none⟩), .pointer (some ⟨gx, oy, none⟩)] M (fun v M' => ∃ r s, r < RR ∧ s < RR ∧ el r = el a + el b ∧ el s = el a - el b ∧ v = .tuple #[] ∧ M' = M.set ix ⟨gx, Tx, EE ((lx.set ky s).set kx r)⟩) :=
  (AddSub_pass (addsub_pass (addsubGenericS_ct hx hkx hox hky hoy hne ha hb) (fun _ _ h => h.1)) (fun _ _ h => h.1)).mono fun _ _ h => ⟨_, _, addF_lt ha hb, subF_lt ha hb, el_addF ha hb, el_subF ha hb, h.1, h.2⟩
end Go.Proofs.YtkjfongekklabaaDoor
