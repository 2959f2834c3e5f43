/- The field's functions on elements. -/
import Derived.Test.YtjlhhcdefcofkaaGreatDoorPow
import Derived.Test.YtjlhhcdefcofkaaGreatDoorSqrt
namespace Go.Proofs.YtjlhhcdefcofkaaGreatDoor
open Go
set_option maxRecDepth 100000

/-- The result stands at element kz of block iz; as an element it is e. -/
def ElR (M : Mem) (iz gz Tz kz : Nat) (lz : List Nat) (e : Fin pp) : Value → Mem → Prop := fun v M' => ∃ r, r < RR ∧ el r = e ∧ v = .tuple #[] ∧ M' = M.set iz ⟨gz, Tz, EE (lz.set kz r)⟩
theorem elR_mulR {M : Mem} {iz gz Tz kz a b : Nat} {lz : List Nat} {v : Value} {M' : Mem} (h : MulR M iz gz Tz kz (a * b) lz v M') : ElR M iz gz Tz kz lz (el a * el b) v M' := by
  obtain ⟨r, hr, hm, h1, h2⟩ := h
  exact ⟨r, hr, el_mulR hm, h1, h2⟩
theorem elR_det {M : Mem} {iz gz Tz kz n : Nat} {lz : List Nat} {e : Fin pp} {v : Value} {M' : Mem} (hn : n < RR) (he : el n = e) (h : Det (.tuple #[]) (M.set iz ⟨gz, Tz, EE (lz.set kz n)⟩) v M') : ElR M iz gz Tz kz lz e v M' := ⟨n, hn, he, h.1, h.2⟩
theorem el_RR {a : Nat} (h : a % pp = 0) : el a = 0 := el_eq_zero.2 h
theorem val_of_el {r s : Nat} (h : el r = el s) (hs : s < pp) : r % pp = s := by rw [el_eq.1 h, Nat.mod_eq_of_lt hs]
theorem Mul_el {M : Mem} {iz ix iy gz gx gy Tz Tx Ty kz kx ky oz ox oy a b : Nat} {lz lx ly : List Nat} (hz : M[iz]? = some ⟨gz, Tz, EE lz⟩) (hkz : kz < lz.length) (hoz : 56 * kz = oz) (hx : M[ix]? = some ⟨gx, Tx, EE lx⟩) (hkx : lx[kx]? = some a) (hox : 56 * kx = ox) (hy : M[iy]? = some ⟨gy, Ty, EE ly⟩) (hky : ly[ky]? = some b) (hoy : 56 * ky = oy) (ha : a < RR) (hb : b < RR) : Ct Tryz.prog 43 #[.pointer (some ⟨gz, oz, none⟩), .pointer (some ⟨gx, ox, none⟩), .pointer (some ⟨gy, oy, none⟩)] M (ElR M iz gz Tz kz lz (el a * el b)) := (Mul_ct hz hkz hoz hx hkx hox hy hky hoy ha hb).mono fun _ _ h => elR_mulR h
theorem Sqr_el {M : Mem} {iz ix gz gx Tz Tx kz kx oz ox a : Nat} {lz lx : List Nat} (hz : M[iz]? = some ⟨gz, Tz, EE lz⟩) (hkz : kz < lz.length) (hoz : 56 * kz = oz) (hx : M[ix]? = some ⟨gx, Tx, EE lx⟩) (hkx : lx[kx]? = some a) (hox : 56 * kx = ox) (ha : a < RR) : Ct Tryz.prog 61 #[.pointer (some ⟨gz, oz, none⟩), .pointer (some ⟨gx, ox, none⟩)] M (ElR M iz gz Tz kz lz (el a * el a)) := (Sqr_ct hz hkz hoz hx hkx hox ha).mono fun _ _ h => elR_mulR h
theorem Add_el {M : Mem} {iz ix iy gz gx gy Tz Tx Ty kz kx ky oz ox oy a b : Nat} {lz lx ly : List Nat} (hz : M[iz]? = some ⟨gz, Tz, EE lz⟩) (hkz : kz < lz.length) (hoz : 56 * kz = oz) (hx : M[ix]? = some ⟨gx, Tx, EE lx⟩) (hkx : lx[kx]? = some a) (hox : 56 * kx = ox) (hy : M[iy]? = some ⟨gy, Ty, EE ly⟩) (hky : ly[ky]? = some b) (hoy : 56 * ky = oy) (ha : a < RR) (hb : b < RR) : Ct Tryz.prog 60 #[.pointer (some ⟨gz, oz, none⟩), .pointer (some ⟨gx, ox, none⟩), .pointer (some ⟨gy, oy, none⟩)] M (ElR M iz gz Tz kz lz (el a + el b)) := (Add_ct hz hkz hoz hx hkx hox hy hky hoy ha hb).mono fun _ _ h => elR_det (addF_lt ha hb) (el_addF ha hb) h
theorem Sub_el {M : Mem} {iz ix iy gz gx gy Tz Tx Ty kz kx ky oz ox oy a b : Nat} {lz lx ly : List Nat} (hz : M[iz]? = some ⟨gz, Tz, EE lz⟩) (hkz : kz < lz.length) (hoz : 56 * kz = oz) (hx : M[ix]? = some ⟨gx, Tx, EE lx⟩) (hkx : lx[kx]? = some a) (hox : 56 * kx = ox) (hy : M[iy]? = some ⟨gy, Ty, EE ly⟩) (hky : ly[ky]? = some b) (hoy : 56 * ky = oy) (ha : a < RR) (hb : b < RR) : Ct Tryz.prog 62 #[.pointer (some ⟨gz, oz, none⟩), .pointer (some ⟨gx, ox, none⟩), .pointer (some ⟨gy, oy, none⟩)] M (ElR M iz gz Tz kz lz (el a - el b)) := (Sub_ct hz hkz hoz hx hkx hox hy hky hoy ha hb).mono fun _ _ h => elR_det (subF_lt ha hb) (el_subF ha hb) h
theorem el_pp : el pp = 0 := el_eq_zero.2 (Nat.mod_self pp)
theorem el_neg' {a : Nat} (ha : a < RR) : el (subF pp a) = -el a := by
  rw [el_subF RR_pp ha, el_pp]
  generalize el a = x
  grind
theorem Neg_el {M : Mem} {ig Tp : Nat} (hG : M[ig]? = some ⟨3, Tp, EE [pp]⟩) {iz ix gz gx Tz Tx kz kx oz ox a : Nat} {lz lx : List Nat} (hz : M[iz]? = some ⟨gz, Tz, EE lz⟩) (hkz : kz < lz.length) (hoz : 56 * kz = oz) (hx : M[ix]? = some ⟨gx, Tx, EE lx⟩) (hkx : lx[kx]? = some a) (hox : 56 * kx = ox) (ha : a < RR) : Ct Tryz.prog 75 #[.pointer (some ⟨gz, oz, none⟩), .pointer (some ⟨gx, ox, none⟩)] M (ElR M iz gz Tz kz lz (-el a)) := (fNeg_ct hG hz hkz hoz hx hkx hox ha).mono fun _ _ h => elR_det (subF_lt RR_pp ha) (el_neg' ha) h
end Go.Proofs.YtjlhhcdefcofkaaGreatDoor
