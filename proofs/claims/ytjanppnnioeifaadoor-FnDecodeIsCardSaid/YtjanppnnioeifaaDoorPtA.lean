/- Sums of the package's points. -/
import Derived.Test.YtjanppnnioeifaaDoorEl
import Derived.Test.YtjanppnnioeifaaDoorGold
import Derived.Test.YtjanppnnioeifaaDoorFill
namespace Go.Proofs.YtjanppnnioeifaaDoor
open Go
set_option maxRecDepth 100000

theorem builtz82 : Tryd.prog.built 82 [] = some (List.replicate 56 (Value.int .u8 0)).toArray := by kernel_rfl
/-- What Point.Add makes of two points. -/
structure AddEl (x1 y1 z1 a1 b1 x2 y2 z2 a2 b2 x3 y3 z3 a3 b3 : Fin pp) : Prop where
  ha : a3 = (x1 + y1) * (x2 + y2) - x1 * x2 - y1 * y2
  hb : b3 = y1 * y2 - x1 * x2
  hx : x3 = a3 * (z1 * z2 - a1 * b1 * (a2 * b2) * el dP)
  hy : y3 = (z1 * z2 + a1 * b1 * (a2 * b2) * el dP) * b3
  hz : z3 = (z1 * z2 - a1 * b1 * (a2 * b2) * el dP) * (z1 * z2 + a1 * b1 * (a2 * b2) * el dP)
theorem AddEl.ne {x1 y1 x2 y2 x3 y3 z3 a3 b3 : Fin pp} (h1 : On (el dP) x1 y1) (h2 : On (el dP) x2 y2) (h : AddEl x1 y1 (el 1) x1 y1 x2 y2 (el 1) x2 y2 x3 y3 z3 a3 b3) : z3 ≠ 0 := by
  have dp := den_plus goldC h1 h2
  have dm := den_minus goldC h1 h2
  rw [el_one] at h
  have e1 : (1 : Fin pp) * 1 - x1 * y1 * (x2 * y2) * el dP = 1 - el dP * x1 * x2 * y1 * y2 := by clear h h1 h2 dp dm; grind
  have e2 : (1 : Fin pp) * 1 + x1 * y1 * (x2 * y2) * el dP = 1 + el dP * x1 * x2 * y1 * y2 := by clear h h1 h2 dp dm e1; grind
  obtain ⟨ha, hb, hx, hy, hz⟩ := h
  rw [e1, e2] at hz
  rw [hz]; exact isF_pp.mul_ne dm dp
/-- Two points by their coordinates: the sum's quotients. -/
theorem AddEl.sum {x1 y1 x2 y2 x3 y3 z3 a3 b3 : Fin pp} (h1 : On (el dP) x1 y1) (h2 : On (el dP) x2 y2) (h : AddEl x1 y1 (el 1) x1 y1 x2 y2 (el 1) x2 y2 x3 y3 z3 a3 b3) {xa ya : Fin pp} (hxa : xa * z3 = x3) (hya : ya * z3 = y3) :
    Sum (el dP) x1 y1 x2 y2 xa ya := by
  have dp := den_plus goldC h1 h2
  have dm := den_minus goldC h1 h2
  rw [el_one] at h
  have e1 : (1 : Fin pp) * 1 - x1 * y1 * (x2 * y2) * el dP = 1 - el dP * x1 * x2 * y1 * y2 := by clear hxa hya h h1 h2 dp dm; grind
  have e2 : (1 : Fin pp) * 1 + x1 * y1 * (x2 * y2) * el dP = 1 + el dP * x1 * x2 * y1 * y2 := by clear hxa hya h h1 h2 dp dm e1; grind
  have ea : (x1 + y1) * (x2 + y2) - x1 * x2 - y1 * y2 = x1 * y2 + y1 * x2 := by clear hxa hya h h1 h2 dp dm e1 e2; grind
  obtain ⟨ha, hb, hx, hy, hz⟩ := h
  rw [e1, e2] at hz
  rw [e1] at hx
  rw [e2] at hy
  rw [ea] at ha
  refine ⟨?_, ?_⟩
  · apply isF_pp.cancel dm
    rw [← ha]
    generalize 1 - el dP * x1 * x2 * y1 * y2 = m at *
    generalize 1 + el dP * x1 * x2 * y1 * y2 = q at *
    clear hya hy hb e1 e2 ea h1 h2 dp dm ha
    grind
  · apply isF_pp.cancel dp
    rw [← hb]
    generalize 1 - el dP * x1 * x2 * y1 * y2 = m at *
    generalize 1 + el dP * x1 * x2 * y1 * y2 = q at *
    clear hxa hx ha e1 e2 ea h1 h2 dp dm hb
    grind
theorem add_ct {M : Mem} {jd Td : Nat} (hD : M[jd]? = some ⟨0, Td, EE [dP]⟩) {ip gP TP x1 y1 z1 a1 b1 : Nat} (hP : M[ip]? = some ⟨gP, TP, EE [x1, y1, z1, a1, b1]⟩) (hne2 : ip ≠ jd) (hx1 : x1 < RR) (hy1 : y1 < RR) (hz1 : z1 < RR) (ha1 : a1 < RR) (hb1 : b1 < RR) {iq gQ TQ x2 y2 z2 a2 b2 : Nat} (hQ : M[iq]? = some ⟨gQ, TQ, EE [x2, y2, z2, a2, b2]⟩) (hne : ip ≠ iq) (hx2 : x2 < RR) (hy2 : y2 < RR) (hz2 : z2 < RR) (ha2 : a2 < RR) (hb2 : b2 < RR) : Ct Tryd.prog 70 #[.pointer (some ⟨gP, 0, none⟩), .pointer (some ⟨gQ, 0, none⟩)] M (fun v M' => ∃ x3 y3 z3 a3 b3, x3 < RR ∧ y3 < RR ∧ z3 < RR ∧ a3 < RR ∧ b3 < RR ∧ AddEl (el x1) (el y1) (el z1) (el a1) (el b1) (el x2) (el y2) (el z2) (el a2) (el b2) (el x3) (el y3) (el z3) (el a3) (el b3) ∧ v = .tuple #[] ∧ M' = M.set ip ⟨gP, TP, EE [x3, y3, z3, a3, b3]⟩) := by
  refine ct_of (vs := [.pointer (some ⟨gP, 0, none⟩), .pointer (some ⟨gQ, 0, none⟩)]) Tryd.func70 rfl Tryd.ntmps70 rfl fun w0 => ?_
  refine at_seq ?_
  refine at_draw (by kernel_rfl) (by kernel_rfl) (by kernel_rfl) (List.cons_ne_nil _ _) ?_
  refine dr_op rfl rfl (opr_move rfl rfl) ?_
  refine dr_op rfl rfl (opr_nilCheck rfl rfl) ?_
  refine dr_op rfl rfl (opr_fieldAddr rfl rfl Tryd.underlying84 rfl size82 rfl rfl) ?_
  refine dr_op rfl rfl (opr_move rfl rfl) ?_
  refine dr_op rfl rfl (opr_nilCheck rfl rfl) ?_
  refine dr_op rfl rfl (opr_fieldAddr rfl rfl Tryd.underlying84 rfl size82 rfl rfl) ?_
  refine dr_op rfl rfl (opr_move rfl rfl) ?_
  refine dr_op rfl rfl (opr_nilCheck rfl rfl) ?_
  refine dr_op rfl rfl (opr_fieldAddr rfl rfl Tryd.underlying84 rfl size82 rfl rfl) ?_
  refine dr_op rfl rfl (opr_move rfl rfl) ?_
  refine dr_op rfl rfl (opr_nilCheck rfl rfl) ?_
  refine dr_op rfl rfl (opr_fieldAddr rfl rfl Tryd.underlying84 rfl size82 rfl rfl) ?_
  refine dr_op rfl rfl (opr_move rfl rfl) ?_
  refine dr_op rfl rfl (opr_nilCheck rfl rfl) ?_
  refine dr_op rfl rfl (opr_fieldAddr rfl rfl Tryd.underlying84 rfl size82 rfl rfl) ?_
  refine dr_op rfl rfl (opr_assign rfl rfl) ?_
  refine dr_op rfl rfl (opr_assign rfl rfl) ?_
  refine dr_op rfl rfl (opr_assign rfl rfl) ?_
  refine dr_op rfl rfl (opr_assign rfl rfl) ?_
  refine dr_last rfl rfl (opr_assign rfl rfl) ?_
  refine at_then ?_
  refine at_seq ?_
  refine at_draw (by kernel_rfl) (by kernel_rfl) (by kernel_rfl) (List.cons_ne_nil _ _) ?_
  refine dr_op rfl rfl (opr_move rfl rfl) ?_
  refine dr_op rfl rfl (opr_nilCheck rfl rfl) ?_
  refine dr_op rfl rfl (opr_fieldAddr rfl rfl Tryd.underlying84 rfl size82 rfl rfl) ?_
  refine dr_op rfl rfl (opr_move rfl rfl) ?_
  refine dr_op rfl rfl (opr_nilCheck rfl rfl) ?_
  refine dr_op rfl rfl (opr_fieldAddr rfl rfl Tryd.underlying84 rfl size82 rfl rfl) ?_
  refine dr_op rfl rfl (opr_move rfl rfl) ?_
  refine dr_op rfl rfl (opr_nilCheck rfl rfl) ?_
  refine dr_op rfl rfl (opr_fieldAddr rfl rfl Tryd.underlying84 rfl size82 rfl rfl) ?_
  refine dr_op rfl rfl (opr_move rfl rfl) ?_
  refine dr_op rfl rfl (opr_nilCheck rfl rfl) ?_
  refine dr_op rfl rfl (opr_fieldAddr rfl rfl Tryd.underlying84 rfl size82 rfl rfl) ?_
  refine dr_op rfl rfl (opr_move rfl rfl) ?_
  refine dr_op rfl rfl (opr_nilCheck rfl rfl) ?_
  refine dr_op rfl rfl (opr_fieldAddr rfl rfl Tryd.underlying84 rfl size82 rfl rfl) ?_
  refine dr_op rfl rfl (opr_assign rfl rfl) ?_
  refine dr_op rfl rfl (opr_assign rfl rfl) ?_
  refine dr_op rfl rfl (opr_assign rfl rfl) ?_
  refine dr_op rfl rfl (opr_assign rfl rfl) ?_
  refine dr_last rfl rfl (opr_assign rfl rfl) ?_
  refine at_then ?_
  refine at_seq ?_
  refine at_draw (by kernel_rfl) (by kernel_rfl) (by kernel_rfl) (List.cons_ne_nil _ _) ?_
  refine dr_op rfl rfl (opr_move rfl rfl) ?_
  refine dr_op rfl rfl (opr_nilCheck rfl rfl) ?_
  refine dr_op rfl rfl (opr_fieldAddr rfl rfl Tryd.underlying84 rfl size82 rfl rfl) ?_
  refine dr_op rfl rfl (opr_move rfl rfl) ?_
  refine dr_op rfl rfl (opr_nilCheck rfl rfl) ?_
  refine dr_op rfl rfl (opr_fieldAddr rfl rfl Tryd.underlying84 rfl size82 rfl rfl) ?_
  refine dr_op rfl rfl (opr_move rfl rfl) ?_
  refine dr_op rfl rfl (opr_nilCheck rfl rfl) ?_
  refine dr_op rfl rfl (opr_fieldAddr rfl rfl Tryd.underlying84 rfl size82 rfl rfl) ?_
  refine dr_op rfl rfl (opr_move rfl rfl) ?_
  refine dr_op rfl rfl (opr_nilCheck rfl rfl) ?_
  refine dr_op rfl rfl (opr_fieldAddr rfl rfl Tryd.underlying84 rfl size82 rfl rfl) ?_
  refine dr_op rfl rfl (opr_move rfl rfl) ?_
  refine dr_op rfl rfl (opr_nilCheck rfl rfl) ?_
  refine dr_op rfl rfl (opr_fieldAddr rfl rfl Tryd.underlying84 rfl size82 rfl rfl) ?_
  refine dr_op rfl rfl (opr_assign rfl rfl) ?_
  refine dr_op rfl rfl (opr_assign rfl rfl) ?_
  refine dr_op rfl rfl (opr_assign rfl rfl) ?_
  refine dr_op rfl rfl (opr_assign rfl rfl) ?_
  refine dr_last rfl rfl (opr_assign rfl rfl) ?_
  refine at_then ?_
  refine at_seq ?_
  refine at_region ?_
  refine at_d rfl rfl (opr_buildE (ds := E 0) rfl rfl builtz82 rfl) ?_
  refine at_n rfl rfl (opr_box (cs := EE [0]) rfl rfl (E_box _)) ?_
  intro g0
  refine at_d rfl rfl (opr_buildE (ds := E 0) rfl rfl builtz82 rfl) ?_
  refine at_n rfl rfl (opr_box (cs := EE [0]) rfl rfl (E_box _)) ?_
  intro g1
  refine at_d rfl rfl (opr_buildE (ds := E 0) rfl rfl builtz82 rfl) ?_
  refine at_n rfl rfl (opr_box (cs := EE [0]) rfl rfl (E_box _)) ?_
  intro g2
  refine at_d rfl rfl (opr_buildE (ds := E 0) rfl rfl builtz82 rfl) ?_
  refine at_n rfl rfl (opr_box (cs := EE [0]) rfl rfl (E_box _)) ?_
  intro g3
  refine at_d rfl rfl (opr_assign rfl rfl) ?_
  refine at_d rfl rfl (opr_assign rfl rfl) ?_
  refine at_d rfl rfl (opr_assign rfl rfl) ?_
  refine at_d rfl rfl (opr_assign rfl rfl) ?_
  refine at_nil ?_
  refine at_then ?_
  refine at_seq ?_
  refine at_region ?_
  refine at_d rfl rfl (opr_move rfl rfl) ?_
  refine at_d rfl rfl (opr_move rfl rfl) ?_
  refine at_d rfl rfl (opr_buildE (ds := E 0) rfl rfl builtz82 rfl) ?_
  refine at_n rfl rfl (opr_box (cs := EE [0]) rfl rfl (E_box _)) ?_
  intro g4
  refine at_d rfl rfl (opr_buildE (ds := E 0) rfl rfl builtz82 rfl) ?_
  refine at_n rfl rfl (opr_box (cs := EE [0]) rfl rfl (E_box _)) ?_
  intro g5
  refine at_d rfl rfl (opr_assign rfl rfl) ?_
  refine at_d rfl rfl (opr_assign rfl rfl) ?_
  refine at_d rfl rfl (opr_assign rfl rfl) ?_
  refine at_d rfl rfl (opr_assign rfl rfl) ?_
  refine at_nil ?_
  refine at_then ?_
  refine at_seq ?_
  refine at_region ?_
  refine at_d rfl rfl (opr_move rfl rfl) ?_
  refine at_d rfl rfl (opr_move rfl rfl) ?_
  refine at_d rfl rfl (opr_move rfl rfl) ?_
  refine at_c rfl rfl (opr_call rfl rfl rfl Tryd.func73 (by kernel_rfl) rfl (Mul_el (iz := 3) (ix := ip + 6) (iy := ip + 6) (kz := 0) (kx := 3) (ky := 4) rfl (Nat.le_of_ble_eq_true rfl) rfl hP rfl rfl hP rfl rfl ha1 hb1)) ?_
  rintro _ _ ⟨r0, hr0, f0, rfl, rfl⟩
  refine at_nil ?_
  refine at_then ?_
  refine at_seq ?_
  refine at_region ?_
  refine at_d rfl rfl (opr_move rfl rfl) ?_
  refine at_d rfl rfl (opr_move rfl rfl) ?_
  refine at_d rfl rfl (opr_move rfl rfl) ?_
  refine at_c rfl rfl (opr_call rfl rfl rfl Tryd.func73 (by kernel_rfl) rfl (Mul_el (iz := 2) (ix := iq + 6) (iy := iq + 6) (kz := 0) (kx := 3) (ky := 4) rfl (Nat.le_of_ble_eq_true rfl) rfl hQ rfl rfl hQ rfl rfl ha2 hb2)) ?_
  rintro _ _ ⟨r1, hr1, f1, rfl, rfl⟩
  refine at_nil ?_
  refine at_then ?_
  refine at_seq ?_
  refine at_region ?_
  refine at_d rfl rfl (opr_move rfl rfl) ?_
  refine at_d rfl rfl (opr_move rfl rfl) ?_
  refine at_d rfl rfl (opr_move rfl rfl) ?_
  refine at_c rfl rfl (opr_call rfl rfl rfl Tryd.func73 (by kernel_rfl) rfl (Mul_el (iz := 5) (ix := ip + 6) (iy := iq + 6) (kz := 0) (kx := 0) (ky := 0) rfl (Nat.le_of_ble_eq_true rfl) rfl hP rfl rfl hQ rfl rfl hx1 hx2)) ?_
  rintro _ _ ⟨r2, hr2, f2, rfl, rfl⟩
  refine at_nil ?_
  refine at_then ?_
  refine at_seq ?_
  refine at_region ?_
  refine at_d rfl rfl (opr_move rfl rfl) ?_
  refine at_d rfl rfl (opr_move rfl rfl) ?_
  refine at_d rfl rfl (opr_move rfl rfl) ?_
  refine at_c rfl rfl (opr_call rfl rfl rfl Tryd.func73 (by kernel_rfl) rfl (Mul_el (iz := 4) (ix := ip + 6) (iy := iq + 6) (kz := 0) (kx := 1) (ky := 1) rfl (Nat.le_of_ble_eq_true rfl) rfl hP rfl rfl hQ rfl rfl hy1 hy2)) ?_
  rintro _ _ ⟨r3, hr3, f3, rfl, rfl⟩
  refine at_nil ?_
  refine at_then ?_
  refine at_seq ?_
  refine at_region ?_
  refine at_d rfl rfl (opr_move rfl rfl) ?_
  refine at_d rfl rfl (opr_move rfl rfl) ?_
  refine at_d rfl rfl (opr_move rfl rfl) ?_
  refine at_c rfl rfl (opr_call rfl rfl rfl Tryd.func73 (by kernel_rfl) rfl (Mul_el (iz := 3) (ix := 3) (iy := 2) (kz := 0) (kx := 0) (ky := 0) rfl (Nat.le_of_ble_eq_true rfl) rfl rfl rfl rfl rfl rfl rfl hr0 hr1)) ?_
  rintro _ _ ⟨r4, hr4, f4, rfl, rfl⟩
  refine at_nil ?_
  refine at_then ?_
  refine at_seq ?_
  refine at_region ?_
  refine at_d rfl rfl (opr_load (i := jd + 6) rfl rfl hD Tryd.underlying82 rfl size82 (E_length _) (EE_at (k := 0) rfl rfl rfl)) ?_
  refine at_n rfl rfl (opr_alloc rfl zero82 rfl) ?_
  intro g6
  refine at_d rfl rfl (opr_store (i := 0) rfl rfl rfl rfl rfl size82 (E_length _) (by rw [EE_length]; exact Nat.le_of_ble_eq_true rfl) (E_flat _) (EE_set (k := 0) (Nat.le_of_ble_eq_true rfl) rfl)) ?_
  refine at_nil ?_
  refine at_then ?_
  refine at_seq ?_
  refine at_region ?_
  refine at_d rfl rfl (opr_move rfl rfl) ?_
  refine at_d rfl rfl (opr_move rfl rfl) ?_
  refine at_c rfl rfl (opr_call rfl rfl rfl Tryd.func73 (by kernel_rfl) rfl (Mul_el (iz := 4) (ix := 4) (iy := 0) (kz := 0) (kx := 0) (ky := 0) rfl (Nat.le_of_ble_eq_true rfl) rfl rfl rfl rfl rfl rfl rfl hr4 (by decide))) ?_
  rintro _ _ ⟨r5, hr5, f5, rfl, rfl⟩
  refine at_nil ?_
  refine at_then ?_
  refine at_seq ?_
  refine at_region ?_
  refine at_d rfl rfl (opr_move rfl rfl) ?_
  refine at_d rfl rfl (opr_move rfl rfl) ?_
  refine at_d rfl rfl (opr_move rfl rfl) ?_
  refine at_c rfl rfl (opr_call rfl rfl rfl Tryd.func73 (by kernel_rfl) rfl (Mul_el (iz := 3) (ix := ip + 7) (iy := iq + 7) (kz := 0) (kx := 2) (ky := 2) rfl (Nat.le_of_ble_eq_true rfl) rfl hP rfl rfl hQ rfl rfl hz1 hz2)) ?_
  rintro _ _ ⟨r6, hr6, f6, rfl, rfl⟩
  refine at_nil ?_
  refine at_then ?_
  refine at_seq ?_
  refine at_region ?_
  refine at_d rfl rfl (opr_move rfl rfl) ?_
  refine at_d rfl rfl (opr_move rfl rfl) ?_
  refine at_d rfl rfl (opr_move rfl rfl) ?_
  refine at_c rfl rfl (opr_call rfl rfl rfl Tryd.func90 (by kernel_rfl) rfl (Add_el (iz := 2) (ix := ip + 7) (iy := ip + 7) (kz := 0) (kx := 0) (ky := 1) rfl (Nat.le_of_ble_eq_true rfl) rfl hP rfl rfl hP rfl rfl hx1 hy1)) ?_
  rintro _ _ ⟨r7, hr7, f7, rfl, rfl⟩
  refine at_nil ?_
  refine at_then ?_
  refine at_seq ?_
  refine at_region ?_
  refine at_d rfl rfl (opr_move rfl rfl) ?_
  refine at_d rfl rfl (opr_move rfl rfl) ?_
  refine at_d rfl rfl (opr_move rfl rfl) ?_
  refine at_c rfl rfl (opr_call rfl rfl rfl Tryd.func90 (by kernel_rfl) rfl (Add_el (iz := ip + 7) (ix := iq + 7) (iy := iq + 7) (kz := 3) (kx := 0) (ky := 1) hP (Nat.le_of_ble_eq_true rfl) rfl hQ rfl rfl hQ rfl rfl hx2 hy2)) ?_
  rintro _ _ ⟨r8, hr8, f8, rfl, rfl⟩
  have hb1 : (M.set ip ⟨gP, TP, EE [x1, y1, z1, r8, b1]⟩)[ip]? = some ⟨gP, TP, EE [x1, y1, z1, r8, b1]⟩ := get_set hP
  have hb1_gQ : (M.set ip ⟨gP, TP, EE [x1, y1, z1, r8, b1]⟩)[iq]? = some ⟨gQ, TQ, EE [x2, y2, z2, a2, b2]⟩ := get_set_ne hQ hne
  refine at_mem (M2 := ⟨g6, 82, EE [dP]⟩ :: ⟨g5, 82, EE [0]⟩ :: ⟨g4, 82, EE [r7]⟩ :: ⟨g3, 82, EE [r6]⟩ :: ⟨g2, 82, EE [r5]⟩ :: ⟨g1, 82, EE [r3]⟩ :: ⟨g0, 82, EE [r2]⟩ :: (M.set ip ⟨gP, TP, EE [x1, y1, z1, r8, b1]⟩)) (by simp) ?_
  refine at_nil ?_
  refine at_then ?_
  refine at_seq ?_
  refine at_region ?_
  refine at_d rfl rfl (opr_move rfl rfl) ?_
  refine at_d rfl rfl (opr_move rfl rfl) ?_
  refine at_d rfl rfl (opr_move rfl rfl) ?_
  refine at_c rfl rfl (opr_call rfl rfl rfl Tryd.func73 (by kernel_rfl) rfl (Mul_el (iz := ip + 7) (ix := ip + 7) (iy := 2) (kz := 3) (kx := 3) (ky := 0) hb1 (Nat.le_of_ble_eq_true rfl) rfl hb1 rfl rfl rfl rfl rfl hr8 hr7)) ?_
  rintro _ _ ⟨r9, hr9, f9, rfl, rfl⟩
  have hb2 : (M.set ip ⟨gP, TP, EE [x1, y1, z1, r9, b1]⟩)[ip]? = some ⟨gP, TP, EE [x1, y1, z1, r9, b1]⟩ := get_set hP
  have hb2_gQ : (M.set ip ⟨gP, TP, EE [x1, y1, z1, r9, b1]⟩)[iq]? = some ⟨gQ, TQ, EE [x2, y2, z2, a2, b2]⟩ := get_set_ne hQ hne
  refine at_mem (M2 := ⟨g6, 82, EE [dP]⟩ :: ⟨g5, 82, EE [0]⟩ :: ⟨g4, 82, EE [r7]⟩ :: ⟨g3, 82, EE [r6]⟩ :: ⟨g2, 82, EE [r5]⟩ :: ⟨g1, 82, EE [r3]⟩ :: ⟨g0, 82, EE [r2]⟩ :: (M.set ip ⟨gP, TP, EE [x1, y1, z1, r9, b1]⟩)) (by simp) ?_
  refine at_nil ?_
  refine at_then ?_
  refine at_seq ?_
  refine at_region ?_
  refine at_d rfl rfl (opr_move rfl rfl) ?_
  refine at_d rfl rfl (opr_move rfl rfl) ?_
  refine at_d rfl rfl (opr_move rfl rfl) ?_
  refine at_c rfl rfl (opr_call rfl rfl rfl Tryd.func74 (by kernel_rfl) rfl (Sub_el (iz := ip + 7) (ix := ip + 7) (iy := 6) (kz := 3) (kx := 3) (ky := 0) hb2 (Nat.le_of_ble_eq_true rfl) rfl hb2 rfl rfl rfl rfl rfl hr9 hr2)) ?_
  rintro _ _ ⟨r10, hr10, f10, rfl, rfl⟩
  have hb3 : (M.set ip ⟨gP, TP, EE [x1, y1, z1, r10, b1]⟩)[ip]? = some ⟨gP, TP, EE [x1, y1, z1, r10, b1]⟩ := get_set hP
  have hb3_gQ : (M.set ip ⟨gP, TP, EE [x1, y1, z1, r10, b1]⟩)[iq]? = some ⟨gQ, TQ, EE [x2, y2, z2, a2, b2]⟩ := get_set_ne hQ hne
  refine at_mem (M2 := ⟨g6, 82, EE [dP]⟩ :: ⟨g5, 82, EE [0]⟩ :: ⟨g4, 82, EE [r7]⟩ :: ⟨g3, 82, EE [r6]⟩ :: ⟨g2, 82, EE [r5]⟩ :: ⟨g1, 82, EE [r3]⟩ :: ⟨g0, 82, EE [r2]⟩ :: (M.set ip ⟨gP, TP, EE [x1, y1, z1, r10, b1]⟩)) (by simp) ?_
  refine at_nil ?_
  refine at_then ?_
  refine at_seq ?_
  refine at_region ?_
  refine at_d rfl rfl (opr_move rfl rfl) ?_
  refine at_d rfl rfl (opr_move rfl rfl) ?_
  refine at_d rfl rfl (opr_move rfl rfl) ?_
  refine at_c rfl rfl (opr_call rfl rfl rfl Tryd.func74 (by kernel_rfl) rfl (Sub_el (iz := ip + 7) (ix := ip + 7) (iy := 5) (kz := 3) (kx := 3) (ky := 0) hb3 (Nat.le_of_ble_eq_true rfl) rfl hb3 rfl rfl rfl rfl rfl hr10 hr3)) ?_
  rintro _ _ ⟨r11, hr11, f11, rfl, rfl⟩
  have hb4 : (M.set ip ⟨gP, TP, EE [x1, y1, z1, r11, b1]⟩)[ip]? = some ⟨gP, TP, EE [x1, y1, z1, r11, b1]⟩ := get_set hP
  have hb4_gQ : (M.set ip ⟨gP, TP, EE [x1, y1, z1, r11, b1]⟩)[iq]? = some ⟨gQ, TQ, EE [x2, y2, z2, a2, b2]⟩ := get_set_ne hQ hne
  refine at_mem (M2 := ⟨g6, 82, EE [dP]⟩ :: ⟨g5, 82, EE [0]⟩ :: ⟨g4, 82, EE [r7]⟩ :: ⟨g3, 82, EE [r6]⟩ :: ⟨g2, 82, EE [r5]⟩ :: ⟨g1, 82, EE [r3]⟩ :: ⟨g0, 82, EE [r2]⟩ :: (M.set ip ⟨gP, TP, EE [x1, y1, z1, r11, b1]⟩)) (by simp) ?_
  refine at_nil ?_
  refine at_then ?_
  refine at_seq ?_
  refine at_region ?_
  refine at_d rfl rfl (opr_move rfl rfl) ?_
  refine at_d rfl rfl (opr_move rfl rfl) ?_
  refine at_d rfl rfl (opr_move rfl rfl) ?_
  refine at_c rfl rfl (opr_call rfl rfl rfl Tryd.func74 (by kernel_rfl) rfl (Sub_el (iz := 2) (ix := 3) (iy := 4) (kz := 0) (kx := 0) (ky := 0) rfl (Nat.le_of_ble_eq_true rfl) rfl rfl rfl rfl rfl rfl rfl hr6 hr5)) ?_
  rintro _ _ ⟨r12, hr12, f12, rfl, rfl⟩
  refine at_nil ?_
  refine at_then ?_
  refine at_seq ?_
  refine at_region ?_
  refine at_d rfl rfl (opr_move rfl rfl) ?_
  refine at_d rfl rfl (opr_move rfl rfl) ?_
  refine at_d rfl rfl (opr_move rfl rfl) ?_
  refine at_c rfl rfl (opr_call rfl rfl rfl Tryd.func90 (by kernel_rfl) rfl (Add_el (iz := 1) (ix := 3) (iy := 4) (kz := 0) (kx := 0) (ky := 0) rfl (Nat.le_of_ble_eq_true rfl) rfl rfl rfl rfl rfl rfl rfl hr6 hr5)) ?_
  rintro _ _ ⟨r13, hr13, f13, rfl, rfl⟩
  refine at_nil ?_
  refine at_then ?_
  refine at_seq ?_
  refine at_region ?_
  refine at_d rfl rfl (opr_move rfl rfl) ?_
  refine at_d rfl rfl (opr_move rfl rfl) ?_
  refine at_d rfl rfl (opr_move rfl rfl) ?_
  refine at_c rfl rfl (opr_call rfl rfl rfl Tryd.func74 (by kernel_rfl) rfl (Sub_el (iz := ip + 7) (ix := 5) (iy := 6) (kz := 4) (kx := 0) (ky := 0) hb4 (Nat.le_of_ble_eq_true rfl) rfl rfl rfl rfl rfl rfl rfl hr3 hr2)) ?_
  rintro _ _ ⟨r14, hr14, f14, rfl, rfl⟩
  have hb5 : (M.set ip ⟨gP, TP, EE [x1, y1, z1, r11, r14]⟩)[ip]? = some ⟨gP, TP, EE [x1, y1, z1, r11, r14]⟩ := get_set hP
  have hb5_gQ : (M.set ip ⟨gP, TP, EE [x1, y1, z1, r11, r14]⟩)[iq]? = some ⟨gQ, TQ, EE [x2, y2, z2, a2, b2]⟩ := get_set_ne hQ hne
  refine at_mem (M2 := ⟨g6, 82, EE [dP]⟩ :: ⟨g5, 82, EE [r13]⟩ :: ⟨g4, 82, EE [r12]⟩ :: ⟨g3, 82, EE [r6]⟩ :: ⟨g2, 82, EE [r5]⟩ :: ⟨g1, 82, EE [r3]⟩ :: ⟨g0, 82, EE [r2]⟩ :: (M.set ip ⟨gP, TP, EE [x1, y1, z1, r11, r14]⟩)) (by simp) ?_
  refine at_nil ?_
  refine at_then ?_
  refine at_seq ?_
  refine at_region ?_
  refine at_d rfl rfl (opr_move rfl rfl) ?_
  refine at_d rfl rfl (opr_move rfl rfl) ?_
  refine at_d rfl rfl (opr_move rfl rfl) ?_
  refine at_c rfl rfl (opr_call rfl rfl rfl Tryd.func73 (by kernel_rfl) rfl (Mul_el (iz := ip + 7) (ix := 2) (iy := 1) (kz := 2) (kx := 0) (ky := 0) hb5 (Nat.le_of_ble_eq_true rfl) rfl rfl rfl rfl rfl rfl rfl hr12 hr13)) ?_
  rintro _ _ ⟨r15, hr15, f15, rfl, rfl⟩
  have hb6 : (M.set ip ⟨gP, TP, EE [x1, y1, r15, r11, r14]⟩)[ip]? = some ⟨gP, TP, EE [x1, y1, r15, r11, r14]⟩ := get_set hP
  have hb6_gQ : (M.set ip ⟨gP, TP, EE [x1, y1, r15, r11, r14]⟩)[iq]? = some ⟨gQ, TQ, EE [x2, y2, z2, a2, b2]⟩ := get_set_ne hQ hne
  refine at_mem (M2 := ⟨g6, 82, EE [dP]⟩ :: ⟨g5, 82, EE [r13]⟩ :: ⟨g4, 82, EE [r12]⟩ :: ⟨g3, 82, EE [r6]⟩ :: ⟨g2, 82, EE [r5]⟩ :: ⟨g1, 82, EE [r3]⟩ :: ⟨g0, 82, EE [r2]⟩ :: (M.set ip ⟨gP, TP, EE [x1, y1, r15, r11, r14]⟩)) (by simp) ?_
  refine at_nil ?_
  refine at_then ?_
  refine at_seq ?_
  refine at_region ?_
  refine at_d rfl rfl (opr_move rfl rfl) ?_
  refine at_d rfl rfl (opr_move rfl rfl) ?_
  refine at_d rfl rfl (opr_move rfl rfl) ?_
  refine at_c rfl rfl (opr_call rfl rfl rfl Tryd.func73 (by kernel_rfl) rfl (Mul_el (iz := ip + 7) (ix := ip + 7) (iy := 2) (kz := 0) (kx := 3) (ky := 0) hb6 (Nat.le_of_ble_eq_true rfl) rfl hb6 rfl rfl rfl rfl rfl hr11 hr12)) ?_
  rintro _ _ ⟨r16, hr16, f16, rfl, rfl⟩
  have hb7 : (M.set ip ⟨gP, TP, EE [r16, y1, r15, r11, r14]⟩)[ip]? = some ⟨gP, TP, EE [r16, y1, r15, r11, r14]⟩ := get_set hP
  have hb7_gQ : (M.set ip ⟨gP, TP, EE [r16, y1, r15, r11, r14]⟩)[iq]? = some ⟨gQ, TQ, EE [x2, y2, z2, a2, b2]⟩ := get_set_ne hQ hne
  refine at_mem (M2 := ⟨g6, 82, EE [dP]⟩ :: ⟨g5, 82, EE [r13]⟩ :: ⟨g4, 82, EE [r12]⟩ :: ⟨g3, 82, EE [r6]⟩ :: ⟨g2, 82, EE [r5]⟩ :: ⟨g1, 82, EE [r3]⟩ :: ⟨g0, 82, EE [r2]⟩ :: (M.set ip ⟨gP, TP, EE [r16, y1, r15, r11, r14]⟩)) (by simp) ?_
  refine at_nil ?_
  refine at_then ?_
  refine at_region ?_
  refine at_d rfl rfl (opr_move rfl rfl) ?_
  refine at_d rfl rfl (opr_move rfl rfl) ?_
  refine at_d rfl rfl (opr_move rfl rfl) ?_
  refine at_c rfl rfl (opr_call rfl rfl rfl Tryd.func73 (by kernel_rfl) rfl (Mul_el (iz := ip + 7) (ix := 1) (iy := ip + 7) (kz := 1) (kx := 0) (ky := 4) hb7 (Nat.le_of_ble_eq_true rfl) rfl rfl rfl rfl hb7 rfl rfl hr13 hr14)) ?_
  rintro _ _ ⟨r17, hr17, f17, rfl, rfl⟩
  have hb8 : (M.set ip ⟨gP, TP, EE [r16, r17, r15, r11, r14]⟩)[ip]? = some ⟨gP, TP, EE [r16, r17, r15, r11, r14]⟩ := get_set hP
  have hb8_gQ : (M.set ip ⟨gP, TP, EE [r16, r17, r15, r11, r14]⟩)[iq]? = some ⟨gQ, TQ, EE [x2, y2, z2, a2, b2]⟩ := get_set_ne hQ hne
  refine at_mem (M2 := ⟨g6, 82, EE [dP]⟩ :: ⟨g5, 82, EE [r13]⟩ :: ⟨g4, 82, EE [r12]⟩ :: ⟨g3, 82, EE [r6]⟩ :: ⟨g2, 82, EE [r5]⟩ :: ⟨g1, 82, EE [r3]⟩ :: ⟨g0, 82, EE [r2]⟩ :: (M.set ip ⟨gP, TP, EE [r16, r17, r15, r11, r14]⟩)) (by simp) ?_
  refine at_nil ?_
  refine done_of (res0 Tryd.results70) ⟨r16, r17, r15, r11, r14, hr16, hr17, hr15, hr11, hr14, ⟨?_, ?_, ?_, ?_, ?_⟩, rfl, rfl⟩ (by repeat (first | exact List.Sublist.refl _ | apply List.Sublist.cons))
  all_goals simp only [f0, f1, f2, f3, f4, f5, f6, f7, f8, f9, f10, f11, f12, f13, f14, f15, f16, f17]
  all_goals clear f17 f16 f15 f14 f13 f12 f11 f10 f9 f8 f7 f6 f5 f4 f3 f2 f1 f0
  all_goals generalize el a1 = Y0, el a2 = Y1, el b1 = Y2, el b2 = Y3, el x1 = Y4, el x2 = Y5, el y1 = Y6, el y2 = Y7, el z1 = Y8, el z2 = Y9, el dP = Y10
  all_goals grind
theorem addS_ct {M : Mem} {jd Td : Nat} (hD : M[jd]? = some ⟨0, Td, EE [dP]⟩) {ip gP TP x1 y1 z1 a1 b1 : Nat} (hP : M[ip]? = some ⟨gP, TP, EE [x1, y1, z1, a1, b1]⟩) (hne2 : ip ≠ jd) (hx1 : x1 < RR) (hy1 : y1 < RR) (hz1 : z1 < RR) (ha1 : a1 < RR) (hb1 : b1 < RR) : Ct Tryd.prog 70 #[.pointer (some ⟨gP, 0, none⟩), .pointer (some ⟨gP, 0, none⟩)] M (fun v M' => ∃ x3 y3 z3 a3 b3, x3 < RR ∧ y3 < RR ∧ z3 < RR ∧ a3 < RR ∧ b3 < RR ∧ AddEl (el x1) (el y1) (el z1) (el a1) (el b1) (el x1) (el y1) (el z1) (el a1) (el b1) (el x3) (el y3) (el z3) (el a3) (el b3) ∧ v = .tuple #[] ∧ M' = M.set ip ⟨gP, TP, EE [x3, y3, z3, a3, b3]⟩) := by
  refine ct_of (vs := [.pointer (some ⟨gP, 0, none⟩), .pointer (some ⟨gP, 0, none⟩)]) Tryd.func70 rfl Tryd.ntmps70 rfl fun w0 => ?_
  refine at_seq ?_
  refine at_draw (by kernel_rfl) (by kernel_rfl) (by kernel_rfl) (List.cons_ne_nil _ _) ?_
  refine dr_op rfl rfl (opr_move rfl rfl) ?_
  refine dr_op rfl rfl (opr_nilCheck rfl rfl) ?_
  refine dr_op rfl rfl (opr_fieldAddr rfl rfl Tryd.underlying84 rfl size82 rfl rfl) ?_
  refine dr_op rfl rfl (opr_move rfl rfl) ?_
  refine dr_op rfl rfl (opr_nilCheck rfl rfl) ?_
  refine dr_op rfl rfl (opr_fieldAddr rfl rfl Tryd.underlying84 rfl size82 rfl rfl) ?_
  refine dr_op rfl rfl (opr_move rfl rfl) ?_
  refine dr_op rfl rfl (opr_nilCheck rfl rfl) ?_
  refine dr_op rfl rfl (opr_fieldAddr rfl rfl Tryd.underlying84 rfl size82 rfl rfl) ?_
  refine dr_op rfl rfl (opr_move rfl rfl) ?_
  refine dr_op rfl rfl (opr_nilCheck rfl rfl) ?_
  refine dr_op rfl rfl (opr_fieldAddr rfl rfl Tryd.underlying84 rfl size82 rfl rfl) ?_
  refine dr_op rfl rfl (opr_move rfl rfl) ?_
  refine dr_op rfl rfl (opr_nilCheck rfl rfl) ?_
  refine dr_op rfl rfl (opr_fieldAddr rfl rfl Tryd.underlying84 rfl size82 rfl rfl) ?_
  refine dr_op rfl rfl (opr_assign rfl rfl) ?_
  refine dr_op rfl rfl (opr_assign rfl rfl) ?_
  refine dr_op rfl rfl (opr_assign rfl rfl) ?_
  refine dr_op rfl rfl (opr_assign rfl rfl) ?_
  refine dr_last rfl rfl (opr_assign rfl rfl) ?_
  refine at_then ?_
  refine at_seq ?_
  refine at_draw (by kernel_rfl) (by kernel_rfl) (by kernel_rfl) (List.cons_ne_nil _ _) ?_
  refine dr_op rfl rfl (opr_move rfl rfl) ?_
  refine dr_op rfl rfl (opr_nilCheck rfl rfl) ?_
  refine dr_op rfl rfl (opr_fieldAddr rfl rfl Tryd.underlying84 rfl size82 rfl rfl) ?_
  refine dr_op rfl rfl (opr_move rfl rfl) ?_
  refine dr_op rfl rfl (opr_nilCheck rfl rfl) ?_
  refine dr_op rfl rfl (opr_fieldAddr rfl rfl Tryd.underlying84 rfl size82 rfl rfl) ?_
  refine dr_op rfl rfl (opr_move rfl rfl) ?_
  refine dr_op rfl rfl (opr_nilCheck rfl rfl) ?_
  refine dr_op rfl rfl (opr_fieldAddr rfl rfl Tryd.underlying84 rfl size82 rfl rfl) ?_
  refine dr_op rfl rfl (opr_move rfl rfl) ?_
  refine dr_op rfl rfl (opr_nilCheck rfl rfl) ?_
  refine dr_op rfl rfl (opr_fieldAddr rfl rfl Tryd.underlying84 rfl size82 rfl rfl) ?_
  refine dr_op rfl rfl (opr_move rfl rfl) ?_
  refine dr_op rfl rfl (opr_nilCheck rfl rfl) ?_
  refine dr_op rfl rfl (opr_fieldAddr rfl rfl Tryd.underlying84 rfl size82 rfl rfl) ?_
  refine dr_op rfl rfl (opr_assign rfl rfl) ?_
  refine dr_op rfl rfl (opr_assign rfl rfl) ?_
  refine dr_op rfl rfl (opr_assign rfl rfl) ?_
  refine dr_op rfl rfl (opr_assign rfl rfl) ?_
  refine dr_last rfl rfl (opr_assign rfl rfl) ?_
  refine at_then ?_
  refine at_seq ?_
  refine at_draw (by kernel_rfl) (by kernel_rfl) (by kernel_rfl) (List.cons_ne_nil _ _) ?_
  refine dr_op rfl rfl (opr_move rfl rfl) ?_
  refine dr_op rfl rfl (opr_nilCheck rfl rfl) ?_
  refine dr_op rfl rfl (opr_fieldAddr rfl rfl Tryd.underlying84 rfl size82 rfl rfl) ?_
  refine dr_op rfl rfl (opr_move rfl rfl) ?_
  refine dr_op rfl rfl (opr_nilCheck rfl rfl) ?_
  refine dr_op rfl rfl (opr_fieldAddr rfl rfl Tryd.underlying84 rfl size82 rfl rfl) ?_
  refine dr_op rfl rfl (opr_move rfl rfl) ?_
  refine dr_op rfl rfl (opr_nilCheck rfl rfl) ?_
  refine dr_op rfl rfl (opr_fieldAddr rfl rfl Tryd.underlying84 rfl size82 rfl rfl) ?_
  refine dr_op rfl rfl (opr_move rfl rfl) ?_
  refine dr_op rfl rfl (opr_nilCheck rfl rfl) ?_
  refine dr_op rfl rfl (opr_fieldAddr rfl rfl Tryd.underlying84 rfl size82 rfl rfl) ?_
  refine dr_op rfl rfl (opr_move rfl rfl) ?_
  refine dr_op rfl rfl (opr_nilCheck rfl rfl) ?_
  refine dr_op rfl rfl (opr_fieldAddr rfl rfl Tryd.underlying84 rfl size82 rfl rfl) ?_
  refine dr_op rfl rfl (opr_assign rfl rfl) ?_
  refine dr_op rfl rfl (opr_assign rfl rfl) ?_
  refine dr_op rfl rfl (opr_assign rfl rfl) ?_
  refine dr_op rfl rfl (opr_assign rfl rfl) ?_
  refine dr_last rfl rfl (opr_assign rfl rfl) ?_
  refine at_then ?_
  refine at_seq ?_
  refine at_region ?_
  refine at_d rfl rfl (opr_buildE (ds := E 0) rfl rfl builtz82 rfl) ?_
  refine at_n rfl rfl (opr_box (cs := EE [0]) rfl rfl (E_box _)) ?_
  intro g0
  refine at_d rfl rfl (opr_buildE (ds := E 0) rfl rfl builtz82 rfl) ?_
  refine at_n rfl rfl (opr_box (cs := EE [0]) rfl rfl (E_box _)) ?_
  intro g1
  refine at_d rfl rfl (opr_buildE (ds := E 0) rfl rfl builtz82 rfl) ?_
  refine at_n rfl rfl (opr_box (cs := EE [0]) rfl rfl (E_box _)) ?_
  intro g2
  refine at_d rfl rfl (opr_buildE (ds := E 0) rfl rfl builtz82 rfl) ?_
  refine at_n rfl rfl (opr_box (cs := EE [0]) rfl rfl (E_box _)) ?_
  intro g3
  refine at_d rfl rfl (opr_assign rfl rfl) ?_
  refine at_d rfl rfl (opr_assign rfl rfl) ?_
  refine at_d rfl rfl (opr_assign rfl rfl) ?_
  refine at_d rfl rfl (opr_assign rfl rfl) ?_
  refine at_nil ?_
  refine at_then ?_
  refine at_seq ?_
  refine at_region ?_
  refine at_d rfl rfl (opr_move rfl rfl) ?_
  refine at_d rfl rfl (opr_move rfl rfl) ?_
  refine at_d rfl rfl (opr_buildE (ds := E 0) rfl rfl builtz82 rfl) ?_
  refine at_n rfl rfl (opr_box (cs := EE [0]) rfl rfl (E_box _)) ?_
  intro g4
  refine at_d rfl rfl (opr_buildE (ds := E 0) rfl rfl builtz82 rfl) ?_
  refine at_n rfl rfl (opr_box (cs := EE [0]) rfl rfl (E_box _)) ?_
  intro g5
  refine at_d rfl rfl (opr_assign rfl rfl) ?_
  refine at_d rfl rfl (opr_assign rfl rfl) ?_
  refine at_d rfl rfl (opr_assign rfl rfl) ?_
  refine at_d rfl rfl (opr_assign rfl rfl) ?_
  refine at_nil ?_
  refine at_then ?_
  refine at_seq ?_
  refine at_region ?_
  refine at_d rfl rfl (opr_move rfl rfl) ?_
  refine at_d rfl rfl (opr_move rfl rfl) ?_
  refine at_d rfl rfl (opr_move rfl rfl) ?_
  refine at_c rfl rfl (opr_call rfl rfl rfl Tryd.func73 (by kernel_rfl) rfl (Mul_el (iz := 3) (ix := ip + 6) (iy := ip + 6) (kz := 0) (kx := 3) (ky := 4) rfl (Nat.le_of_ble_eq_true rfl) rfl hP rfl rfl hP rfl rfl ha1 hb1)) ?_
  rintro _ _ ⟨r0, hr0, f0, rfl, rfl⟩
  refine at_nil ?_
  refine at_then ?_
  refine at_seq ?_
  refine at_region ?_
  refine at_d rfl rfl (opr_move rfl rfl) ?_
  refine at_d rfl rfl (opr_move rfl rfl) ?_
  refine at_d rfl rfl (opr_move rfl rfl) ?_
  refine at_c rfl rfl (opr_call rfl rfl rfl Tryd.func73 (by kernel_rfl) rfl (Mul_el (iz := 2) (ix := ip + 6) (iy := ip + 6) (kz := 0) (kx := 3) (ky := 4) rfl (Nat.le_of_ble_eq_true rfl) rfl hP rfl rfl hP rfl rfl ha1 hb1)) ?_
  rintro _ _ ⟨r1, hr1, f1, rfl, rfl⟩
  refine at_nil ?_
  refine at_then ?_
  refine at_seq ?_
  refine at_region ?_
  refine at_d rfl rfl (opr_move rfl rfl) ?_
  refine at_d rfl rfl (opr_move rfl rfl) ?_
  refine at_d rfl rfl (opr_move rfl rfl) ?_
  refine at_c rfl rfl (opr_call rfl rfl rfl Tryd.func73 (by kernel_rfl) rfl (Mul_el (iz := 5) (ix := ip + 6) (iy := ip + 6) (kz := 0) (kx := 0) (ky := 0) rfl (Nat.le_of_ble_eq_true rfl) rfl hP rfl rfl hP rfl rfl hx1 hx1)) ?_
  rintro _ _ ⟨r2, hr2, f2, rfl, rfl⟩
  refine at_nil ?_
  refine at_then ?_
  refine at_seq ?_
  refine at_region ?_
  refine at_d rfl rfl (opr_move rfl rfl) ?_
  refine at_d rfl rfl (opr_move rfl rfl) ?_
  refine at_d rfl rfl (opr_move rfl rfl) ?_
  refine at_c rfl rfl (opr_call rfl rfl rfl Tryd.func73 (by kernel_rfl) rfl (Mul_el (iz := 4) (ix := ip + 6) (iy := ip + 6) (kz := 0) (kx := 1) (ky := 1) rfl (Nat.le_of_ble_eq_true rfl) rfl hP rfl rfl hP rfl rfl hy1 hy1)) ?_
  rintro _ _ ⟨r3, hr3, f3, rfl, rfl⟩
  refine at_nil ?_
  refine at_then ?_
  refine at_seq ?_
  refine at_region ?_
  refine at_d rfl rfl (opr_move rfl rfl) ?_
  refine at_d rfl rfl (opr_move rfl rfl) ?_
  refine at_d rfl rfl (opr_move rfl rfl) ?_
  refine at_c rfl rfl (opr_call rfl rfl rfl Tryd.func73 (by kernel_rfl) rfl (Mul_el (iz := 3) (ix := 3) (iy := 2) (kz := 0) (kx := 0) (ky := 0) rfl (Nat.le_of_ble_eq_true rfl) rfl rfl rfl rfl rfl rfl rfl hr0 hr1)) ?_
  rintro _ _ ⟨r4, hr4, f4, rfl, rfl⟩
  refine at_nil ?_
  refine at_then ?_
  refine at_seq ?_
  refine at_region ?_
  refine at_d rfl rfl (opr_load (i := jd + 6) rfl rfl hD Tryd.underlying82 rfl size82 (E_length _) (EE_at (k := 0) rfl rfl rfl)) ?_
  refine at_n rfl rfl (opr_alloc rfl zero82 rfl) ?_
  intro g6
  refine at_d rfl rfl (opr_store (i := 0) rfl rfl rfl rfl rfl size82 (E_length _) (by rw [EE_length]; exact Nat.le_of_ble_eq_true rfl) (E_flat _) (EE_set (k := 0) (Nat.le_of_ble_eq_true rfl) rfl)) ?_
  refine at_nil ?_
  refine at_then ?_
  refine at_seq ?_
  refine at_region ?_
  refine at_d rfl rfl (opr_move rfl rfl) ?_
  refine at_d rfl rfl (opr_move rfl rfl) ?_
  refine at_c rfl rfl (opr_call rfl rfl rfl Tryd.func73 (by kernel_rfl) rfl (Mul_el (iz := 4) (ix := 4) (iy := 0) (kz := 0) (kx := 0) (ky := 0) rfl (Nat.le_of_ble_eq_true rfl) rfl rfl rfl rfl rfl rfl rfl hr4 (by decide))) ?_
  rintro _ _ ⟨r5, hr5, f5, rfl, rfl⟩
  refine at_nil ?_
  refine at_then ?_
  refine at_seq ?_
  refine at_region ?_
  refine at_d rfl rfl (opr_move rfl rfl) ?_
  refine at_d rfl rfl (opr_move rfl rfl) ?_
  refine at_d rfl rfl (opr_move rfl rfl) ?_
  refine at_c rfl rfl (opr_call rfl rfl rfl Tryd.func73 (by kernel_rfl) rfl (Mul_el (iz := 3) (ix := ip + 7) (iy := ip + 7) (kz := 0) (kx := 2) (ky := 2) rfl (Nat.le_of_ble_eq_true rfl) rfl hP rfl rfl hP rfl rfl hz1 hz1)) ?_
  rintro _ _ ⟨r6, hr6, f6, rfl, rfl⟩
  refine at_nil ?_
  refine at_then ?_
  refine at_seq ?_
  refine at_region ?_
  refine at_d rfl rfl (opr_move rfl rfl) ?_
  refine at_d rfl rfl (opr_move rfl rfl) ?_
  refine at_d rfl rfl (opr_move rfl rfl) ?_
  refine at_c rfl rfl (opr_call rfl rfl rfl Tryd.func90 (by kernel_rfl) rfl (Add_el (iz := 2) (ix := ip + 7) (iy := ip + 7) (kz := 0) (kx := 0) (ky := 1) rfl (Nat.le_of_ble_eq_true rfl) rfl hP rfl rfl hP rfl rfl hx1 hy1)) ?_
  rintro _ _ ⟨r7, hr7, f7, rfl, rfl⟩
  refine at_nil ?_
  refine at_then ?_
  refine at_seq ?_
  refine at_region ?_
  refine at_d rfl rfl (opr_move rfl rfl) ?_
  refine at_d rfl rfl (opr_move rfl rfl) ?_
  refine at_d rfl rfl (opr_move rfl rfl) ?_
  refine at_c rfl rfl (opr_call rfl rfl rfl Tryd.func90 (by kernel_rfl) rfl (Add_el (iz := ip + 7) (ix := ip + 7) (iy := ip + 7) (kz := 3) (kx := 0) (ky := 1) hP (Nat.le_of_ble_eq_true rfl) rfl hP rfl rfl hP rfl rfl hx1 hy1)) ?_
  rintro _ _ ⟨r8, hr8, f8, rfl, rfl⟩
  have hb1 : (M.set ip ⟨gP, TP, EE [x1, y1, z1, r8, b1]⟩)[ip]? = some ⟨gP, TP, EE [x1, y1, z1, r8, b1]⟩ := get_set hP
  refine at_mem (M2 := ⟨g6, 82, EE [dP]⟩ :: ⟨g5, 82, EE [0]⟩ :: ⟨g4, 82, EE [r7]⟩ :: ⟨g3, 82, EE [r6]⟩ :: ⟨g2, 82, EE [r5]⟩ :: ⟨g1, 82, EE [r3]⟩ :: ⟨g0, 82, EE [r2]⟩ :: (M.set ip ⟨gP, TP, EE [x1, y1, z1, r8, b1]⟩)) (by simp) ?_
  refine at_nil ?_
  refine at_then ?_
  refine at_seq ?_
  refine at_region ?_
  refine at_d rfl rfl (opr_move rfl rfl) ?_
  refine at_d rfl rfl (opr_move rfl rfl) ?_
  refine at_d rfl rfl (opr_move rfl rfl) ?_
  refine at_c rfl rfl (opr_call rfl rfl rfl Tryd.func73 (by kernel_rfl) rfl (Mul_el (iz := ip + 7) (ix := ip + 7) (iy := 2) (kz := 3) (kx := 3) (ky := 0) hb1 (Nat.le_of_ble_eq_true rfl) rfl hb1 rfl rfl rfl rfl rfl hr8 hr7)) ?_
  rintro _ _ ⟨r9, hr9, f9, rfl, rfl⟩
  have hb2 : (M.set ip ⟨gP, TP, EE [x1, y1, z1, r9, b1]⟩)[ip]? = some ⟨gP, TP, EE [x1, y1, z1, r9, b1]⟩ := get_set hP
  refine at_mem (M2 := ⟨g6, 82, EE [dP]⟩ :: ⟨g5, 82, EE [0]⟩ :: ⟨g4, 82, EE [r7]⟩ :: ⟨g3, 82, EE [r6]⟩ :: ⟨g2, 82, EE [r5]⟩ :: ⟨g1, 82, EE [r3]⟩ :: ⟨g0, 82, EE [r2]⟩ :: (M.set ip ⟨gP, TP, EE [x1, y1, z1, r9, b1]⟩)) (by simp) ?_
  refine at_nil ?_
  refine at_then ?_
  refine at_seq ?_
  refine at_region ?_
  refine at_d rfl rfl (opr_move rfl rfl) ?_
  refine at_d rfl rfl (opr_move rfl rfl) ?_
  refine at_d rfl rfl (opr_move rfl rfl) ?_
  refine at_c rfl rfl (opr_call rfl rfl rfl Tryd.func74 (by kernel_rfl) rfl (Sub_el (iz := ip + 7) (ix := ip + 7) (iy := 6) (kz := 3) (kx := 3) (ky := 0) hb2 (Nat.le_of_ble_eq_true rfl) rfl hb2 rfl rfl rfl rfl rfl hr9 hr2)) ?_
  rintro _ _ ⟨r10, hr10, f10, rfl, rfl⟩
  have hb3 : (M.set ip ⟨gP, TP, EE [x1, y1, z1, r10, b1]⟩)[ip]? = some ⟨gP, TP, EE [x1, y1, z1, r10, b1]⟩ := get_set hP
  refine at_mem (M2 := ⟨g6, 82, EE [dP]⟩ :: ⟨g5, 82, EE [0]⟩ :: ⟨g4, 82, EE [r7]⟩ :: ⟨g3, 82, EE [r6]⟩ :: ⟨g2, 82, EE [r5]⟩ :: ⟨g1, 82, EE [r3]⟩ :: ⟨g0, 82, EE [r2]⟩ :: (M.set ip ⟨gP, TP, EE [x1, y1, z1, r10, b1]⟩)) (by simp) ?_
  refine at_nil ?_
  refine at_then ?_
  refine at_seq ?_
  refine at_region ?_
  refine at_d rfl rfl (opr_move rfl rfl) ?_
  refine at_d rfl rfl (opr_move rfl rfl) ?_
  refine at_d rfl rfl (opr_move rfl rfl) ?_
  refine at_c rfl rfl (opr_call rfl rfl rfl Tryd.func74 (by kernel_rfl) rfl (Sub_el (iz := ip + 7) (ix := ip + 7) (iy := 5) (kz := 3) (kx := 3) (ky := 0) hb3 (Nat.le_of_ble_eq_true rfl) rfl hb3 rfl rfl rfl rfl rfl hr10 hr3)) ?_
  rintro _ _ ⟨r11, hr11, f11, rfl, rfl⟩
  have hb4 : (M.set ip ⟨gP, TP, EE [x1, y1, z1, r11, b1]⟩)[ip]? = some ⟨gP, TP, EE [x1, y1, z1, r11, b1]⟩ := get_set hP
  refine at_mem (M2 := ⟨g6, 82, EE [dP]⟩ :: ⟨g5, 82, EE [0]⟩ :: ⟨g4, 82, EE [r7]⟩ :: ⟨g3, 82, EE [r6]⟩ :: ⟨g2, 82, EE [r5]⟩ :: ⟨g1, 82, EE [r3]⟩ :: ⟨g0, 82, EE [r2]⟩ :: (M.set ip ⟨gP, TP, EE [x1, y1, z1, r11, b1]⟩)) (by simp) ?_
  refine at_nil ?_
  refine at_then ?_
  refine at_seq ?_
  refine at_region ?_
  refine at_d rfl rfl (opr_move rfl rfl) ?_
  refine at_d rfl rfl (opr_move rfl rfl) ?_
  refine at_d rfl rfl (opr_move rfl rfl) ?_
  refine at_c rfl rfl (opr_call rfl rfl rfl Tryd.func74 (by kernel_rfl) rfl (Sub_el (iz := 2) (ix := 3) (iy := 4) (kz := 0) (kx := 0) (ky := 0) rfl (Nat.le_of_ble_eq_true rfl) rfl rfl rfl rfl rfl rfl rfl hr6 hr5)) ?_
  rintro _ _ ⟨r12, hr12, f12, rfl, rfl⟩
  refine at_nil ?_
  refine at_then ?_
  refine at_seq ?_
  refine at_region ?_
  refine at_d rfl rfl (opr_move rfl rfl) ?_
  refine at_d rfl rfl (opr_move rfl rfl) ?_
  refine at_d rfl rfl (opr_move rfl rfl) ?_
  refine at_c rfl rfl (opr_call rfl rfl rfl Tryd.func90 (by kernel_rfl) rfl (Add_el (iz := 1) (ix := 3) (iy := 4) (kz := 0) (kx := 0) (ky := 0) rfl (Nat.le_of_ble_eq_true rfl) rfl rfl rfl rfl rfl rfl rfl hr6 hr5)) ?_
  rintro _ _ ⟨r13, hr13, f13, rfl, rfl⟩
  refine at_nil ?_
  refine at_then ?_
  refine at_seq ?_
  refine at_region ?_
  refine at_d rfl rfl (opr_move rfl rfl) ?_
  refine at_d rfl rfl (opr_move rfl rfl) ?_
  refine at_d rfl rfl (opr_move rfl rfl) ?_
  refine at_c rfl rfl (opr_call rfl rfl rfl Tryd.func74 (by kernel_rfl) rfl (Sub_el (iz := ip + 7) (ix := 5) (iy := 6) (kz := 4) (kx := 0) (ky := 0) hb4 (Nat.le_of_ble_eq_true rfl) rfl rfl rfl rfl rfl rfl rfl hr3 hr2)) ?_
  rintro _ _ ⟨r14, hr14, f14, rfl, rfl⟩
  have hb5 : (M.set ip ⟨gP, TP, EE [x1, y1, z1, r11, r14]⟩)[ip]? = some ⟨gP, TP, EE [x1, y1, z1, r11, r14]⟩ := get_set hP
  refine at_mem (M2 := ⟨g6, 82, EE [dP]⟩ :: ⟨g5, 82, EE [r13]⟩ :: ⟨g4, 82, EE [r12]⟩ :: ⟨g3, 82, EE [r6]⟩ :: ⟨g2, 82, EE [r5]⟩ :: ⟨g1, 82, EE [r3]⟩ :: ⟨g0, 82, EE [r2]⟩ :: (M.set ip ⟨gP, TP, EE [x1, y1, z1, r11, r14]⟩)) (by simp) ?_
  refine at_nil ?_
  refine at_then ?_
  refine at_seq ?_
  refine at_region ?_
  refine at_d rfl rfl (opr_move rfl rfl) ?_
  refine at_d rfl rfl (opr_move rfl rfl) ?_
  refine at_d rfl rfl (opr_move rfl rfl) ?_
  refine at_c rfl rfl (opr_call rfl rfl rfl Tryd.func73 (by kernel_rfl) rfl (Mul_el (iz := ip + 7) (ix := 2) (iy := 1) (kz := 2) (kx := 0) (ky := 0) hb5 (Nat.le_of_ble_eq_true rfl) rfl rfl rfl rfl rfl rfl rfl hr12 hr13)) ?_
  rintro _ _ ⟨r15, hr15, f15, rfl, rfl⟩
  have hb6 : (M.set ip ⟨gP, TP, EE [x1, y1, r15, r11, r14]⟩)[ip]? = some ⟨gP, TP, EE [x1, y1, r15, r11, r14]⟩ := get_set hP
  refine at_mem (M2 := ⟨g6, 82, EE [dP]⟩ :: ⟨g5, 82, EE [r13]⟩ :: ⟨g4, 82, EE [r12]⟩ :: ⟨g3, 82, EE [r6]⟩ :: ⟨g2, 82, EE [r5]⟩ :: ⟨g1, 82, EE [r3]⟩ :: ⟨g0, 82, EE [r2]⟩ :: (M.set ip ⟨gP, TP, EE [x1, y1, r15, r11, r14]⟩)) (by simp) ?_
  refine at_nil ?_
  refine at_then ?_
  refine at_seq ?_
  refine at_region ?_
  refine at_d rfl rfl (opr_move rfl rfl) ?_
  refine at_d rfl rfl (opr_move rfl rfl) ?_
  refine at_d rfl rfl (opr_move rfl rfl) ?_
  refine at_c rfl rfl (opr_call rfl rfl rfl Tryd.func73 (by kernel_rfl) rfl (Mul_el (iz := ip + 7) (ix := ip + 7) (iy := 2) (kz := 0) (kx := 3) (ky := 0) hb6 (Nat.le_of_ble_eq_true rfl) rfl hb6 rfl rfl rfl rfl rfl hr11 hr12)) ?_
  rintro _ _ ⟨r16, hr16, f16, rfl, rfl⟩
  have hb7 : (M.set ip ⟨gP, TP, EE [r16, y1, r15, r11, r14]⟩)[ip]? = some ⟨gP, TP, EE [r16, y1, r15, r11, r14]⟩ := get_set hP
  refine at_mem (M2 := ⟨g6, 82, EE [dP]⟩ :: ⟨g5, 82, EE [r13]⟩ :: ⟨g4, 82, EE [r12]⟩ :: ⟨g3, 82, EE [r6]⟩ :: ⟨g2, 82, EE [r5]⟩ :: ⟨g1, 82, EE [r3]⟩ :: ⟨g0, 82, EE [r2]⟩ :: (M.set ip ⟨gP, TP, EE [r16, y1, r15, r11, r14]⟩)) (by simp) ?_
  refine at_nil ?_
  refine at_then ?_
  refine at_region ?_
  refine at_d rfl rfl (opr_move rfl rfl) ?_
  refine at_d rfl rfl (opr_move rfl rfl) ?_
  refine at_d rfl rfl (opr_move rfl rfl) ?_
  refine at_c rfl rfl (opr_call rfl rfl rfl Tryd.func73 (by kernel_rfl) rfl (Mul_el (iz := ip + 7) (ix := 1) (iy := ip + 7) (kz := 1) (kx := 0) (ky := 4) hb7 (Nat.le_of_ble_eq_true rfl) rfl rfl rfl rfl hb7 rfl rfl hr13 hr14)) ?_
  rintro _ _ ⟨r17, hr17, f17, rfl, rfl⟩
  have hb8 : (M.set ip ⟨gP, TP, EE [r16, r17, r15, r11, r14]⟩)[ip]? = some ⟨gP, TP, EE [r16, r17, r15, r11, r14]⟩ := get_set hP
  refine at_mem (M2 := ⟨g6, 82, EE [dP]⟩ :: ⟨g5, 82, EE [r13]⟩ :: ⟨g4, 82, EE [r12]⟩ :: ⟨g3, 82, EE [r6]⟩ :: ⟨g2, 82, EE [r5]⟩ :: ⟨g1, 82, EE [r3]⟩ :: ⟨g0, 82, EE [r2]⟩ :: (M.set ip ⟨gP, TP, EE [r16, r17, r15, r11, r14]⟩)) (by simp) ?_
  refine at_nil ?_
  refine done_of (res0 Tryd.results70) ⟨r16, r17, r15, r11, r14, hr16, hr17, hr15, hr11, hr14, ⟨?_, ?_, ?_, ?_, ?_⟩, rfl, rfl⟩ (by repeat (first | exact List.Sublist.refl _ | apply List.Sublist.cons))
  all_goals simp only [f0, f1, f2, f3, f4, f5, f6, f7, f8, f9, f10, f11, f12, f13, f14, f15, f16, f17]
  all_goals clear f17 f16 f15 f14 f13 f12 f11 f10 f9 f8 f7 f6 f5 f4 f3 f2 f1 f0
  all_goals generalize el a1 = Y0, el b1 = Y1, el x1 = Y2, el y1 = Y3, el z1 = Y4, el dP = Y5
  all_goals grind
end Go.Proofs.YtjanppnnioeifaaDoor
