/- The law FnSameIs. -/
import Derived.Test.YtjanppnnioeifaaDoorPtL0
import Derived.Test.YtjanppnnioeifaaDoorDrawK
namespace Go.Proofs.YtjanppnnioeifaaDoor
open Go
set_option maxRecDepth 100000

theorem isz_diff {r : Nat} {x y : Fin pp} {t : Bool} (h : el r = x * el 1 - y * el 1) (hxy : t = true ↔ x = y) : decide (r % pp = 0) = t := by
  have e : r % pp = 0 ↔ x = y := by
    rw [← el_eq_zero, h, el_one]
    clear h hxy
    constructor
    · intro h0; grind
    · intro h0; grind
  cases t
  · exact decide_eq_false (fun h0 => absurd (hxy.2 (e.1 h0)) (by decide))
  · exact decide_eq_true (e.2 (hxy.1 rfl))
theorem isz_prod {r : Nat} {x y a b : Fin pp} (h : el r = x * y * el 1 - a * b * el 1) (hx : x = a) (hy : y = b) : decide (r % pp = 0) = true := by
  apply decide_eq_true
  rw [← el_eq_zero, h, el_one, hx, hy]; clear h hx hy; grind
theorem el_iff {a b : Nat} : a * 1 % pp = b % pp ↔ el a = el b := by rw [Nat.mul_one]; exact el_eq.symm
theorem on00 {n : Nat} [NeZero n] {d : Fin n} (h : (0 : Fin n) * 0 + 0 * 0 = 1 + d * (0 * 0) * (0 * 0)) : (1 : Fin n) = 0 := by grind
theorem y_ne {x y : Nat} (o : On (el dP) (el x) (el y)) (hx : x % pp = 0) : ¬ y % pp = 0 := by
  intro hy
  have h1 : el x = 0 := el_eq_zero.2 hx
  have h2 : el y = 0 := el_eq_zero.2 hy
  unfold On at o
  rw [h1, h2] at o
  exact isF_pp.one (on00 o)
theorem pEqTT_ct {M : Mem} {ig Tp : Nat} (hG : M[ig]? = some ⟨3, Tp, EE [pp]⟩) {ip gP TP x1 y1 : Nat} (hP : M[ip]? = some ⟨gP, TP, EE [x1, y1, 1, x1, y1]⟩) (hx1 : x1 < RR) (hy1 : y1 < RR) {iq gQ TQ x2 y2 : Nat} (hQ : M[iq]? = some ⟨gQ, TQ, EE [x2, y2, 1, x2, y2]⟩) (hx2 : x2 < RR) (hy2 : y2 < RR) (h1 : el x1 = el x2) (h2 : el y1 = el y2) : Ct Tryd.prog 44 #[.pointer (some ⟨gP, 0, none⟩), .pointer (some ⟨gQ, 0, none⟩)] M (Det (.bool true) M) := by
  refine ct_of (vs := [.pointer (some ⟨gP, 0, none⟩), .pointer (some ⟨gQ, 0, none⟩)]) Tryd.func44 rfl Tryd.ntmps44 rfl fun w0 => ?_
  refine at_seq ?_
  refine at_region ?_
  refine at_d rfl rfl (opr_assign rfl rfl) ?_
  refine at_nil ?_
  refine at_then ?_
  refine at_seq ?_
  refine at_region ?_
  refine at_d rfl rfl (opr_buildE (ds := E 0) rfl rfl builtz82 rfl) ?_
  refine at_n rfl rfl (opr_box (cs := EE [0]) rfl rfl (E_box _)) ?_
  intro g0
  refine at_d rfl rfl (opr_buildE (ds := E 0) rfl rfl builtz82 rfl) ?_
  refine at_n rfl rfl (opr_box (cs := EE [0]) rfl rfl (E_box _)) ?_
  intro g1
  refine at_d rfl rfl (opr_assign rfl rfl) ?_
  refine at_d rfl rfl (opr_assign rfl rfl) ?_
  refine at_nil ?_
  refine at_then ?_
  refine at_seq ?_
  refine at_drawR (by kernel_rfl) (by kernel_rfl) (by kernel_rfl) (List.cons_ne_nil _ _) ?_
  refine drR_op rfl rfl (opr_move rfl rfl) ?_
  refine drR_op rfl rfl (opr_move rfl rfl) ?_
  refine drR_op rfl rfl (opr_nilCheck rfl rfl) ?_
  refine drR_op rfl rfl (opr_fieldAddr rfl rfl Tryd.underlying84 rfl size82 rfl rfl) ?_
  refine drR_op rfl rfl (opr_move rfl rfl) ?_
  refine drR_op rfl rfl (opr_nilCheck rfl rfl) ?_
  refine drR_op rfl rfl (opr_fieldAddr rfl rfl Tryd.underlying84 rfl size82 rfl rfl) ?_
  refine drR_last (v := .tuple #[]) rfl rfl (opr_call rfl rfl rfl Tryd.func73 (by kernel_rfl) rfl (Mul_el (iz := 1) (ix := ip + 2) (iy := iq + 2) (kz := 0) (kx := 0) (ky := 2) rfl (Nat.le_of_ble_eq_true rfl) rfl hP rfl rfl hQ rfl rfl hx1 RR_one)) ?_ ?_
  · rintro _ _ ⟨_, _, _, rfl, _⟩; rfl
  rintro _ _ ⟨r0, hr0, f0, rfl, rfl⟩
  refine at_then ?_
  refine at_seq ?_
  refine at_drawR (by kernel_rfl) (by kernel_rfl) (by kernel_rfl) (List.cons_ne_nil _ _) ?_
  refine drR_op rfl rfl (opr_move rfl rfl) ?_
  refine drR_op rfl rfl (opr_move rfl rfl) ?_
  refine drR_op rfl rfl (opr_nilCheck rfl rfl) ?_
  refine drR_op rfl rfl (opr_fieldAddr rfl rfl Tryd.underlying84 rfl size82 rfl rfl) ?_
  refine drR_op rfl rfl (opr_move rfl rfl) ?_
  refine drR_op rfl rfl (opr_nilCheck rfl rfl) ?_
  refine drR_op rfl rfl (opr_fieldAddr rfl rfl Tryd.underlying84 rfl size82 rfl rfl) ?_
  refine drR_last (v := .tuple #[]) rfl rfl (opr_call rfl rfl rfl Tryd.func73 (by kernel_rfl) rfl (Mul_el (iz := 0) (ix := iq + 2) (iy := ip + 2) (kz := 0) (kx := 0) (ky := 2) rfl (Nat.le_of_ble_eq_true rfl) rfl hQ rfl rfl hP rfl rfl hx2 RR_one)) ?_ ?_
  · rintro _ _ ⟨_, _, _, rfl, _⟩; rfl
  rintro _ _ ⟨r1, hr1, f1, rfl, rfl⟩
  refine at_then ?_
  refine at_seq ?_
  refine at_region ?_
  refine at_d rfl rfl (opr_move rfl rfl) ?_
  refine at_d rfl rfl (opr_move rfl rfl) ?_
  refine at_d rfl rfl (opr_move rfl rfl) ?_
  refine at_c rfl rfl (opr_call rfl rfl rfl Tryd.func74 (by kernel_rfl) rfl (Sub_el (iz := 1) (ix := 1) (iy := 0) (kz := 0) (kx := 0) (ky := 0) rfl (Nat.le_of_ble_eq_true rfl) rfl rfl rfl rfl rfl rfl rfl hr0 hr1)) ?_
  rintro _ _ ⟨r2, hr2, f2, rfl, rfl⟩
  refine at_nil ?_
  refine at_then ?_
  refine at_seq ?_
  refine at_region ?_
  refine at_d rfl rfl (opr_move rfl rfl) ?_
  refine at_d rfl rfl (opr_call rfl rfl rfl Tryd.func75 (by kernel_rfl) rfl (fIsZero_ct (ig := ig + 2) (iz := 1) (kz := 0) (t := true) hG rfl rfl rfl hr2 (isz_diff (x := el x1) (y := el x2) (t := true) (by simp only [f0, f1, f2]) (iff_of_true rfl h1)))) ?_
  refine at_d rfl rfl (opr_assign rfl rfl) ?_
  refine at_nil ?_
  refine at_then ?_
  refine at_seq ?_
  refine at_drawR (by kernel_rfl) (by kernel_rfl) (by kernel_rfl) (List.cons_ne_nil _ _) ?_
  refine drR_op rfl rfl (opr_move rfl rfl) ?_
  refine drR_op rfl rfl (opr_move rfl rfl) ?_
  refine drR_op rfl rfl (opr_nilCheck rfl rfl) ?_
  refine drR_op rfl rfl (opr_fieldAddr rfl rfl Tryd.underlying84 rfl size82 rfl rfl) ?_
  refine drR_op rfl rfl (opr_move rfl rfl) ?_
  refine drR_op rfl rfl (opr_nilCheck rfl rfl) ?_
  refine drR_op rfl rfl (opr_fieldAddr rfl rfl Tryd.underlying84 rfl size82 rfl rfl) ?_
  refine drR_last (v := .tuple #[]) rfl rfl (opr_call rfl rfl rfl Tryd.func73 (by kernel_rfl) rfl (Mul_el (iz := 1) (ix := ip + 2) (iy := iq + 2) (kz := 0) (kx := 1) (ky := 2) rfl (Nat.le_of_ble_eq_true rfl) rfl hP rfl rfl hQ rfl rfl hy1 RR_one)) ?_ ?_
  · rintro _ _ ⟨_, _, _, rfl, _⟩; rfl
  rintro _ _ ⟨r3, hr3, f3, rfl, rfl⟩
  refine at_then ?_
  refine at_seq ?_
  refine at_drawR (by kernel_rfl) (by kernel_rfl) (by kernel_rfl) (List.cons_ne_nil _ _) ?_
  refine drR_op rfl rfl (opr_move rfl rfl) ?_
  refine drR_op rfl rfl (opr_move rfl rfl) ?_
  refine drR_op rfl rfl (opr_nilCheck rfl rfl) ?_
  refine drR_op rfl rfl (opr_fieldAddr rfl rfl Tryd.underlying84 rfl size82 rfl rfl) ?_
  refine drR_op rfl rfl (opr_move rfl rfl) ?_
  refine drR_op rfl rfl (opr_nilCheck rfl rfl) ?_
  refine drR_op rfl rfl (opr_fieldAddr rfl rfl Tryd.underlying84 rfl size82 rfl rfl) ?_
  refine drR_last (v := .tuple #[]) rfl rfl (opr_call rfl rfl rfl Tryd.func73 (by kernel_rfl) rfl (Mul_el (iz := 0) (ix := iq + 2) (iy := ip + 2) (kz := 0) (kx := 1) (ky := 2) rfl (Nat.le_of_ble_eq_true rfl) rfl hQ rfl rfl hP rfl rfl hy2 RR_one)) ?_ ?_
  · rintro _ _ ⟨_, _, _, rfl, _⟩; rfl
  rintro _ _ ⟨r4, hr4, f4, rfl, rfl⟩
  refine at_then ?_
  refine at_seq ?_
  refine at_region ?_
  refine at_d rfl rfl (opr_move rfl rfl) ?_
  refine at_d rfl rfl (opr_move rfl rfl) ?_
  refine at_d rfl rfl (opr_move rfl rfl) ?_
  refine at_c rfl rfl (opr_call rfl rfl rfl Tryd.func74 (by kernel_rfl) rfl (Sub_el (iz := 1) (ix := 1) (iy := 0) (kz := 0) (kx := 0) (ky := 0) rfl (Nat.le_of_ble_eq_true rfl) rfl rfl rfl rfl rfl rfl rfl hr3 hr4)) ?_
  rintro _ _ ⟨r5, hr5, f5, rfl, rfl⟩
  refine at_nil ?_
  refine at_then ?_
  refine at_seq ?_
  refine at_region ?_
  refine at_d rfl rfl (opr_move rfl rfl) ?_
  refine at_d rfl rfl (opr_move rfl rfl) ?_
  refine at_d rfl rfl (opr_move rfl rfl) ?_
  refine at_d rfl rfl (opr_call rfl rfl rfl Tryd.func75 (by kernel_rfl) rfl (fIsZero_ct (ig := ig + 2) (iz := 1) (kz := 0) (t := true) hG rfl rfl rfl hr5 (isz_diff (x := el y1) (y := el y2) (t := true) (by simp only [f0, f1, f2, f3, f4, f5]) (iff_of_true rfl h2)))) ?_
  refine at_d rfl rfl (opr_pickT rfl rfl rfl) ?_
  refine at_d rfl rfl (opr_assign rfl rfl) ?_
  refine at_nil ?_
  refine at_then ?_
  refine at_seq ?_
  refine at_drawR (by kernel_rfl) (by kernel_rfl) (by kernel_rfl) (List.cons_ne_nil _ _) ?_
  refine drR_op rfl rfl (opr_move rfl rfl) ?_
  refine drR_op rfl rfl (opr_move rfl rfl) ?_
  refine drR_op rfl rfl (opr_nilCheck rfl rfl) ?_
  refine drR_op rfl rfl (opr_fieldAddr rfl rfl Tryd.underlying84 rfl size82 rfl rfl) ?_
  refine drR_op rfl rfl (opr_move rfl rfl) ?_
  refine drR_op rfl rfl (opr_nilCheck rfl rfl) ?_
  refine drR_op rfl rfl (opr_fieldAddr rfl rfl Tryd.underlying84 rfl size82 rfl rfl) ?_
  refine drR_last (v := .tuple #[]) rfl rfl (opr_call rfl rfl rfl Tryd.func73 (by kernel_rfl) rfl (Mul_el (iz := 1) (ix := ip + 2) (iy := ip + 2) (kz := 0) (kx := 3) (ky := 4) rfl (Nat.le_of_ble_eq_true rfl) rfl hP rfl rfl hP rfl rfl hx1 hy1)) ?_ ?_
  · rintro _ _ ⟨_, _, _, rfl, _⟩; rfl
  rintro _ _ ⟨r6, hr6, f6, rfl, rfl⟩
  refine at_then ?_
  refine at_seq ?_
  refine at_region ?_
  refine at_d rfl rfl (opr_move rfl rfl) ?_
  refine at_d rfl rfl (opr_move rfl rfl) ?_
  refine at_d rfl rfl (opr_move rfl rfl) ?_
  refine at_d rfl rfl (opr_nilCheck rfl rfl) ?_
  refine at_d rfl rfl (opr_fieldAddr rfl rfl Tryd.underlying84 rfl size82 rfl rfl) ?_
  refine at_c rfl rfl (opr_call rfl rfl rfl Tryd.func73 (by kernel_rfl) rfl (Mul_el (iz := 1) (ix := 1) (iy := iq + 2) (kz := 0) (kx := 0) (ky := 2) rfl (Nat.le_of_ble_eq_true rfl) rfl rfl rfl rfl hQ rfl rfl hr6 RR_one)) ?_
  rintro _ _ ⟨r7, hr7, f7, rfl, rfl⟩
  refine at_nil ?_
  refine at_then ?_
  refine at_seq ?_
  refine at_drawR (by kernel_rfl) (by kernel_rfl) (by kernel_rfl) (List.cons_ne_nil _ _) ?_
  refine drR_op rfl rfl (opr_move rfl rfl) ?_
  refine drR_op rfl rfl (opr_move rfl rfl) ?_
  refine drR_op rfl rfl (opr_nilCheck rfl rfl) ?_
  refine drR_op rfl rfl (opr_fieldAddr rfl rfl Tryd.underlying84 rfl size82 rfl rfl) ?_
  refine drR_op rfl rfl (opr_move rfl rfl) ?_
  refine drR_op rfl rfl (opr_nilCheck rfl rfl) ?_
  refine drR_op rfl rfl (opr_fieldAddr rfl rfl Tryd.underlying84 rfl size82 rfl rfl) ?_
  refine drR_last (v := .tuple #[]) rfl rfl (opr_call rfl rfl rfl Tryd.func73 (by kernel_rfl) rfl (Mul_el (iz := 0) (ix := iq + 2) (iy := iq + 2) (kz := 0) (kx := 3) (ky := 4) rfl (Nat.le_of_ble_eq_true rfl) rfl hQ rfl rfl hQ rfl rfl hx2 hy2)) ?_ ?_
  · rintro _ _ ⟨_, _, _, rfl, _⟩; rfl
  rintro _ _ ⟨r8, hr8, f8, rfl, rfl⟩
  refine at_then ?_
  refine at_seq ?_
  refine at_region ?_
  refine at_d rfl rfl (opr_move rfl rfl) ?_
  refine at_d rfl rfl (opr_move rfl rfl) ?_
  refine at_d rfl rfl (opr_move rfl rfl) ?_
  refine at_d rfl rfl (opr_nilCheck rfl rfl) ?_
  refine at_d rfl rfl (opr_fieldAddr rfl rfl Tryd.underlying84 rfl size82 rfl rfl) ?_
  refine at_c rfl rfl (opr_call rfl rfl rfl Tryd.func73 (by kernel_rfl) rfl (Mul_el (iz := 0) (ix := 0) (iy := ip + 2) (kz := 0) (kx := 0) (ky := 2) rfl (Nat.le_of_ble_eq_true rfl) rfl rfl rfl rfl hP rfl rfl hr8 RR_one)) ?_
  rintro _ _ ⟨r9, hr9, f9, rfl, rfl⟩
  refine at_nil ?_
  refine at_then ?_
  refine at_seq ?_
  refine at_region ?_
  refine at_d rfl rfl (opr_move rfl rfl) ?_
  refine at_d rfl rfl (opr_move rfl rfl) ?_
  refine at_d rfl rfl (opr_move rfl rfl) ?_
  refine at_c rfl rfl (opr_call rfl rfl rfl Tryd.func74 (by kernel_rfl) rfl (Sub_el (iz := 1) (ix := 1) (iy := 0) (kz := 0) (kx := 0) (ky := 0) rfl (Nat.le_of_ble_eq_true rfl) rfl rfl rfl rfl rfl rfl rfl hr7 hr9)) ?_
  rintro _ _ ⟨r10, hr10, f10, rfl, rfl⟩
  refine at_nil ?_
  refine at_then ?_
  refine at_seq ?_
  refine at_region ?_
  refine at_d rfl rfl (opr_move rfl rfl) ?_
  refine at_d rfl rfl (opr_move rfl rfl) ?_
  refine at_d rfl rfl (opr_move rfl rfl) ?_
  refine at_d rfl rfl (opr_call rfl rfl rfl Tryd.func75 (by kernel_rfl) rfl (fIsZero_ct (ig := ig + 2) (iz := 1) (kz := 0) (t := true) hG rfl rfl rfl hr10 (isz_prod (x := el x1) (y := el y1) (a := el x2) (b := el y2) (by simp only [f0, f1, f2, f3, f4, f5, f6, f7, f8, f9, f10]) h1 h2))) ?_
  refine at_d rfl rfl (opr_pickT rfl rfl rfl) ?_
  refine at_d rfl rfl (opr_assign rfl rfl) ?_
  refine at_nil ?_
  refine at_then ?_
  refine at_seq ?_
  refine at_region ?_
  refine at_d rfl rfl (opr_move rfl rfl) ?_
  refine at_d rfl rfl (opr_assign rfl rfl) ?_
  refine at_nil ?_
  refine at_then ?_
  refine at_ret ?_
  refine done_of (res1 Tryd.results44 (res_tmp rfl)) ⟨rfl, rfl⟩ (by repeat (first | exact List.Sublist.refl _ | apply List.Sublist.cons))
theorem pEqTF_ct {M : Mem} {ig Tp : Nat} (hG : M[ig]? = some ⟨3, Tp, EE [pp]⟩) {ip gP TP x1 y1 : Nat} (hP : M[ip]? = some ⟨gP, TP, EE [x1, y1, 1, x1, y1]⟩) (hx1 : x1 < RR) (hy1 : y1 < RR) {iq gQ TQ x2 y2 : Nat} (hQ : M[iq]? = some ⟨gQ, TQ, EE [x2, y2, 1, x2, y2]⟩) (hx2 : x2 < RR) (hy2 : y2 < RR) (h1 : el x1 = el x2) (h2 : ¬ el y1 = el y2) : Ct Tryd.prog 44 #[.pointer (some ⟨gP, 0, none⟩), .pointer (some ⟨gQ, 0, none⟩)] M (Det (.bool false) M) := by
  refine ct_of (vs := [.pointer (some ⟨gP, 0, none⟩), .pointer (some ⟨gQ, 0, none⟩)]) Tryd.func44 rfl Tryd.ntmps44 rfl fun w0 => ?_
  refine at_seq ?_
  refine at_region ?_
  refine at_d rfl rfl (opr_assign rfl rfl) ?_
  refine at_nil ?_
  refine at_then ?_
  refine at_seq ?_
  refine at_region ?_
  refine at_d rfl rfl (opr_buildE (ds := E 0) rfl rfl builtz82 rfl) ?_
  refine at_n rfl rfl (opr_box (cs := EE [0]) rfl rfl (E_box _)) ?_
  intro g0
  refine at_d rfl rfl (opr_buildE (ds := E 0) rfl rfl builtz82 rfl) ?_
  refine at_n rfl rfl (opr_box (cs := EE [0]) rfl rfl (E_box _)) ?_
  intro g1
  refine at_d rfl rfl (opr_assign rfl rfl) ?_
  refine at_d rfl rfl (opr_assign rfl rfl) ?_
  refine at_nil ?_
  refine at_then ?_
  refine at_seq ?_
  refine at_drawR (by kernel_rfl) (by kernel_rfl) (by kernel_rfl) (List.cons_ne_nil _ _) ?_
  refine drR_op rfl rfl (opr_move rfl rfl) ?_
  refine drR_op rfl rfl (opr_move rfl rfl) ?_
  refine drR_op rfl rfl (opr_nilCheck rfl rfl) ?_
  refine drR_op rfl rfl (opr_fieldAddr rfl rfl Tryd.underlying84 rfl size82 rfl rfl) ?_
  refine drR_op rfl rfl (opr_move rfl rfl) ?_
  refine drR_op rfl rfl (opr_nilCheck rfl rfl) ?_
  refine drR_op rfl rfl (opr_fieldAddr rfl rfl Tryd.underlying84 rfl size82 rfl rfl) ?_
  refine drR_last (v := .tuple #[]) rfl rfl (opr_call rfl rfl rfl Tryd.func73 (by kernel_rfl) rfl (Mul_el (iz := 1) (ix := ip + 2) (iy := iq + 2) (kz := 0) (kx := 0) (ky := 2) rfl (Nat.le_of_ble_eq_true rfl) rfl hP rfl rfl hQ rfl rfl hx1 RR_one)) ?_ ?_
  · rintro _ _ ⟨_, _, _, rfl, _⟩; rfl
  rintro _ _ ⟨r0, hr0, f0, rfl, rfl⟩
  refine at_then ?_
  refine at_seq ?_
  refine at_drawR (by kernel_rfl) (by kernel_rfl) (by kernel_rfl) (List.cons_ne_nil _ _) ?_
  refine drR_op rfl rfl (opr_move rfl rfl) ?_
  refine drR_op rfl rfl (opr_move rfl rfl) ?_
  refine drR_op rfl rfl (opr_nilCheck rfl rfl) ?_
  refine drR_op rfl rfl (opr_fieldAddr rfl rfl Tryd.underlying84 rfl size82 rfl rfl) ?_
  refine drR_op rfl rfl (opr_move rfl rfl) ?_
  refine drR_op rfl rfl (opr_nilCheck rfl rfl) ?_
  refine drR_op rfl rfl (opr_fieldAddr rfl rfl Tryd.underlying84 rfl size82 rfl rfl) ?_
  refine drR_last (v := .tuple #[]) rfl rfl (opr_call rfl rfl rfl Tryd.func73 (by kernel_rfl) rfl (Mul_el (iz := 0) (ix := iq + 2) (iy := ip + 2) (kz := 0) (kx := 0) (ky := 2) rfl (Nat.le_of_ble_eq_true rfl) rfl hQ rfl rfl hP rfl rfl hx2 RR_one)) ?_ ?_
  · rintro _ _ ⟨_, _, _, rfl, _⟩; rfl
  rintro _ _ ⟨r1, hr1, f1, rfl, rfl⟩
  refine at_then ?_
  refine at_seq ?_
  refine at_region ?_
  refine at_d rfl rfl (opr_move rfl rfl) ?_
  refine at_d rfl rfl (opr_move rfl rfl) ?_
  refine at_d rfl rfl (opr_move rfl rfl) ?_
  refine at_c rfl rfl (opr_call rfl rfl rfl Tryd.func74 (by kernel_rfl) rfl (Sub_el (iz := 1) (ix := 1) (iy := 0) (kz := 0) (kx := 0) (ky := 0) rfl (Nat.le_of_ble_eq_true rfl) rfl rfl rfl rfl rfl rfl rfl hr0 hr1)) ?_
  rintro _ _ ⟨r2, hr2, f2, rfl, rfl⟩
  refine at_nil ?_
  refine at_then ?_
  refine at_seq ?_
  refine at_region ?_
  refine at_d rfl rfl (opr_move rfl rfl) ?_
  refine at_d rfl rfl (opr_call rfl rfl rfl Tryd.func75 (by kernel_rfl) rfl (fIsZero_ct (ig := ig + 2) (iz := 1) (kz := 0) (t := true) hG rfl rfl rfl hr2 (isz_diff (x := el x1) (y := el x2) (t := true) (by simp only [f0, f1, f2]) (iff_of_true rfl h1)))) ?_
  refine at_d rfl rfl (opr_assign rfl rfl) ?_
  refine at_nil ?_
  refine at_then ?_
  refine at_seq ?_
  refine at_drawR (by kernel_rfl) (by kernel_rfl) (by kernel_rfl) (List.cons_ne_nil _ _) ?_
  refine drR_op rfl rfl (opr_move rfl rfl) ?_
  refine drR_op rfl rfl (opr_move rfl rfl) ?_
  refine drR_op rfl rfl (opr_nilCheck rfl rfl) ?_
  refine drR_op rfl rfl (opr_fieldAddr rfl rfl Tryd.underlying84 rfl size82 rfl rfl) ?_
  refine drR_op rfl rfl (opr_move rfl rfl) ?_
  refine drR_op rfl rfl (opr_nilCheck rfl rfl) ?_
  refine drR_op rfl rfl (opr_fieldAddr rfl rfl Tryd.underlying84 rfl size82 rfl rfl) ?_
  refine drR_last (v := .tuple #[]) rfl rfl (opr_call rfl rfl rfl Tryd.func73 (by kernel_rfl) rfl (Mul_el (iz := 1) (ix := ip + 2) (iy := iq + 2) (kz := 0) (kx := 1) (ky := 2) rfl (Nat.le_of_ble_eq_true rfl) rfl hP rfl rfl hQ rfl rfl hy1 RR_one)) ?_ ?_
  · rintro _ _ ⟨_, _, _, rfl, _⟩; rfl
  rintro _ _ ⟨r3, hr3, f3, rfl, rfl⟩
  refine at_then ?_
  refine at_seq ?_
  refine at_drawR (by kernel_rfl) (by kernel_rfl) (by kernel_rfl) (List.cons_ne_nil _ _) ?_
  refine drR_op rfl rfl (opr_move rfl rfl) ?_
  refine drR_op rfl rfl (opr_move rfl rfl) ?_
  refine drR_op rfl rfl (opr_nilCheck rfl rfl) ?_
  refine drR_op rfl rfl (opr_fieldAddr rfl rfl Tryd.underlying84 rfl size82 rfl rfl) ?_
  refine drR_op rfl rfl (opr_move rfl rfl) ?_
  refine drR_op rfl rfl (opr_nilCheck rfl rfl) ?_
  refine drR_op rfl rfl (opr_fieldAddr rfl rfl Tryd.underlying84 rfl size82 rfl rfl) ?_
  refine drR_last (v := .tuple #[]) rfl rfl (opr_call rfl rfl rfl Tryd.func73 (by kernel_rfl) rfl (Mul_el (iz := 0) (ix := iq + 2) (iy := ip + 2) (kz := 0) (kx := 1) (ky := 2) rfl (Nat.le_of_ble_eq_true rfl) rfl hQ rfl rfl hP rfl rfl hy2 RR_one)) ?_ ?_
  · rintro _ _ ⟨_, _, _, rfl, _⟩; rfl
  rintro _ _ ⟨r4, hr4, f4, rfl, rfl⟩
  refine at_then ?_
  refine at_seq ?_
  refine at_region ?_
  refine at_d rfl rfl (opr_move rfl rfl) ?_
  refine at_d rfl rfl (opr_move rfl rfl) ?_
  refine at_d rfl rfl (opr_move rfl rfl) ?_
  refine at_c rfl rfl (opr_call rfl rfl rfl Tryd.func74 (by kernel_rfl) rfl (Sub_el (iz := 1) (ix := 1) (iy := 0) (kz := 0) (kx := 0) (ky := 0) rfl (Nat.le_of_ble_eq_true rfl) rfl rfl rfl rfl rfl rfl rfl hr3 hr4)) ?_
  rintro _ _ ⟨r5, hr5, f5, rfl, rfl⟩
  refine at_nil ?_
  refine at_then ?_
  refine at_seq ?_
  refine at_region ?_
  refine at_d rfl rfl (opr_move rfl rfl) ?_
  refine at_d rfl rfl (opr_move rfl rfl) ?_
  refine at_d rfl rfl (opr_move rfl rfl) ?_
  refine at_d rfl rfl (opr_call rfl rfl rfl Tryd.func75 (by kernel_rfl) rfl (fIsZero_ct (ig := ig + 2) (iz := 1) (kz := 0) (t := false) hG rfl rfl rfl hr5 (isz_diff (x := el y1) (y := el y2) (t := false) (by simp only [f0, f1, f2, f3, f4, f5]) (iff_of_false (by decide) h2)))) ?_
  refine at_d rfl rfl (opr_pickT rfl rfl rfl) ?_
  refine at_d rfl rfl (opr_assign rfl rfl) ?_
  refine at_nil ?_
  refine at_then ?_
  refine at_seq ?_
  refine at_drawR (by kernel_rfl) (by kernel_rfl) (by kernel_rfl) (List.cons_ne_nil _ _) ?_
  refine drR_op rfl rfl (opr_move rfl rfl) ?_
  refine drR_op rfl rfl (opr_move rfl rfl) ?_
  refine drR_op rfl rfl (opr_nilCheck rfl rfl) ?_
  refine drR_op rfl rfl (opr_fieldAddr rfl rfl Tryd.underlying84 rfl size82 rfl rfl) ?_
  refine drR_op rfl rfl (opr_move rfl rfl) ?_
  refine drR_op rfl rfl (opr_nilCheck rfl rfl) ?_
  refine drR_op rfl rfl (opr_fieldAddr rfl rfl Tryd.underlying84 rfl size82 rfl rfl) ?_
  refine drR_last (v := .tuple #[]) rfl rfl (opr_call rfl rfl rfl Tryd.func73 (by kernel_rfl) rfl (Mul_el (iz := 1) (ix := ip + 2) (iy := ip + 2) (kz := 0) (kx := 3) (ky := 4) rfl (Nat.le_of_ble_eq_true rfl) rfl hP rfl rfl hP rfl rfl hx1 hy1)) ?_ ?_
  · rintro _ _ ⟨_, _, _, rfl, _⟩; rfl
  rintro _ _ ⟨r6, hr6, f6, rfl, rfl⟩
  refine at_then ?_
  refine at_seq ?_
  refine at_region ?_
  refine at_d rfl rfl (opr_move rfl rfl) ?_
  refine at_d rfl rfl (opr_move rfl rfl) ?_
  refine at_d rfl rfl (opr_move rfl rfl) ?_
  refine at_d rfl rfl (opr_nilCheck rfl rfl) ?_
  refine at_d rfl rfl (opr_fieldAddr rfl rfl Tryd.underlying84 rfl size82 rfl rfl) ?_
  refine at_c rfl rfl (opr_call rfl rfl rfl Tryd.func73 (by kernel_rfl) rfl (Mul_el (iz := 1) (ix := 1) (iy := iq + 2) (kz := 0) (kx := 0) (ky := 2) rfl (Nat.le_of_ble_eq_true rfl) rfl rfl rfl rfl hQ rfl rfl hr6 RR_one)) ?_
  rintro _ _ ⟨r7, hr7, f7, rfl, rfl⟩
  refine at_nil ?_
  refine at_then ?_
  refine at_seq ?_
  refine at_drawR (by kernel_rfl) (by kernel_rfl) (by kernel_rfl) (List.cons_ne_nil _ _) ?_
  refine drR_op rfl rfl (opr_move rfl rfl) ?_
  refine drR_op rfl rfl (opr_move rfl rfl) ?_
  refine drR_op rfl rfl (opr_nilCheck rfl rfl) ?_
  refine drR_op rfl rfl (opr_fieldAddr rfl rfl Tryd.underlying84 rfl size82 rfl rfl) ?_
  refine drR_op rfl rfl (opr_move rfl rfl) ?_
  refine drR_op rfl rfl (opr_nilCheck rfl rfl) ?_
  refine drR_op rfl rfl (opr_fieldAddr rfl rfl Tryd.underlying84 rfl size82 rfl rfl) ?_
  refine drR_last (v := .tuple #[]) rfl rfl (opr_call rfl rfl rfl Tryd.func73 (by kernel_rfl) rfl (Mul_el (iz := 0) (ix := iq + 2) (iy := iq + 2) (kz := 0) (kx := 3) (ky := 4) rfl (Nat.le_of_ble_eq_true rfl) rfl hQ rfl rfl hQ rfl rfl hx2 hy2)) ?_ ?_
  · rintro _ _ ⟨_, _, _, rfl, _⟩; rfl
  rintro _ _ ⟨r8, hr8, f8, rfl, rfl⟩
  refine at_then ?_
  refine at_seq ?_
  refine at_region ?_
  refine at_d rfl rfl (opr_move rfl rfl) ?_
  refine at_d rfl rfl (opr_move rfl rfl) ?_
  refine at_d rfl rfl (opr_move rfl rfl) ?_
  refine at_d rfl rfl (opr_nilCheck rfl rfl) ?_
  refine at_d rfl rfl (opr_fieldAddr rfl rfl Tryd.underlying84 rfl size82 rfl rfl) ?_
  refine at_c rfl rfl (opr_call rfl rfl rfl Tryd.func73 (by kernel_rfl) rfl (Mul_el (iz := 0) (ix := 0) (iy := ip + 2) (kz := 0) (kx := 0) (ky := 2) rfl (Nat.le_of_ble_eq_true rfl) rfl rfl rfl rfl hP rfl rfl hr8 RR_one)) ?_
  rintro _ _ ⟨r9, hr9, f9, rfl, rfl⟩
  refine at_nil ?_
  refine at_then ?_
  refine at_seq ?_
  refine at_region ?_
  refine at_d rfl rfl (opr_move rfl rfl) ?_
  refine at_d rfl rfl (opr_move rfl rfl) ?_
  refine at_d rfl rfl (opr_move rfl rfl) ?_
  refine at_c rfl rfl (opr_call rfl rfl rfl Tryd.func74 (by kernel_rfl) rfl (Sub_el (iz := 1) (ix := 1) (iy := 0) (kz := 0) (kx := 0) (ky := 0) rfl (Nat.le_of_ble_eq_true rfl) rfl rfl rfl rfl rfl rfl rfl hr7 hr9)) ?_
  rintro _ _ ⟨r10, hr10, f10, rfl, rfl⟩
  refine at_nil ?_
  refine at_then ?_
  refine at_seq ?_
  refine at_region ?_
  refine at_d rfl rfl (opr_move rfl rfl) ?_
  refine at_d rfl rfl (opr_move rfl rfl) ?_
  refine at_op_skip rfl rfl ?_
  refine at_op_skip rfl rfl ?_
  refine at_d rfl rfl (opr_pickN rfl rfl rfl) ?_
  refine at_d rfl rfl (opr_assign rfl rfl) ?_
  refine at_nil ?_
  refine at_then ?_
  refine at_seq ?_
  refine at_region ?_
  refine at_d rfl rfl (opr_move rfl rfl) ?_
  refine at_d rfl rfl (opr_assign rfl rfl) ?_
  refine at_nil ?_
  refine at_then ?_
  refine at_ret ?_
  refine done_of (res1 Tryd.results44 (res_tmp rfl)) ⟨rfl, rfl⟩ (by repeat (first | exact List.Sublist.refl _ | apply List.Sublist.cons))
theorem pEqF_ct {M : Mem} {ig Tp : Nat} (hG : M[ig]? = some ⟨3, Tp, EE [pp]⟩) {ip gP TP x1 y1 : Nat} (hP : M[ip]? = some ⟨gP, TP, EE [x1, y1, 1, x1, y1]⟩) (hx1 : x1 < RR) (hy1 : y1 < RR) {iq gQ TQ x2 y2 : Nat} (hQ : M[iq]? = some ⟨gQ, TQ, EE [x2, y2, 1, x2, y2]⟩) (hx2 : x2 < RR) (hy2 : y2 < RR) (h1 : ¬ el x1 = el x2) : Ct Tryd.prog 44 #[.pointer (some ⟨gP, 0, none⟩), .pointer (some ⟨gQ, 0, none⟩)] M (Det (.bool false) M) := by
  refine ct_of (vs := [.pointer (some ⟨gP, 0, none⟩), .pointer (some ⟨gQ, 0, none⟩)]) Tryd.func44 rfl Tryd.ntmps44 rfl fun w0 => ?_
  refine at_seq ?_
  refine at_region ?_
  refine at_d rfl rfl (opr_assign rfl rfl) ?_
  refine at_nil ?_
  refine at_then ?_
  refine at_seq ?_
  refine at_region ?_
  refine at_d rfl rfl (opr_buildE (ds := E 0) rfl rfl builtz82 rfl) ?_
  refine at_n rfl rfl (opr_box (cs := EE [0]) rfl rfl (E_box _)) ?_
  intro g0
  refine at_d rfl rfl (opr_buildE (ds := E 0) rfl rfl builtz82 rfl) ?_
  refine at_n rfl rfl (opr_box (cs := EE [0]) rfl rfl (E_box _)) ?_
  intro g1
  refine at_d rfl rfl (opr_assign rfl rfl) ?_
  refine at_d rfl rfl (opr_assign rfl rfl) ?_
  refine at_nil ?_
  refine at_then ?_
  refine at_seq ?_
  refine at_drawR (by kernel_rfl) (by kernel_rfl) (by kernel_rfl) (List.cons_ne_nil _ _) ?_
  refine drR_op rfl rfl (opr_move rfl rfl) ?_
  refine drR_op rfl rfl (opr_move rfl rfl) ?_
  refine drR_op rfl rfl (opr_nilCheck rfl rfl) ?_
  refine drR_op rfl rfl (opr_fieldAddr rfl rfl Tryd.underlying84 rfl size82 rfl rfl) ?_
  refine drR_op rfl rfl (opr_move rfl rfl) ?_
  refine drR_op rfl rfl (opr_nilCheck rfl rfl) ?_
  refine drR_op rfl rfl (opr_fieldAddr rfl rfl Tryd.underlying84 rfl size82 rfl rfl) ?_
  refine drR_last (v := .tuple #[]) rfl rfl (opr_call rfl rfl rfl Tryd.func73 (by kernel_rfl) rfl (Mul_el (iz := 1) (ix := ip + 2) (iy := iq + 2) (kz := 0) (kx := 0) (ky := 2) rfl (Nat.le_of_ble_eq_true rfl) rfl hP rfl rfl hQ rfl rfl hx1 RR_one)) ?_ ?_
  · rintro _ _ ⟨_, _, _, rfl, _⟩; rfl
  rintro _ _ ⟨r0, hr0, f0, rfl, rfl⟩
  refine at_then ?_
  refine at_seq ?_
  refine at_drawR (by kernel_rfl) (by kernel_rfl) (by kernel_rfl) (List.cons_ne_nil _ _) ?_
  refine drR_op rfl rfl (opr_move rfl rfl) ?_
  refine drR_op rfl rfl (opr_move rfl rfl) ?_
  refine drR_op rfl rfl (opr_nilCheck rfl rfl) ?_
  refine drR_op rfl rfl (opr_fieldAddr rfl rfl Tryd.underlying84 rfl size82 rfl rfl) ?_
  refine drR_op rfl rfl (opr_move rfl rfl) ?_
  refine drR_op rfl rfl (opr_nilCheck rfl rfl) ?_
  refine drR_op rfl rfl (opr_fieldAddr rfl rfl Tryd.underlying84 rfl size82 rfl rfl) ?_
  refine drR_last (v := .tuple #[]) rfl rfl (opr_call rfl rfl rfl Tryd.func73 (by kernel_rfl) rfl (Mul_el (iz := 0) (ix := iq + 2) (iy := ip + 2) (kz := 0) (kx := 0) (ky := 2) rfl (Nat.le_of_ble_eq_true rfl) rfl hQ rfl rfl hP rfl rfl hx2 RR_one)) ?_ ?_
  · rintro _ _ ⟨_, _, _, rfl, _⟩; rfl
  rintro _ _ ⟨r1, hr1, f1, rfl, rfl⟩
  refine at_then ?_
  refine at_seq ?_
  refine at_region ?_
  refine at_d rfl rfl (opr_move rfl rfl) ?_
  refine at_d rfl rfl (opr_move rfl rfl) ?_
  refine at_d rfl rfl (opr_move rfl rfl) ?_
  refine at_c rfl rfl (opr_call rfl rfl rfl Tryd.func74 (by kernel_rfl) rfl (Sub_el (iz := 1) (ix := 1) (iy := 0) (kz := 0) (kx := 0) (ky := 0) rfl (Nat.le_of_ble_eq_true rfl) rfl rfl rfl rfl rfl rfl rfl hr0 hr1)) ?_
  rintro _ _ ⟨r2, hr2, f2, rfl, rfl⟩
  refine at_nil ?_
  refine at_then ?_
  refine at_seq ?_
  refine at_region ?_
  refine at_d rfl rfl (opr_move rfl rfl) ?_
  refine at_d rfl rfl (opr_call rfl rfl rfl Tryd.func75 (by kernel_rfl) rfl (fIsZero_ct (ig := ig + 2) (iz := 1) (kz := 0) (t := false) hG rfl rfl rfl hr2 (isz_diff (x := el x1) (y := el x2) (t := false) (by simp only [f0, f1, f2]) (iff_of_false (by decide) h1)))) ?_
  refine at_d rfl rfl (opr_assign rfl rfl) ?_
  refine at_nil ?_
  refine at_then ?_
  refine at_seq ?_
  refine at_drawR (by kernel_rfl) (by kernel_rfl) (by kernel_rfl) (List.cons_ne_nil _ _) ?_
  refine drR_op rfl rfl (opr_move rfl rfl) ?_
  refine drR_op rfl rfl (opr_move rfl rfl) ?_
  refine drR_op rfl rfl (opr_nilCheck rfl rfl) ?_
  refine drR_op rfl rfl (opr_fieldAddr rfl rfl Tryd.underlying84 rfl size82 rfl rfl) ?_
  refine drR_op rfl rfl (opr_move rfl rfl) ?_
  refine drR_op rfl rfl (opr_nilCheck rfl rfl) ?_
  refine drR_op rfl rfl (opr_fieldAddr rfl rfl Tryd.underlying84 rfl size82 rfl rfl) ?_
  refine drR_last (v := .tuple #[]) rfl rfl (opr_call rfl rfl rfl Tryd.func73 (by kernel_rfl) rfl (Mul_el (iz := 1) (ix := ip + 2) (iy := iq + 2) (kz := 0) (kx := 1) (ky := 2) rfl (Nat.le_of_ble_eq_true rfl) rfl hP rfl rfl hQ rfl rfl hy1 RR_one)) ?_ ?_
  · rintro _ _ ⟨_, _, _, rfl, _⟩; rfl
  rintro _ _ ⟨r3, hr3, f3, rfl, rfl⟩
  refine at_then ?_
  refine at_seq ?_
  refine at_drawR (by kernel_rfl) (by kernel_rfl) (by kernel_rfl) (List.cons_ne_nil _ _) ?_
  refine drR_op rfl rfl (opr_move rfl rfl) ?_
  refine drR_op rfl rfl (opr_move rfl rfl) ?_
  refine drR_op rfl rfl (opr_nilCheck rfl rfl) ?_
  refine drR_op rfl rfl (opr_fieldAddr rfl rfl Tryd.underlying84 rfl size82 rfl rfl) ?_
  refine drR_op rfl rfl (opr_move rfl rfl) ?_
  refine drR_op rfl rfl (opr_nilCheck rfl rfl) ?_
  refine drR_op rfl rfl (opr_fieldAddr rfl rfl Tryd.underlying84 rfl size82 rfl rfl) ?_
  refine drR_last (v := .tuple #[]) rfl rfl (opr_call rfl rfl rfl Tryd.func73 (by kernel_rfl) rfl (Mul_el (iz := 0) (ix := iq + 2) (iy := ip + 2) (kz := 0) (kx := 1) (ky := 2) rfl (Nat.le_of_ble_eq_true rfl) rfl hQ rfl rfl hP rfl rfl hy2 RR_one)) ?_ ?_
  · rintro _ _ ⟨_, _, _, rfl, _⟩; rfl
  rintro _ _ ⟨r4, hr4, f4, rfl, rfl⟩
  refine at_then ?_
  refine at_seq ?_
  refine at_region ?_
  refine at_d rfl rfl (opr_move rfl rfl) ?_
  refine at_d rfl rfl (opr_move rfl rfl) ?_
  refine at_d rfl rfl (opr_move rfl rfl) ?_
  refine at_c rfl rfl (opr_call rfl rfl rfl Tryd.func74 (by kernel_rfl) rfl (Sub_el (iz := 1) (ix := 1) (iy := 0) (kz := 0) (kx := 0) (ky := 0) rfl (Nat.le_of_ble_eq_true rfl) rfl rfl rfl rfl rfl rfl rfl hr3 hr4)) ?_
  rintro _ _ ⟨r5, hr5, f5, rfl, rfl⟩
  refine at_nil ?_
  refine at_then ?_
  refine at_seq ?_
  refine at_region ?_
  refine at_d rfl rfl (opr_move rfl rfl) ?_
  refine at_d rfl rfl (opr_move rfl rfl) ?_
  refine at_op_skip rfl rfl ?_
  refine at_op_skip rfl rfl ?_
  refine at_d rfl rfl (opr_pickN rfl rfl rfl) ?_
  refine at_d rfl rfl (opr_assign rfl rfl) ?_
  refine at_nil ?_
  refine at_then ?_
  refine at_seq ?_
  refine at_drawR (by kernel_rfl) (by kernel_rfl) (by kernel_rfl) (List.cons_ne_nil _ _) ?_
  refine drR_op rfl rfl (opr_move rfl rfl) ?_
  refine drR_op rfl rfl (opr_move rfl rfl) ?_
  refine drR_op rfl rfl (opr_nilCheck rfl rfl) ?_
  refine drR_op rfl rfl (opr_fieldAddr rfl rfl Tryd.underlying84 rfl size82 rfl rfl) ?_
  refine drR_op rfl rfl (opr_move rfl rfl) ?_
  refine drR_op rfl rfl (opr_nilCheck rfl rfl) ?_
  refine drR_op rfl rfl (opr_fieldAddr rfl rfl Tryd.underlying84 rfl size82 rfl rfl) ?_
  refine drR_last (v := .tuple #[]) rfl rfl (opr_call rfl rfl rfl Tryd.func73 (by kernel_rfl) rfl (Mul_el (iz := 1) (ix := ip + 2) (iy := ip + 2) (kz := 0) (kx := 3) (ky := 4) rfl (Nat.le_of_ble_eq_true rfl) rfl hP rfl rfl hP rfl rfl hx1 hy1)) ?_ ?_
  · rintro _ _ ⟨_, _, _, rfl, _⟩; rfl
  rintro _ _ ⟨r6, hr6, f6, rfl, rfl⟩
  refine at_then ?_
  refine at_seq ?_
  refine at_region ?_
  refine at_d rfl rfl (opr_move rfl rfl) ?_
  refine at_d rfl rfl (opr_move rfl rfl) ?_
  refine at_d rfl rfl (opr_move rfl rfl) ?_
  refine at_d rfl rfl (opr_nilCheck rfl rfl) ?_
  refine at_d rfl rfl (opr_fieldAddr rfl rfl Tryd.underlying84 rfl size82 rfl rfl) ?_
  refine at_c rfl rfl (opr_call rfl rfl rfl Tryd.func73 (by kernel_rfl) rfl (Mul_el (iz := 1) (ix := 1) (iy := iq + 2) (kz := 0) (kx := 0) (ky := 2) rfl (Nat.le_of_ble_eq_true rfl) rfl rfl rfl rfl hQ rfl rfl hr6 RR_one)) ?_
  rintro _ _ ⟨r7, hr7, f7, rfl, rfl⟩
  refine at_nil ?_
  refine at_then ?_
  refine at_seq ?_
  refine at_drawR (by kernel_rfl) (by kernel_rfl) (by kernel_rfl) (List.cons_ne_nil _ _) ?_
  refine drR_op rfl rfl (opr_move rfl rfl) ?_
  refine drR_op rfl rfl (opr_move rfl rfl) ?_
  refine drR_op rfl rfl (opr_nilCheck rfl rfl) ?_
  refine drR_op rfl rfl (opr_fieldAddr rfl rfl Tryd.underlying84 rfl size82 rfl rfl) ?_
  refine drR_op rfl rfl (opr_move rfl rfl) ?_
  refine drR_op rfl rfl (opr_nilCheck rfl rfl) ?_
  refine drR_op rfl rfl (opr_fieldAddr rfl rfl Tryd.underlying84 rfl size82 rfl rfl) ?_
  refine drR_last (v := .tuple #[]) rfl rfl (opr_call rfl rfl rfl Tryd.func73 (by kernel_rfl) rfl (Mul_el (iz := 0) (ix := iq + 2) (iy := iq + 2) (kz := 0) (kx := 3) (ky := 4) rfl (Nat.le_of_ble_eq_true rfl) rfl hQ rfl rfl hQ rfl rfl hx2 hy2)) ?_ ?_
  · rintro _ _ ⟨_, _, _, rfl, _⟩; rfl
  rintro _ _ ⟨r8, hr8, f8, rfl, rfl⟩
  refine at_then ?_
  refine at_seq ?_
  refine at_region ?_
  refine at_d rfl rfl (opr_move rfl rfl) ?_
  refine at_d rfl rfl (opr_move rfl rfl) ?_
  refine at_d rfl rfl (opr_move rfl rfl) ?_
  refine at_d rfl rfl (opr_nilCheck rfl rfl) ?_
  refine at_d rfl rfl (opr_fieldAddr rfl rfl Tryd.underlying84 rfl size82 rfl rfl) ?_
  refine at_c rfl rfl (opr_call rfl rfl rfl Tryd.func73 (by kernel_rfl) rfl (Mul_el (iz := 0) (ix := 0) (iy := ip + 2) (kz := 0) (kx := 0) (ky := 2) rfl (Nat.le_of_ble_eq_true rfl) rfl rfl rfl rfl hP rfl rfl hr8 RR_one)) ?_
  rintro _ _ ⟨r9, hr9, f9, rfl, rfl⟩
  refine at_nil ?_
  refine at_then ?_
  refine at_seq ?_
  refine at_region ?_
  refine at_d rfl rfl (opr_move rfl rfl) ?_
  refine at_d rfl rfl (opr_move rfl rfl) ?_
  refine at_d rfl rfl (opr_move rfl rfl) ?_
  refine at_c rfl rfl (opr_call rfl rfl rfl Tryd.func74 (by kernel_rfl) rfl (Sub_el (iz := 1) (ix := 1) (iy := 0) (kz := 0) (kx := 0) (ky := 0) rfl (Nat.le_of_ble_eq_true rfl) rfl rfl rfl rfl rfl rfl rfl hr7 hr9)) ?_
  rintro _ _ ⟨r10, hr10, f10, rfl, rfl⟩
  refine at_nil ?_
  refine at_then ?_
  refine at_seq ?_
  refine at_region ?_
  refine at_d rfl rfl (opr_move rfl rfl) ?_
  refine at_d rfl rfl (opr_move rfl rfl) ?_
  refine at_op_skip rfl rfl ?_
  refine at_op_skip rfl rfl ?_
  refine at_d rfl rfl (opr_pickN rfl rfl rfl) ?_
  refine at_d rfl rfl (opr_assign rfl rfl) ?_
  refine at_nil ?_
  refine at_then ?_
  refine at_seq ?_
  refine at_region ?_
  refine at_d rfl rfl (opr_move rfl rfl) ?_
  refine at_d rfl rfl (opr_assign rfl rfl) ?_
  refine at_nil ?_
  refine at_then ?_
  refine at_ret ?_
  refine done_of (res1 Tryd.results44 (res_tmp rfl)) ⟨rfl, rfl⟩ (by repeat (first | exact List.Sublist.refl _ | apply List.Sublist.cons))
theorem pEq_ct {M : Mem} {ig Tp : Nat} (hG : M[ig]? = some ⟨3, Tp, EE [pp]⟩) {ip gP TP x1 y1 : Nat} (hP : M[ip]? = some ⟨gP, TP, EE [x1, y1, 1, x1, y1]⟩) (hx1 : x1 < RR) (hy1 : y1 < RR) {iq gQ TQ x2 y2 : Nat} (hQ : M[iq]? = some ⟨gQ, TQ, EE [x2, y2, 1, x2, y2]⟩) (hx2 : x2 < RR) (hy2 : y2 < RR) {t : Bool} (ht : isB x1 y1 1 x2 y2 = t) : Ct Tryd.prog 44 #[.pointer (some ⟨gP, 0, none⟩), .pointer (some ⟨gQ, 0, none⟩)] M (Det (.bool t) M) := by
  subst ht
  unfold isB
  by_cases h1 : el x1 = el x2
  · by_cases h2 : el y1 = el y2
    · rw [decide_eq_true (el_iff.2 h1.symm), decide_eq_true (el_iff.2 h2.symm)]; exact pEqTT_ct hG hP hx1 hy1 hQ hx2 hy2 h1 h2
    · rw [decide_eq_true (el_iff.2 h1.symm), decide_eq_false (fun h => h2 (el_iff.1 h).symm)]; exact pEqTF_ct hG hP hx1 hy1 hQ hx2 hy2 h1 h2
  · rw [decide_eq_false (fun h => h1 (el_iff.1 h).symm)]; exact pEqF_ct hG hP hx1 hy1 hQ hx2 hy2 h1
theorem iSame_ct {M : Mem} {ig Tp jd Td : Nat} (hG : M[ig]? = some ⟨3, Tp, EE [pp]⟩) (hD : M[jd]? = some ⟨0, Td, EE [dP]⟩) {x1 y1 : Nat} (hx1 : x1 < RR) (hy1 : y1 < RR) (o1 : On (el dP) (el x1) (el y1)) {x2 y2 : Nat} (hx2 : x2 < RR) (hy2 : y2 < RR) (o2 : On (el dP) (el x2) (el y2)) {t : Bool} (ht : isB x1 y1 1 x2 y2 = t) : Ct Tryd.prog 14 #[.agg (EE [x1, y1]).toArray, .agg (EE [x2, y2]).toArray] M (Det (.tuple #[.bool t, .bool true]) M) := by
  refine ct_of (vs := [.agg (EE [x1, y1]).toArray, .agg (EE [x2, y2]).toArray]) Tryd.func14 rfl Tryd.ntmps14 rfl fun w0 => ?_
  refine at_seq ?_
  refine at_region ?_
  refine at_n rfl rfl (opr_box rfl rfl rfl) ?_
  intro g0
  refine at_n rfl rfl (opr_box rfl rfl rfl) ?_
  intro g1
  refine at_d rfl rfl (opr_assign rfl rfl) ?_
  refine at_d rfl rfl (opr_assign rfl rfl) ?_
  refine at_nil ?_
  refine at_then ?_
  refine at_seq ?_
  refine at_region ?_
  refine at_d rfl rfl (opr_load (i := 1) rfl rfl rfl Tryd.underlying24 rfl size24 (EE_length _) (EE_all rfl)) ?_
  refine at_c rfl rfl (opr_call rfl rfl rfl Tryd.func43 (by kernel_rfl) rfl (pointT_ct (ig := ig + 2) (jd := jd + 2) hG hD hx1 hy1 o1)) ?_
  rintro _ _ ⟨gN1, rfl, rfl⟩
  refine at_d rfl rfl (opr_move rfl rfl) ?_
  refine at_d rfl rfl (opr_extract rfl rfl rfl) ?_
  refine at_d rfl rfl (opr_extract rfl rfl rfl) ?_
  refine at_d rfl rfl (opr_assign rfl rfl) ?_
  refine at_d rfl rfl (opr_assign rfl rfl) ?_
  refine at_nil ?_
  refine at_then ?_
  refine at_seq ?_
  refine at_region ?_
  refine at_d rfl rfl (opr_load (i := 1) rfl rfl rfl Tryd.underlying24 rfl size24 (EE_length _) (EE_all rfl)) ?_
  refine at_c rfl rfl (opr_call rfl rfl rfl Tryd.func43 (by kernel_rfl) rfl (pointT_ct (ig := ig + 3) (jd := jd + 3) hG hD hx2 hy2 o2)) ?_
  rintro _ _ ⟨gN2, rfl, rfl⟩
  refine at_d rfl rfl (opr_move rfl rfl) ?_
  refine at_d rfl rfl (opr_extract rfl rfl rfl) ?_
  refine at_d rfl rfl (opr_extract rfl rfl rfl) ?_
  refine at_d rfl rfl (opr_assign rfl rfl) ?_
  refine at_d rfl rfl (opr_assign rfl rfl) ?_
  refine at_nil ?_
  refine at_then ?_
  refine at_seq ?_
  refine at_seq ?_
  refine at_region ?_
  refine at_d rfl rfl (opr_move rfl rfl) ?_
  refine at_d rfl rfl (opr_unOp (u := .bool false) rfl rfl (fun _ => rfl)) ?_
  refine at_d rfl rfl (opr_move rfl rfl) ?_
  refine at_d rfl rfl (opr_move rfl rfl) ?_
  refine at_d rfl rfl (opr_unOp (u := .bool false) rfl rfl (fun _ => rfl)) ?_
  refine at_d rfl rfl (opr_pickN rfl rfl rfl) ?_
  refine at_nil ?_
  refine at_then ?_
  refine at_cond_false rfl ?_
  refine at_skip ?_
  refine at_then ?_
  refine at_seq ?_
  refine at_region ?_
  refine at_d rfl rfl (opr_move rfl rfl) ?_
  refine at_d rfl rfl (opr_move rfl rfl) ?_
  refine at_d rfl rfl (opr_call rfl rfl rfl Tryd.func44 (by kernel_rfl) rfl (pEq_ct (ig := ig + 4) (ip := 1) (iq := 0) hG rfl hx1 hy1 rfl hx2 hy2 ht)) ?_
  refine at_d rfl rfl (opr_assign rfl rfl) ?_
  refine at_d rfl rfl (opr_assign rfl rfl) ?_
  refine at_nil ?_
  refine at_then ?_
  refine at_ret ?_
  exact done_of (res2 Tryd.results14 (res_tmp rfl) (res_tmp rfl)) ⟨rfl, rfl⟩ (by repeat (first | exact List.Sublist.refl _ | apply List.Sublist.cons))
theorem pIsIdN_ct {M : Mem} {ig Tp : Nat} (hG : M[ig]? = some ⟨3, Tp, EE [pp]⟩) {gP TP x y : Nat} (hx : x < RR) (hy : y < RR) (h1 : ¬ x % pp = 0) : Ct Tryd.prog 45 #[.pointer (some ⟨gP, 0, none⟩)] (⟨gP, TP, EE [x, y, 1, x, y]⟩ :: M) (Det (.bool false) (⟨gP, TP, EE [x % pp, y, 1, x, y]⟩ :: M)) := by
  refine ct_of (vs := [.pointer (some ⟨gP, 0, none⟩)]) Tryd.func45 rfl Tryd.ntmps45 rfl fun w0 => ?_
  refine at_seq ?_
  refine at_region ?_
  refine at_d rfl rfl (opr_assign rfl rfl) ?_
  refine at_nil ?_
  refine at_then ?_
  refine at_seq ?_
  refine at_drawK (by kernel_rfl) (by kernel_rfl) (M1 := ⟨gP, TP, EE [x % pp, y, 1, x, y]⟩ :: M) (M2 := ⟨gP, TP, EE [x % pp, y, 1, x, y]⟩ :: M) [0, 0, 0, 1, 0, 0, 0, 0, 0, 0, 0, 0, 0, 0, 0, 0, 0, 0, 0, 0, 0, 0, 0, 0, 0, 0, 0, 0, 0, 0] 3 30 (by kernel_rfl) (.inr rfl) ?_
  refine drK0 rfl rfl (fun _ => opr_move rfl rfl) ?_
  refine drK0 rfl rfl (fun _ => opr_nilCheck rfl rfl) ?_
  refine drK0 rfl rfl (fun _ => opr_fieldAddr rfl rfl Tryd.underlying84 rfl size82 rfl rfl) ?_
  refine drK1 rfl rfl (opr_call rfl rfl rfl Tryd.func75 (by kernel_rfl) rfl (fIsZero_ct (M := ⟨gP, TP, EE [x, y, 1, x, y]⟩ :: M) (ig := ig + 1) (iz := 0) (kz := 0) (t := false) hG rfl rfl rfl hx (decide_eq_false h1))) ?_
  refine drK0 rfl rfl (fun _ => opr_move rfl rfl) ?_
  refine drK0s rfl rfl ?_
  refine drK0s rfl rfl ?_
  refine drK0s rfl rfl ?_
  refine drK0s rfl rfl ?_
  refine drK0s rfl rfl ?_
  refine drK0 rfl rfl (fun _ => opr_pickN rfl rfl rfl) ?_
  refine drK0 rfl rfl (fun _ => opr_move rfl rfl) ?_
  refine drK0s rfl rfl ?_
  refine drK0s rfl rfl ?_
  refine drK0s rfl rfl ?_
  refine drK0s rfl rfl ?_
  refine drK0s rfl rfl ?_
  refine drK0 rfl rfl (fun _ => opr_pickN rfl rfl rfl) ?_
  refine drK0 rfl rfl (fun _ => opr_move rfl rfl) ?_
  refine drK0s rfl rfl ?_
  refine drK0s rfl rfl ?_
  refine drK0s rfl rfl ?_
  refine drK0s rfl rfl ?_
  refine drK0s rfl rfl ?_
  refine drK0s rfl rfl ?_
  refine drK0s rfl rfl ?_
  refine drK0s rfl rfl ?_
  refine drK0s rfl rfl ?_
  refine drK0 rfl rfl (fun _ => opr_pickN rfl rfl rfl) ?_
  refine drK0 rfl rfl (fun _ => opr_assign rfl rfl) ?_
  refine at_then ?_
  refine at_ret ?_
  refine done_of (res1 Tryd.results45 (res_tmp rfl)) ⟨rfl, rfl⟩ (by repeat (first | exact List.Sublist.refl _ | apply List.Sublist.cons))
theorem pIsIdY_ct {M : Mem} {ig Tp : Nat} (hG : M[ig]? = some ⟨3, Tp, EE [pp]⟩) {gP TP x y : Nat} (hx : x < RR) (hy : y < RR) (h1 : x % pp = 0) (h2 : ¬ y % pp = 0) : Ct Tryd.prog 45 #[.pointer (some ⟨gP, 0, none⟩)] (⟨gP, TP, EE [x, y, 1, x, y]⟩ :: M) (Det (.bool (decide (y % pp = 1))) (⟨gP, TP, EE [x % pp, y % pp, 1, x, y]⟩ :: M)) := by
  refine ct_of (vs := [.pointer (some ⟨gP, 0, none⟩)]) Tryd.func45 rfl Tryd.ntmps45 rfl fun w0 => ?_
  refine at_seq ?_
  refine at_region ?_
  refine at_d rfl rfl (opr_assign rfl rfl) ?_
  refine at_nil ?_
  refine at_then ?_
  refine at_seq ?_
  refine at_drawK (by kernel_rfl) (by kernel_rfl) (M1 := ⟨gP, TP, EE [x % pp, y, 1, x, y]⟩ :: M) (M2 := ⟨gP, TP, EE [x % pp, y % pp, 1, x, y]⟩ :: M) [0, 0, 0, 1, 0, 0, 0, 0, 2, 0, 0, 0, 0, 0, 0, 3, 0, 0, 0, 0, 0, 0, 3, 0, 0, 0, 3, 0, 0, 0] 3 8 (by kernel_rfl) (.inl (by decide)) ?_
  refine drK0 rfl rfl (fun _ => opr_move rfl rfl) ?_
  refine drK0 rfl rfl (fun _ => opr_nilCheck rfl rfl) ?_
  refine drK0 rfl rfl (fun _ => opr_fieldAddr rfl rfl Tryd.underlying84 rfl size82 rfl rfl) ?_
  refine drK1 rfl rfl (opr_call rfl rfl rfl Tryd.func75 (by kernel_rfl) rfl (fIsZero_ct (M := ⟨gP, TP, EE [x, y, 1, x, y]⟩ :: M) (ig := ig + 1) (iz := 0) (kz := 0) (t := true) hG rfl rfl rfl hx (decide_eq_true h1))) ?_
  refine drK0 rfl rfl (fun _ => opr_move rfl rfl) ?_
  refine drK0 rfl rfl (fun _ => opr_move rfl rfl) ?_
  refine drK0 rfl rfl (fun _ => opr_nilCheck rfl rfl) ?_
  refine drK0 rfl rfl (fun _ => opr_fieldAddr rfl rfl Tryd.underlying84 rfl size82 rfl rfl) ?_
  refine drK2 rfl rfl (opr_call rfl rfl rfl Tryd.func75 (by kernel_rfl) rfl (fIsZero_ct (M := ⟨gP, TP, EE [x % pp, y, 1, x, y]⟩ :: M) (ig := ig + 1) (iz := 0) (kz := 1) (t := false) hG rfl rfl rfl hy (decide_eq_false h2))) ?_
  refine drK0 rfl rfl (fun _ => opr_unOp (u := .bool true) rfl rfl (fun _ => rfl)) ?_
  refine drK0 rfl rfl (fun _ => opr_pickT rfl rfl rfl) ?_
  refine drK0 rfl rfl (fun _ => opr_move rfl rfl) ?_
  refine drK0 rfl rfl (fun _ => opr_move rfl rfl) ?_
  refine drK0 rfl rfl (fun _ => opr_nilCheck rfl rfl) ?_
  refine drK0 rfl rfl (fun _ => opr_fieldAddr rfl rfl Tryd.underlying84 rfl size82 rfl rfl) ?_
  refine drK3 rfl rfl (opr_call rfl rfl rfl Tryd.func75 (by kernel_rfl) rfl (fIsZeroR_ct (ig := ig + 1) (iz := 0) (kz := 2) (t := false) hG rfl rfl rfl (by decide) (by decide))) ?_
  refine drK0 rfl rfl (fun _ => opr_unOp (u := .bool true) rfl rfl (fun _ => rfl)) ?_
  refine drK0 rfl rfl (fun _ => opr_pickT rfl rfl rfl) ?_
  refine drK0 rfl rfl (fun _ => opr_move rfl rfl) ?_
  refine drK0 rfl rfl (fun _ => opr_move rfl rfl) ?_
  refine drK0 rfl rfl (fun _ => opr_nilCheck rfl rfl) ?_
  refine drK0 rfl rfl (fun _ => opr_fieldAddr rfl rfl Tryd.underlying84 rfl size82 rfl rfl) ?_
  refine drK3 rfl rfl (opr_load (i := 0) rfl rfl rfl Tryd.underlying82 rfl size82 (E_length _) (EE_at (k := 1) rfl rfl rfl)) ?_
  refine drK0 rfl rfl (fun _ => opr_move rfl rfl) ?_
  refine drK0 rfl rfl (fun _ => opr_nilCheck rfl rfl) ?_
  refine drK0 rfl rfl (fun _ => opr_fieldAddr rfl rfl Tryd.underlying84 rfl size82 rfl rfl) ?_
  refine drK3 rfl rfl (opr_load (i := 0) rfl rfl rfl Tryd.underlying82 rfl size82 (E_length _) (EE_at (k := 2) rfl rfl rfl)) ?_
  refine drK0 rfl rfl (fun _ => opr_eqlE rfl rfl rfl Tryd.underlying82 Tryd.underlying5 size5 (by kernel_rfl) (modp_lt _) RR_one) ?_
  refine drK0 rfl rfl (fun _ => opr_pickT rfl rfl rfl) ?_
  refine drK0 rfl rfl (fun _ => opr_assign rfl rfl) ?_
  refine at_then ?_
  refine at_ret ?_
  refine done_of (res1 Tryd.results45 (res_tmp rfl)) ⟨rfl, rfl⟩ (by repeat (first | exact List.Sublist.refl _ | apply List.Sublist.cons))
theorem iIsIdN_ct {M : Mem} {ig Tp jd Td : Nat} (hG : M[ig]? = some ⟨3, Tp, EE [pp]⟩) (hD : M[jd]? = some ⟨0, Td, EE [dP]⟩) {x y : Nat} (hx : x < RR) (hy : y < RR) (hOn : On (el dP) (el x) (el y)) (h1 : ¬ x % pp = 0) : Ct Tryd.prog 15 #[.agg (EE [x, y]).toArray] M (Det (.tuple #[.bool false, .bool true]) M) := by
  refine ct_of (vs := [.agg (EE [x, y]).toArray]) Tryd.func15 rfl Tryd.ntmps15 rfl fun w0 => ?_
  refine at_seq ?_
  refine at_region ?_
  refine at_n rfl rfl (opr_box rfl rfl rfl) ?_
  intro g0
  refine at_d rfl rfl (opr_assign rfl rfl) ?_
  refine at_d rfl rfl (opr_assign rfl rfl) ?_
  refine at_nil ?_
  refine at_then ?_
  refine at_seq ?_
  refine at_region ?_
  refine at_d rfl rfl (opr_load (i := 0) rfl rfl rfl Tryd.underlying24 rfl size24 (EE_length _) (EE_all rfl)) ?_
  refine at_c rfl rfl (opr_call rfl rfl rfl Tryd.func43 (by kernel_rfl) rfl (pointT_ct (ig := ig + 1) (jd := jd + 1) hG hD hx hy hOn)) ?_
  rintro _ _ ⟨gN1, rfl, rfl⟩
  refine at_d rfl rfl (opr_move rfl rfl) ?_
  refine at_d rfl rfl (opr_extract rfl rfl rfl) ?_
  refine at_d rfl rfl (opr_extract rfl rfl rfl) ?_
  refine at_d rfl rfl (opr_assign rfl rfl) ?_
  refine at_d rfl rfl (opr_assign rfl rfl) ?_
  refine at_nil ?_
  refine at_then ?_
  refine at_seq ?_
  refine at_seq ?_
  refine at_region ?_
  refine at_d rfl rfl (opr_move rfl rfl) ?_
  refine at_d rfl rfl (opr_unOp (u := .bool false) rfl rfl (fun _ => rfl)) ?_
  refine at_nil ?_
  refine at_then ?_
  refine at_cond_false rfl ?_
  refine at_skip ?_
  refine at_then ?_
  refine at_seq ?_
  refine at_region ?_
  refine at_d rfl rfl (opr_move rfl rfl) ?_
  refine at_d rfl rfl (opr_call rfl rfl rfl Tryd.func45 (by kernel_rfl) rfl (pIsIdN_ct (ig := ig + 1) hG hx hy h1)) ?_
  refine at_d rfl rfl (opr_assign rfl rfl) ?_
  refine at_d rfl rfl (opr_assign rfl rfl) ?_
  refine at_nil ?_
  refine at_then ?_
  refine at_ret ?_
  exact done_of (res2 Tryd.results15 (res_tmp rfl) (res_tmp rfl)) ⟨rfl, rfl⟩ (by repeat (first | exact List.Sublist.refl _ | apply List.Sublist.cons))
theorem iIsIdY_ct {M : Mem} {ig Tp jd Td : Nat} (hG : M[ig]? = some ⟨3, Tp, EE [pp]⟩) (hD : M[jd]? = some ⟨0, Td, EE [dP]⟩) {x y : Nat} (hx : x < RR) (hy : y < RR) (hOn : On (el dP) (el x) (el y)) (h1 : x % pp = 0) (h2 : ¬ y % pp = 0) : Ct Tryd.prog 15 #[.agg (EE [x, y]).toArray] M (Det (.tuple #[.bool (decide (y % pp = 1)), .bool true]) M) := by
  refine ct_of (vs := [.agg (EE [x, y]).toArray]) Tryd.func15 rfl Tryd.ntmps15 rfl fun w0 => ?_
  refine at_seq ?_
  refine at_region ?_
  refine at_n rfl rfl (opr_box rfl rfl rfl) ?_
  intro g0
  refine at_d rfl rfl (opr_assign rfl rfl) ?_
  refine at_d rfl rfl (opr_assign rfl rfl) ?_
  refine at_nil ?_
  refine at_then ?_
  refine at_seq ?_
  refine at_region ?_
  refine at_d rfl rfl (opr_load (i := 0) rfl rfl rfl Tryd.underlying24 rfl size24 (EE_length _) (EE_all rfl)) ?_
  refine at_c rfl rfl (opr_call rfl rfl rfl Tryd.func43 (by kernel_rfl) rfl (pointT_ct (ig := ig + 1) (jd := jd + 1) hG hD hx hy hOn)) ?_
  rintro _ _ ⟨gN1, rfl, rfl⟩
  refine at_d rfl rfl (opr_move rfl rfl) ?_
  refine at_d rfl rfl (opr_extract rfl rfl rfl) ?_
  refine at_d rfl rfl (opr_extract rfl rfl rfl) ?_
  refine at_d rfl rfl (opr_assign rfl rfl) ?_
  refine at_d rfl rfl (opr_assign rfl rfl) ?_
  refine at_nil ?_
  refine at_then ?_
  refine at_seq ?_
  refine at_seq ?_
  refine at_region ?_
  refine at_d rfl rfl (opr_move rfl rfl) ?_
  refine at_d rfl rfl (opr_unOp (u := .bool false) rfl rfl (fun _ => rfl)) ?_
  refine at_nil ?_
  refine at_then ?_
  refine at_cond_false rfl ?_
  refine at_skip ?_
  refine at_then ?_
  refine at_seq ?_
  refine at_region ?_
  refine at_d rfl rfl (opr_move rfl rfl) ?_
  refine at_d rfl rfl (opr_call rfl rfl rfl Tryd.func45 (by kernel_rfl) rfl (pIsIdY_ct (ig := ig + 1) hG hx hy h1 h2)) ?_
  refine at_d rfl rfl (opr_assign rfl rfl) ?_
  refine at_d rfl rfl (opr_assign rfl rfl) ?_
  refine at_nil ?_
  refine at_then ?_
  refine at_ret ?_
  exact done_of (res2 Tryd.results15 (res_tmp rfl) (res_tmp rfl)) ⟨rfl, rfl⟩ (by repeat (first | exact List.Sublist.refl _ | apply List.Sublist.cons))
theorem iIsId_ct {M : Mem} {ig Tp jd Td : Nat} (hG : M[ig]? = some ⟨3, Tp, EE [pp]⟩) (hD : M[jd]? = some ⟨0, Td, EE [dP]⟩) {x y : Nat} (hx : x < RR) (hy : y < RR) (hOn : On (el dP) (el x) (el y)) {t : Bool} (ht : isB 0 1 1 x y = t) : Ct Tryd.prog 15 #[.agg (EE [x, y]).toArray] M (Det (.tuple #[.bool t, .bool true]) M) := by
  subst ht
  unfold isB
  rw [Nat.mul_one, Nat.mul_one, Nat.zero_mod, show 1 % pp = 1 by decide]
  by_cases h1 : x % pp = 0
  · rw [decide_eq_true h1, Bool.true_and]; exact iIsIdY_ct hG hD hx hy hOn h1 (y_ne hOn h1)
  · rw [decide_eq_false h1, Bool.false_and]; exact iIsIdN_ct hG hD hx hy hOn h1
theorem fnSameIs_ct {M : Mem} {ig Tp jd Td : Nat} (hG : M[ig]? = some ⟨3, Tp, EE [pp]⟩) (hD : M[jd]? = some ⟨0, Td, EE [dP]⟩) {x1 y1 x2 y2 : Nat} (hx1 : x1 < RR) (hy1 : y1 < RR) (hx2 : x2 < RR) (hy2 : y2 < RR) : Ct Tryd.prog 3 #[.agg (EE [x1, y1]).toArray, .agg (EE [x2, y2]).toArray] M (Det (.bool true) M) := by
  refine ct_of (vs := [.agg (EE [x1, y1]).toArray, .agg (EE [x2, y2]).toArray]) Tryd.func3 rfl Tryd.ntmps3 rfl fun w0 => ?_
  refine at_seq ?_
  refine at_region ?_
  refine at_n rfl rfl (opr_box rfl rfl rfl) ?_
  intro g0
  refine at_n rfl rfl (opr_box rfl rfl rfl) ?_
  intro g1
  refine at_d rfl rfl (opr_assign rfl rfl) ?_
  refine at_nil ?_
  refine at_then ?_
  refine at_seq ?_
  refine at_seq ?_
  refine at_region ?_
  refine at_d rfl rfl (opr_load (i := 1) rfl rfl rfl Tryd.underlying24 rfl size24 (EE_length _) (EE_all rfl)) ?_
  refine at_d rfl rfl (opr_load (i := 0) rfl rfl rfl Tryd.underlying24 rfl size24 (EE_length _) (EE_all rfl)) ?_
  refine at_c rfl rfl (opr_buildSlice (s := 112) (zs := List.replicate 112 (.int .u8 0)) (cs := EE [0, 0, 0, 0]) (ds := EE [x1, y1, x2, y2]) rfl rfl Tryd.underlying61 (by kernel_rfl) (by decide) (by decide) (by kernel_rfl) (fill_pairs [(0, x1, y1), (1, x2, y2)] _ rfl)) ?_
  rintro _ _ ⟨gS1, rfl, rfl⟩
  refine at_d rfl rfl (opr_call rfl rfl rfl Tryd.func13 (by kernel_rfl) rfl (on_ct (il := 0) (l := [x1, y1, x2, y2]) rfl rfl (by intro x hx; simp only [List.mem_cons, List.not_mem_nil, or_false] at hx; rcases hx with rfl | rfl | rfl | rfl <;> assumption) (by decide))) ?_
  refine at_d rfl rfl (opr_unOp (u := .bool (!(onAll [x1, y1, x2, y2] 2))) rfl rfl (fun _ => rfl)) ?_
  refine at_nil ?_
  refine at_then ?_
  refine at_cond rfl (fun ht => ?_) (fun ht => ?_)
  ·
    refine at_seq ?_
    refine at_region ?_
    refine at_d rfl rfl (opr_assign rfl rfl) ?_
    refine at_nil ?_
    refine at_then ?_
    refine at_ret ?_
    refine at_then_ret ?_
    refine done_of (res1 Tryd.results3 (res_tmp rfl)) ⟨rfl, rfl⟩ (by repeat (first | exact List.Sublist.refl _ | apply List.Sublist.cons))
  ·
    obtain ⟨o1, o2⟩ := onAll_two ht
    refine at_skip ?_
    refine at_then ?_
    refine at_seq ?_
    refine at_region ?_
    refine at_d rfl rfl (opr_load (i := 2) rfl rfl rfl Tryd.underlying24 rfl size24 (EE_length _) (EE_all rfl)) ?_
    refine at_d rfl rfl (opr_load (i := 1) rfl rfl rfl Tryd.underlying24 rfl size24 (EE_length _) (EE_all rfl)) ?_
    refine at_d rfl rfl (opr_call rfl rfl rfl Tryd.func14 (by kernel_rfl) rfl (iSame_ct (ig := ig + 3) (jd := jd + 3) (t := isB x1 y1 1 x2 y2) hG hD hx1 hy1 o1 hx2 hy2 o2 rfl)) ?_
    refine at_d rfl rfl (opr_move rfl rfl) ?_
    refine at_d rfl rfl (opr_extract rfl rfl rfl) ?_
    refine at_d rfl rfl (opr_extract rfl rfl rfl) ?_
    refine at_d rfl rfl (opr_assign rfl rfl) ?_
    refine at_d rfl rfl (opr_assign rfl rfl) ?_
    refine at_nil ?_
    refine at_then ?_
    refine at_seq ?_
    refine at_region ?_
    refine at_d rfl rfl (opr_load (i := 2) rfl rfl rfl Tryd.underlying24 rfl size24 (EE_length _) (EE_all rfl)) ?_
    refine at_d rfl rfl (opr_load (i := 2) rfl rfl rfl Tryd.underlying24 rfl size24 (EE_length _) (EE_all rfl)) ?_
    refine at_d rfl rfl (opr_call rfl rfl rfl Tryd.func14 (by kernel_rfl) rfl (iSame_ct (ig := ig + 3) (jd := jd + 3) (t := true) hG hD hx1 hy1 o1 hx1 hy1 o1 (by unfold isB; simp only [Nat.mul_one, decide_true, Bool.and_true]))) ?_
    refine at_d rfl rfl (opr_move rfl rfl) ?_
    refine at_d rfl rfl (opr_extract rfl rfl rfl) ?_
    refine at_d rfl rfl (opr_extract rfl rfl rfl) ?_
    refine at_d rfl rfl (opr_assign rfl rfl) ?_
    refine at_d rfl rfl (opr_assign rfl rfl) ?_
    refine at_nil ?_
    refine at_then ?_
    refine at_seq ?_
    refine at_region ?_
    refine at_d rfl rfl (opr_load (i := 2) rfl rfl rfl Tryd.underlying24 rfl size24 (EE_length _) (EE_all rfl)) ?_
    refine at_d rfl rfl (opr_call rfl rfl rfl Tryd.func15 (by kernel_rfl) rfl (iIsId_ct (ig := ig + 3) (jd := jd + 3) (t := isB 0 1 1 x1 y1) hG hD hx1 hy1 o1 rfl)) ?_
    refine at_d rfl rfl (opr_move rfl rfl) ?_
    refine at_d rfl rfl (opr_extract rfl rfl rfl) ?_
    refine at_d rfl rfl (opr_extract rfl rfl rfl) ?_
    refine at_d rfl rfl (opr_assign rfl rfl) ?_
    refine at_d rfl rfl (opr_assign rfl rfl) ?_
    refine at_nil ?_
    refine at_then ?_
    refine at_seq ?_
    refine at_drawQ (by kernel_rfl) (by kernel_rfl) (List.cons_ne_nil _ _) ?_
    refine dr_op rfl rfl (opr_move rfl rfl) ?_
    refine dr_op rfl rfl (opr_move rfl rfl) ?_
    refine dr_op rfl rfl (opr_move rfl rfl) ?_
    refine dr_op rfl rfl (opr_pickT rfl rfl rfl) ?_
    refine dr_op rfl rfl (opr_move rfl rfl) ?_
    refine dr_op rfl rfl (opr_move rfl rfl) ?_
    refine dr_op rfl rfl (opr_pickT rfl rfl rfl) ?_
    refine dr_op rfl rfl (opr_move rfl rfl) ?_
    refine dr_op rfl rfl (opr_move rfl rfl) ?_
    refine dr_op rfl rfl (opr_pickT rfl rfl rfl) ?_
    refine dr_op rfl rfl (opr_move rfl rfl) ?_
    refine dr_op rfl rfl (opr_move rfl rfl) ?_
    refine dr_op rfl rfl (opr_load (i := 2) rfl rfl rfl Tryd.underlying24 rfl size24 (EE_length _) (EE_all rfl)) ?_
    refine dr_op rfl rfl (opr_call rfl rfl rfl Tryd.func16 (by kernel_rfl) rfl (at_ct)) ?_
    refine dr_op rfl rfl (opr_fieldAddr rfl rfl Tryd.underlying24 rfl size22 rfl rfl) ?_
    refine dr_op rfl rfl (opr_load (i := 1) rfl rfl rfl Tryd.underlying22 rfl size22 (E_length _) (EE_at (k := 0) rfl rfl rfl)) ?_
    refine dr_op rfl rfl (opr_fieldAddr rfl rfl Tryd.underlying24 rfl size22 rfl rfl) ?_
    refine dr_op rfl rfl (opr_load (i := 1) rfl rfl rfl Tryd.underlying22 rfl size22 (E_length _) (EE_at (k := 1) rfl rfl rfl)) ?_
    refine dr_op rfl rfl (opr_call rfl rfl rfl Tryd.func17 (by kernel_rfl) rfl (sIs_ct hx1 hy1 RR_one hx2 hy2)) ?_
    refine dr_op rfl rfl (opr_eqlBb rfl rfl rfl Tryd.underlying4 (beq_self_eq_true _)) ?_
    refine dr_op rfl rfl (opr_pickT rfl rfl rfl) ?_
    refine dr_op rfl rfl (opr_move rfl rfl) ?_
    refine dr_op rfl rfl (opr_move rfl rfl) ?_
    refine dr_op rfl rfl (opr_call rfl rfl rfl Tryd.func18 (by kernel_rfl) rfl (sZero_ct)) ?_
    refine dr_op rfl rfl (opr_fieldAddr rfl rfl Tryd.underlying24 rfl size22 rfl rfl) ?_
    refine dr_op rfl rfl (opr_load (i := 2) rfl rfl rfl Tryd.underlying22 rfl size22 (E_length _) (EE_at (k := 0) rfl rfl rfl)) ?_
    refine dr_op rfl rfl (opr_fieldAddr rfl rfl Tryd.underlying24 rfl size22 rfl rfl) ?_
    refine dr_op rfl rfl (opr_load (i := 2) rfl rfl rfl Tryd.underlying22 rfl size22 (E_length _) (EE_at (k := 1) rfl rfl rfl)) ?_
    refine dr_op rfl rfl (opr_call rfl rfl rfl Tryd.func17 (by kernel_rfl) rfl (sIs_ct RR_zero RR_one RR_one hx1 hy1)) ?_
    refine dr_op rfl rfl (opr_eqlBb rfl rfl rfl Tryd.underlying4 (beq_self_eq_true _)) ?_
    refine dr_op rfl rfl (opr_pickT rfl rfl rfl) ?_
    refine dr_last rfl rfl (opr_assign rfl rfl) ?_
    refine ⟨rfl, ?_⟩
    refine at_then ?_
    refine at_ret ?_
    refine done_of (res1 Tryd.results3 (res_tmp rfl)) ⟨rfl, rfl⟩ (by repeat (first | exact List.Sublist.refl _ | apply List.Sublist.cons))
end Go.Proofs.YtjanppnnioeifaaDoor
