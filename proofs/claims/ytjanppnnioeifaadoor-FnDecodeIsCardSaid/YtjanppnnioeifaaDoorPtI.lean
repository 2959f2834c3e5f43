/- The thin package's points. -/
import Derived.Test.YtjanppnnioeifaaDoorPtS
namespace Go.Proofs.YtjanppnnioeifaaDoor
open Go
set_option maxRecDepth 100000
theorem size84 : (Tryd.prog.info? 84).map (·.size) = some 280 := by kernel_rfl
theorem aff_rep {x z : Nat} (hz : el z ≠ 0) : el (x * invp z % pp) * el z = el x := aff_mul hz
theorem aff_one {a : Nat} (ha : a < pp) : a * invp 1 % pp = a := by
  have h := aff_mul (x := a) (z := 1) (by rw [el_one]; exact isF_pp.one)
  rw [el_one] at h
  refine el_inj (aff_lt _ _) ha ?_
  rw [← h]
  generalize el (a * invp 1 % pp) = c
  grind
theorem sum_id {x y xa ya : Fin pp} (s : Sum (el dP) x y 0 1 xa ya) : xa = x ∧ ya = y := by
  obtain ⟨h1, h2⟩ := s
  generalize el dP = d at *
  constructor
  · clear h2; grind
  · clear h1; grind
theorem on_id : On (el dP) (el 0) (el 1) := by
  unfold On
  rw [el_zero, el_one]
  generalize el dP = d
  grind
theorem on_negx {d x y : Fin pp} (h : On d x y) : On d (-x) y := by
  unfold On at *
  have e : (-x) * (-x) = x * x := by clear h; grind
  rw [e]; exact h
theorem aff1 (a : Nat) : el (a * invp 1 % pp) = el a := by
  have h := aff_mul (x := a) (z := 1) (by rw [el_one]; exact isF_pp.one)
  rw [el_one] at h
  rw [← h]
  generalize el (a * invp 1 % pp) = c
  grind
theorem sum_neg {x y xa ya : Fin pp} (h : On (el dP) x y) (s : Sum (el dP) x y (-x) y xa ya) : xa = 0 ∧ ya = 1 := by
  have h1 := den_plus goldC h (on_negx h)
  have h2 := den_minus goldC h (on_negx h)
  obtain ⟨sx, sy⟩ := s
  unfold On at h
  constructor
  · apply isF_pp.cancel h1
    rw [Fin.mul_comm, sx]
    clear sx sy h1 h2 h
    generalize el dP = d
    grind
  · apply isF_pp.cancel h2
    rw [Fin.mul_comm, sy]
    clear sx sy h1 h2
    generalize el dP = d at *
    grind
theorem cAdd_ct {M : Mem} {ig Tp jd Td : Nat} (hG : M[ig]? = some ⟨3, Tp, EE [pp]⟩) (hD : M[jd]? = some ⟨0, Td, EE [dP]⟩) {ip gP TP x1 y1 : Nat} (hP : M[ip]? = some ⟨gP, TP, EE [x1, y1, 1, x1, y1]⟩) (hx1 : x1 < RR) (hy1 : y1 < RR) {iq gQ TQ x2 y2 : Nat} (hQ : M[iq]? = some ⟨gQ, TQ, EE [x2, y2, 1, x2, y2]⟩) (hx2 : x2 < RR) (hy2 : y2 < RR) : Ct Tryd.prog 69 #[.agg ([] : List Value).toArray, .pointer (some ⟨gP, 0, none⟩), .pointer (some ⟨gQ, 0, none⟩)] M (fun v M' => ∃ g x3 y3 z3 a3 b3, x3 < RR ∧ y3 < RR ∧ z3 < RR ∧ a3 < RR ∧ b3 < RR ∧ AddEl (el x1) (el y1) (el 1) (el x1) (el y1) (el x2) (el y2) (el 1) (el x2) (el y2) (el x3) (el y3) (el z3) (el a3) (el b3) ∧ v = .pointer (some ⟨g, 0, none⟩) ∧ M' = ⟨g, 84, EE [x3, y3, z3, a3, b3]⟩ :: M) := by
  refine ct_of (vs := [.agg ([] : List Value).toArray, .pointer (some ⟨gP, 0, none⟩), .pointer (some ⟨gQ, 0, none⟩)]) Tryd.func69 rfl Tryd.ntmps69 rfl fun w0 => ?_
  refine at_seq ?_
  refine at_region ?_
  refine at_n rfl rfl (opr_box rfl rfl rfl) ?_
  intro g0
  refine at_d rfl rfl (opr_assign rfl rfl) ?_
  refine at_nil ?_
  refine at_then ?_
  refine at_seq ?_
  refine at_region ?_
  refine at_d rfl rfl (opr_move rfl rfl) ?_
  refine at_d rfl rfl (opr_nilCheck rfl rfl) ?_
  refine at_d rfl rfl (opr_load (i := ip + 1) rfl rfl hP Tryd.underlying84 rfl size84 (EE_length _) (EE_all rfl)) ?_
  refine at_n rfl rfl (opr_alloc rfl zero84 rfl) ?_
  intro g1
  refine at_d rfl rfl (opr_store (i := 0) rfl rfl rfl rfl rfl size84 (EE_length _) (by rw [EE_length]; exact Nat.le_of_ble_eq_true rfl) (EE_flat _) (EE_over rfl)) ?_
  refine at_nil ?_
  refine at_then ?_
  refine at_seq ?_
  refine at_region ?_
  refine at_d rfl rfl (opr_move rfl rfl) ?_
  refine at_c rfl rfl (opr_call rfl rfl rfl Tryd.func70 (by kernel_rfl) rfl (add_ct (jd := jd + 2) (ip := 0) (iq := iq + 2) hD rfl (by omega) hx1 hy1 (by decide) hx1 hy1 hQ (by omega) hx2 hy2 (by decide) hx2 hy2)) ?_
  rintro _ _ ⟨x3, y3, z3, a3, b3, hx3, hy3, hz3, ha3, hb3, hA, rfl, rfl⟩
  refine at_nil ?_
  refine at_then ?_
  refine at_seq ?_
  refine at_region ?_
  refine at_d rfl rfl (opr_assign rfl rfl) ?_
  refine at_nil ?_
  refine at_then ?_
  refine at_ret ?_
  exact done_of (res1 Tryd.results69 (res_tmp rfl)) ⟨_, _, _, _, _, _, hx3, hy3, hz3, ha3, hb3, hA, rfl, rfl⟩ (by repeat (first | exact List.Sublist.refl _ | apply List.Sublist.cons_cons | apply List.Sublist.cons))
theorem pDouble_ct {M : Mem} {ig Tp jd Td : Nat} (hG : M[ig]? = some ⟨3, Tp, EE [pp]⟩) (hD : M[jd]? = some ⟨0, Td, EE [dP]⟩) {ip gP TP x1 y1 : Nat} (hP : M[ip]? = some ⟨gP, TP, EE [x1, y1, 1, x1, y1]⟩) (hx1 : x1 < RR) (hy1 : y1 < RR) (hne : ip ≠ jd) : Ct Tryd.prog 68 #[.pointer (some ⟨gP, 0, none⟩)] M (fun v M' => ∃ x3 y3 z3 a3 b3, x3 < RR ∧ y3 < RR ∧ z3 < RR ∧ a3 < RR ∧ b3 < RR ∧ AddEl (el x1) (el y1) (el 1) (el x1) (el y1) (el x1) (el y1) (el 1) (el x1) (el y1) (el x3) (el y3) (el z3) (el a3) (el b3) ∧ v = .tuple #[] ∧ M' = M.set ip ⟨gP, TP, EE [x3, y3, z3, a3, b3]⟩) := by
  refine ct_of (vs := [.pointer (some ⟨gP, 0, none⟩)]) Tryd.func68 rfl Tryd.ntmps68 rfl fun w0 => ?_
  refine at_region ?_
  refine at_d rfl rfl (opr_move rfl rfl) ?_
  refine at_d rfl rfl (opr_move rfl rfl) ?_
  refine at_c rfl rfl (opr_call rfl rfl rfl Tryd.func70 (by kernel_rfl) rfl (addS_ct (jd := jd) (ip := ip) hD hP hne hx1 hy1 (by decide) hx1 hy1)) ?_
  intro v M' hv
  refine at_nil ?_
  obtain ⟨x3, y3, z3, a3, b3, h1, h2, h3, h4, h5, h6, rfl, rfl⟩ := hv
  exact done_of (res0 Tryd.results68) ⟨_, _, _, _, _, h1, h2, h3, h4, h5, h6, rfl, rfl⟩ (List.Sublist.refl _)
theorem cDouble_ct {M : Mem} {ig Tp jd Td : Nat} (hG : M[ig]? = some ⟨3, Tp, EE [pp]⟩) (hD : M[jd]? = some ⟨0, Td, EE [dP]⟩) {ip gP TP x1 y1 : Nat} (hP : M[ip]? = some ⟨gP, TP, EE [x1, y1, 1, x1, y1]⟩) (hx1 : x1 < RR) (hy1 : y1 < RR) : Ct Tryd.prog 67 #[.agg ([] : List Value).toArray, .pointer (some ⟨gP, 0, none⟩)] M (fun v M' => ∃ g x3 y3 z3 a3 b3, x3 < RR ∧ y3 < RR ∧ z3 < RR ∧ a3 < RR ∧ b3 < RR ∧ AddEl (el x1) (el y1) (el 1) (el x1) (el y1) (el x1) (el y1) (el 1) (el x1) (el y1) (el x3) (el y3) (el z3) (el a3) (el b3) ∧ v = .pointer (some ⟨g, 0, none⟩) ∧ M' = ⟨g, 84, EE [x3, y3, z3, a3, b3]⟩ :: M) := by
  refine ct_of (vs := [.agg ([] : List Value).toArray, .pointer (some ⟨gP, 0, none⟩)]) Tryd.func67 rfl Tryd.ntmps67 rfl fun w0 => ?_
  refine at_seq ?_
  refine at_region ?_
  refine at_n rfl rfl (opr_box rfl rfl rfl) ?_
  intro g0
  refine at_d rfl rfl (opr_assign rfl rfl) ?_
  refine at_nil ?_
  refine at_then ?_
  refine at_seq ?_
  refine at_region ?_
  refine at_d rfl rfl (opr_move rfl rfl) ?_
  refine at_d rfl rfl (opr_nilCheck rfl rfl) ?_
  refine at_d rfl rfl (opr_load (i := ip + 1) rfl rfl hP Tryd.underlying84 rfl size84 (EE_length _) (EE_all rfl)) ?_
  refine at_n rfl rfl (opr_alloc rfl zero84 rfl) ?_
  intro g1
  refine at_d rfl rfl (opr_store (i := 0) rfl rfl rfl rfl rfl size84 (EE_length _) (by rw [EE_length]; exact Nat.le_of_ble_eq_true rfl) (EE_flat _) (EE_over rfl)) ?_
  refine at_nil ?_
  refine at_then ?_
  refine at_seq ?_
  refine at_region ?_
  refine at_c rfl rfl (opr_call rfl rfl rfl Tryd.func68 (by kernel_rfl) rfl (pDouble_ct (ig := ig + 2) (jd := jd + 2) (ip := 0) hG hD rfl hx1 hy1 (by omega))) ?_
  rintro _ _ ⟨x3, y3, z3, a3, b3, hx3, hy3, hz3, ha3, hb3, hA, rfl, rfl⟩
  refine at_nil ?_
  refine at_then ?_
  refine at_seq ?_
  refine at_region ?_
  refine at_d rfl rfl (opr_assign rfl rfl) ?_
  refine at_nil ?_
  refine at_then ?_
  refine at_ret ?_
  exact done_of (res1 Tryd.results67 (res_tmp rfl)) ⟨_, _, _, _, _, _, hx3, hy3, hz3, ha3, hb3, hA, rfl, rfl⟩ (by repeat (first | exact List.Sublist.refl _ | apply List.Sublist.cons_cons | apply List.Sublist.cons))
theorem iPlus_ct {M : Mem} {ig Tp jd Td : Nat} (hG : M[ig]? = some ⟨3, Tp, EE [pp]⟩) (hD : M[jd]? = some ⟨0, Td, EE [dP]⟩) {x1 y1 : Nat} (hx1 : x1 < RR) (hy1 : y1 < RR) (o1 : On (el dP) (el x1) (el y1)) {x2 y2 : Nat} (hx2 : x2 < RR) (hy2 : y2 < RR) (o2 : On (el dP) (el x2) (el y2)) : Ct Tryd.prog 39 #[.agg (EE [x1, y1]).toArray, .agg (EE [x2, y2]).toArray] M (fun v M' => ∃ xa ya, xa < pp ∧ ya < pp ∧ Sum (el dP) (el x1) (el y1) (el x2) (el y2) (el xa) (el ya) ∧ v = .tuple #[.agg (EE [xa, ya]).toArray, .bool true] ∧ M' = M) := by
  refine ct_of (vs := [.agg (EE [x1, y1]).toArray, .agg (EE [x2, y2]).toArray]) Tryd.func39 rfl Tryd.ntmps39 rfl fun w0 => ?_
  refine at_seq ?_
  refine at_region ?_
  refine at_n rfl rfl (opr_box rfl rfl rfl) ?_
  intro g0
  refine at_n rfl rfl (opr_box rfl rfl rfl) ?_
  intro g1
  refine at_n rfl rfl (opr_alloc rfl zero24 rfl) ?_
  intro g2
  refine at_d rfl rfl (opr_assign rfl rfl) ?_
  refine at_nil ?_
  refine at_then ?_
  refine at_seq ?_
  refine at_region ?_
  refine at_d rfl rfl (opr_load (i := 2) rfl rfl rfl Tryd.underlying24 rfl size24 (EE_length _) (EE_all rfl)) ?_
  refine at_c rfl rfl (opr_call rfl rfl rfl Tryd.func43 (by kernel_rfl) rfl (pointT_ct (ig := ig + 3) (jd := jd + 3) hG hD hx1 hy1 o1)) ?_
  rintro _ _ ⟨gN1, rfl, rfl⟩
  refine at_d rfl rfl (opr_move rfl rfl) ?_
  refine at_d rfl rfl (opr_extract rfl rfl rfl) ?_
  refine at_d rfl rfl (opr_extract rfl rfl rfl) ?_
  refine at_d rfl rfl (opr_assign rfl rfl) ?_
  refine at_d rfl rfl (opr_assign rfl rfl) ?_
  refine at_nil ?_
  refine at_then ?_
  refine at_seq ?_
  refine at_region ?_
  refine at_d rfl rfl (opr_load (i := 2) rfl rfl rfl Tryd.underlying24 rfl size24 (EE_length _) (EE_all rfl)) ?_
  refine at_c rfl rfl (opr_call rfl rfl rfl Tryd.func43 (by kernel_rfl) rfl (pointT_ct (ig := ig + 4) (jd := jd + 4) hG hD hx2 hy2 o2)) ?_
  rintro _ _ ⟨gN2, rfl, rfl⟩
  refine at_d rfl rfl (opr_move rfl rfl) ?_
  refine at_d rfl rfl (opr_extract rfl rfl rfl) ?_
  refine at_d rfl rfl (opr_extract rfl rfl rfl) ?_
  refine at_d rfl rfl (opr_assign rfl rfl) ?_
  refine at_d rfl rfl (opr_assign rfl rfl) ?_
  refine at_nil ?_
  refine at_then ?_
  refine at_seq ?_
  refine at_seq ?_
  refine at_region ?_
  refine at_d rfl rfl (opr_move rfl rfl) ?_
  refine at_d rfl rfl (opr_unOp (u := .bool false) rfl rfl (fun _ => rfl)) ?_
  refine at_d rfl rfl (opr_move rfl rfl) ?_
  refine at_d rfl rfl (opr_move rfl rfl) ?_
  refine at_d rfl rfl (opr_unOp (u := .bool false) rfl rfl (fun _ => rfl)) ?_
  refine at_d rfl rfl (opr_pickN rfl rfl rfl) ?_
  refine at_nil ?_
  refine at_then ?_
  refine at_cond_false rfl ?_
  refine at_skip ?_
  refine at_then ?_
  refine at_seq ?_
  refine at_region ?_
  refine at_d rfl rfl (opr_buildE (ds := []) rfl rfl builte92 rfl) ?_
  refine at_d rfl rfl (opr_move rfl rfl) ?_
  refine at_d rfl rfl (opr_move rfl rfl) ?_
  refine at_c rfl rfl (opr_call rfl rfl rfl Tryd.func69 (by kernel_rfl) rfl (cAdd_ct (ig := ig + 5) (jd := jd + 5) (ip := 1) (iq := 0) hG hD rfl hx1 hy1 rfl hx2 hy2)) ?_
  rintro _ _ ⟨gR, x3, y3, z3, a3, b3, hx3, hy3, hz3, ha3, hb3, hA, rfl, rfl⟩
  refine at_d rfl rfl (opr_call rfl rfl rfl Tryd.func57 (by kernel_rfl) rfl (plain_ct (ig := ig + 6) (ip := 0) hG rfl (by omega) hx3 hy3 hz3)) ?_
  refine at_d rfl rfl (opr_store (i := 3) rfl rfl rfl rfl rfl size24 (EE_length _) (by rw [EE_length]; exact Nat.le_of_ble_eq_true rfl) (EE_flat _) (EE_over rfl)) ?_
  refine at_d rfl rfl (opr_assign rfl rfl) ?_
  refine at_nil ?_
  refine at_then ?_
  refine at_ret ?_
  exact done_of (res2 Tryd.results39 (res_cell (i := 3) rfl rfl Tryd.underlying24 rfl size24 (EE_length _) (EE_all rfl)) (res_tmp rfl)) ⟨_, _, aff_lt _ _, aff_lt _ _, hA.sum o1 o2 (aff_mul (hA.ne o1 o2)) (aff_mul (hA.ne o1 o2)), rfl, rfl⟩ (by repeat (first | exact List.Sublist.refl _ | apply List.Sublist.cons))
theorem iPlusIn_ct {M : Mem} {ig Tp jd Td : Nat} (hG : M[ig]? = some ⟨3, Tp, EE [pp]⟩) (hD : M[jd]? = some ⟨0, Td, EE [dP]⟩) {x1 y1 : Nat} (hx1 : x1 < RR) (hy1 : y1 < RR) (o1 : On (el dP) (el x1) (el y1)) {x2 y2 : Nat} (hx2 : x2 < RR) (hy2 : y2 < RR) (o2 : On (el dP) (el x2) (el y2)) : Ct Tryd.prog 40 #[.agg (EE [x1, y1]).toArray, .agg (EE [x2, y2]).toArray] M (fun v M' => ∃ xa ya, xa < pp ∧ ya < pp ∧ Sum (el dP) (el x1) (el y1) (el x2) (el y2) (el xa) (el ya) ∧ v = .tuple #[.agg (EE [xa, ya]).toArray, .bool true] ∧ M' = M) := by
  refine ct_of (vs := [.agg (EE [x1, y1]).toArray, .agg (EE [x2, y2]).toArray]) Tryd.func40 rfl Tryd.ntmps40 rfl fun w0 => ?_
  refine at_seq ?_
  refine at_region ?_
  refine at_n rfl rfl (opr_box rfl rfl rfl) ?_
  intro g0
  refine at_n rfl rfl (opr_box rfl rfl rfl) ?_
  intro g1
  refine at_n rfl rfl (opr_alloc rfl zero24 rfl) ?_
  intro g2
  refine at_d rfl rfl (opr_assign rfl rfl) ?_
  refine at_nil ?_
  refine at_then ?_
  refine at_seq ?_
  refine at_region ?_
  refine at_d rfl rfl (opr_load (i := 2) rfl rfl rfl Tryd.underlying24 rfl size24 (EE_length _) (EE_all rfl)) ?_
  refine at_c rfl rfl (opr_call rfl rfl rfl Tryd.func43 (by kernel_rfl) rfl (pointT_ct (ig := ig + 3) (jd := jd + 3) hG hD hx1 hy1 o1)) ?_
  rintro _ _ ⟨gN1, rfl, rfl⟩
  refine at_d rfl rfl (opr_move rfl rfl) ?_
  refine at_d rfl rfl (opr_extract rfl rfl rfl) ?_
  refine at_d rfl rfl (opr_extract rfl rfl rfl) ?_
  refine at_d rfl rfl (opr_assign rfl rfl) ?_
  refine at_d rfl rfl (opr_assign rfl rfl) ?_
  refine at_nil ?_
  refine at_then ?_
  refine at_seq ?_
  refine at_region ?_
  refine at_d rfl rfl (opr_load (i := 2) rfl rfl rfl Tryd.underlying24 rfl size24 (EE_length _) (EE_all rfl)) ?_
  refine at_c rfl rfl (opr_call rfl rfl rfl Tryd.func43 (by kernel_rfl) rfl (pointT_ct (ig := ig + 4) (jd := jd + 4) hG hD hx2 hy2 o2)) ?_
  rintro _ _ ⟨gN2, rfl, rfl⟩
  refine at_d rfl rfl (opr_move rfl rfl) ?_
  refine at_d rfl rfl (opr_extract rfl rfl rfl) ?_
  refine at_d rfl rfl (opr_extract rfl rfl rfl) ?_
  refine at_d rfl rfl (opr_assign rfl rfl) ?_
  refine at_d rfl rfl (opr_assign rfl rfl) ?_
  refine at_nil ?_
  refine at_then ?_
  refine at_seq ?_
  refine at_seq ?_
  refine at_region ?_
  refine at_d rfl rfl (opr_move rfl rfl) ?_
  refine at_d rfl rfl (opr_unOp (u := .bool false) rfl rfl (fun _ => rfl)) ?_
  refine at_d rfl rfl (opr_move rfl rfl) ?_
  refine at_d rfl rfl (opr_move rfl rfl) ?_
  refine at_d rfl rfl (opr_unOp (u := .bool false) rfl rfl (fun _ => rfl)) ?_
  refine at_d rfl rfl (opr_pickN rfl rfl rfl) ?_
  refine at_nil ?_
  refine at_then ?_
  refine at_cond_false rfl ?_
  refine at_skip ?_
  refine at_then ?_
  refine at_seq ?_
  refine at_region ?_
  refine at_d rfl rfl (opr_move rfl rfl) ?_
  refine at_d rfl rfl (opr_move rfl rfl) ?_
  refine at_c rfl rfl (opr_call rfl rfl rfl Tryd.func70 (by kernel_rfl) rfl (add_ct (jd := jd + 5) (ip := 1) (iq := 0) hD rfl (by omega) hx1 hy1 (by decide) hx1 hy1 rfl (by omega) hx2 hy2 (by decide) hx2 hy2)) ?_
  rintro _ _ ⟨x3, y3, z3, a3, b3, hx3, hy3, hz3, ha3, hb3, hA, rfl, rfl⟩
  refine at_nil ?_
  refine at_then ?_
  refine at_seq ?_
  refine at_region ?_
  refine at_d rfl rfl (opr_move rfl rfl) ?_
  refine at_d rfl rfl (opr_call rfl rfl rfl Tryd.func57 (by kernel_rfl) rfl (plain_ct (ig := ig + 5) (ip := 1) hG rfl (by omega) hx3 hy3 hz3)) ?_
  refine at_d rfl rfl (opr_store (i := 2) rfl rfl rfl rfl rfl size24 (EE_length _) (by rw [EE_length]; exact Nat.le_of_ble_eq_true rfl) (EE_flat _) (EE_over rfl)) ?_
  refine at_d rfl rfl (opr_assign rfl rfl) ?_
  refine at_nil ?_
  refine at_then ?_
  refine at_ret ?_
  exact done_of (res2 Tryd.results40 (res_cell (i := 2) rfl rfl Tryd.underlying24 rfl size24 (EE_length _) (EE_all rfl)) (res_tmp rfl)) ⟨_, _, aff_lt _ _, aff_lt _ _, hA.sum o1 o2 (aff_mul (hA.ne o1 o2)) (aff_mul (hA.ne o1 o2)), rfl, rfl⟩ (by repeat (first | exact List.Sublist.refl _ | apply List.Sublist.cons))
theorem iTwice_ct {M : Mem} {ig Tp jd Td : Nat} (hG : M[ig]? = some ⟨3, Tp, EE [pp]⟩) (hD : M[jd]? = some ⟨0, Td, EE [dP]⟩) {x1 y1 : Nat} (hx1 : x1 < RR) (hy1 : y1 < RR) (o1 : On (el dP) (el x1) (el y1)) : Ct Tryd.prog 36 #[.agg (EE [x1, y1]).toArray] M (fun v M' => ∃ xa ya, xa < pp ∧ ya < pp ∧ Sum (el dP) (el x1) (el y1) (el x1) (el y1) (el xa) (el ya) ∧ v = .tuple #[.agg (EE [xa, ya]).toArray, .bool true] ∧ M' = M) := by
  refine ct_of (vs := [.agg (EE [x1, y1]).toArray]) Tryd.func36 rfl Tryd.ntmps36 rfl fun w0 => ?_
  refine at_seq ?_
  refine at_region ?_
  refine at_n rfl rfl (opr_box rfl rfl rfl) ?_
  intro g0
  refine at_n rfl rfl (opr_alloc rfl zero24 rfl) ?_
  intro g1
  refine at_d rfl rfl (opr_assign rfl rfl) ?_
  refine at_nil ?_
  refine at_then ?_
  refine at_seq ?_
  refine at_region ?_
  refine at_d rfl rfl (opr_load (i := 1) rfl rfl rfl Tryd.underlying24 rfl size24 (EE_length _) (EE_all rfl)) ?_
  refine at_c rfl rfl (opr_call rfl rfl rfl Tryd.func43 (by kernel_rfl) rfl (pointT_ct (ig := ig + 2) (jd := jd + 2) hG hD hx1 hy1 o1)) ?_
  rintro _ _ ⟨gN1, rfl, rfl⟩
  refine at_d rfl rfl (opr_move rfl rfl) ?_
  refine at_d rfl rfl (opr_extract rfl rfl rfl) ?_
  refine at_d rfl rfl (opr_extract rfl rfl rfl) ?_
  refine at_d rfl rfl (opr_assign rfl rfl) ?_
  refine at_d rfl rfl (opr_assign rfl rfl) ?_
  refine at_nil ?_
  refine at_then ?_
  refine at_seq ?_
  refine at_seq ?_
  refine at_region ?_
  refine at_d rfl rfl (opr_move rfl rfl) ?_
  refine at_d rfl rfl (opr_unOp (u := .bool false) rfl rfl (fun _ => rfl)) ?_
  refine at_nil ?_
  refine at_then ?_
  refine at_cond_false rfl ?_
  refine at_skip ?_
  refine at_then ?_
  refine at_seq ?_
  refine at_region ?_
  refine at_d rfl rfl (opr_buildE (ds := []) rfl rfl builte92 rfl) ?_
  refine at_d rfl rfl (opr_move rfl rfl) ?_
  refine at_c rfl rfl (opr_call rfl rfl rfl Tryd.func67 (by kernel_rfl) rfl (cDouble_ct (ig := ig + 3) (jd := jd + 3) (ip := 0) hG hD rfl hx1 hy1)) ?_
  rintro _ _ ⟨gR, x3, y3, z3, a3, b3, hx3, hy3, hz3, ha3, hb3, hA, rfl, rfl⟩
  refine at_d rfl rfl (opr_call rfl rfl rfl Tryd.func57 (by kernel_rfl) rfl (plain_ct (ig := ig + 4) (ip := 0) hG rfl (by omega) hx3 hy3 hz3)) ?_
  refine at_d rfl rfl (opr_store (i := 2) rfl rfl rfl rfl rfl size24 (EE_length _) (by rw [EE_length]; exact Nat.le_of_ble_eq_true rfl) (EE_flat _) (EE_over rfl)) ?_
  refine at_d rfl rfl (opr_assign rfl rfl) ?_
  refine at_nil ?_
  refine at_then ?_
  refine at_ret ?_
  exact done_of (res2 Tryd.results36 (res_cell (i := 2) rfl rfl Tryd.underlying24 rfl size24 (EE_length _) (EE_all rfl)) (res_tmp rfl)) ⟨_, _, aff_lt _ _, aff_lt _ _, hA.sum o1 o1 (aff_mul (hA.ne o1 o1)) (aff_mul (hA.ne o1 o1)), rfl, rfl⟩ (by repeat (first | exact List.Sublist.refl _ | apply List.Sublist.cons))
theorem iTwiceIn_ct {M : Mem} {ig Tp jd Td : Nat} (hG : M[ig]? = some ⟨3, Tp, EE [pp]⟩) (hD : M[jd]? = some ⟨0, Td, EE [dP]⟩) {x1 y1 : Nat} (hx1 : x1 < RR) (hy1 : y1 < RR) (o1 : On (el dP) (el x1) (el y1)) : Ct Tryd.prog 37 #[.agg (EE [x1, y1]).toArray] M (fun v M' => ∃ xa ya, xa < pp ∧ ya < pp ∧ Sum (el dP) (el x1) (el y1) (el x1) (el y1) (el xa) (el ya) ∧ v = .tuple #[.agg (EE [xa, ya]).toArray, .bool true] ∧ M' = M) := by
  refine ct_of (vs := [.agg (EE [x1, y1]).toArray]) Tryd.func37 rfl Tryd.ntmps37 rfl fun w0 => ?_
  refine at_seq ?_
  refine at_region ?_
  refine at_n rfl rfl (opr_box rfl rfl rfl) ?_
  intro g0
  refine at_n rfl rfl (opr_alloc rfl zero24 rfl) ?_
  intro g1
  refine at_d rfl rfl (opr_assign rfl rfl) ?_
  refine at_nil ?_
  refine at_then ?_
  refine at_seq ?_
  refine at_region ?_
  refine at_d rfl rfl (opr_load (i := 1) rfl rfl rfl Tryd.underlying24 rfl size24 (EE_length _) (EE_all rfl)) ?_
  refine at_c rfl rfl (opr_call rfl rfl rfl Tryd.func43 (by kernel_rfl) rfl (pointT_ct (ig := ig + 2) (jd := jd + 2) hG hD hx1 hy1 o1)) ?_
  rintro _ _ ⟨gN1, rfl, rfl⟩
  refine at_d rfl rfl (opr_move rfl rfl) ?_
  refine at_d rfl rfl (opr_extract rfl rfl rfl) ?_
  refine at_d rfl rfl (opr_extract rfl rfl rfl) ?_
  refine at_d rfl rfl (opr_assign rfl rfl) ?_
  refine at_d rfl rfl (opr_assign rfl rfl) ?_
  refine at_nil ?_
  refine at_then ?_
  refine at_seq ?_
  refine at_seq ?_
  refine at_region ?_
  refine at_d rfl rfl (opr_move rfl rfl) ?_
  refine at_d rfl rfl (opr_unOp (u := .bool false) rfl rfl (fun _ => rfl)) ?_
  refine at_nil ?_
  refine at_then ?_
  refine at_cond_false rfl ?_
  refine at_skip ?_
  refine at_then ?_
  refine at_seq ?_
  refine at_region ?_
  refine at_d rfl rfl (opr_move rfl rfl) ?_
  refine at_c rfl rfl (opr_call rfl rfl rfl Tryd.func68 (by kernel_rfl) rfl (pDouble_ct (ig := ig + 3) (jd := jd + 3) (ip := 0) hG hD rfl hx1 hy1 (by omega))) ?_
  rintro _ _ ⟨x3, y3, z3, a3, b3, hx3, hy3, hz3, ha3, hb3, hA, rfl, rfl⟩
  refine at_nil ?_
  refine at_then ?_
  refine at_seq ?_
  refine at_region ?_
  refine at_d rfl rfl (opr_move rfl rfl) ?_
  refine at_d rfl rfl (opr_call rfl rfl rfl Tryd.func57 (by kernel_rfl) rfl (plain_ct (ig := ig + 3) (ip := 0) hG rfl (by omega) hx3 hy3 hz3)) ?_
  refine at_d rfl rfl (opr_store (i := 1) rfl rfl rfl rfl rfl size24 (EE_length _) (by rw [EE_length]; exact Nat.le_of_ble_eq_true rfl) (EE_flat _) (EE_over rfl)) ?_
  refine at_d rfl rfl (opr_assign rfl rfl) ?_
  refine at_nil ?_
  refine at_then ?_
  refine at_ret ?_
  exact done_of (res2 Tryd.results37 (res_cell (i := 1) rfl rfl Tryd.underlying24 rfl size24 (EE_length _) (EE_all rfl)) (res_tmp rfl)) ⟨_, _, aff_lt _ _, aff_lt _ _, hA.sum o1 o1 (aff_mul (hA.ne o1 o1)) (aff_mul (hA.ne o1 o1)), rfl, rfl⟩ (by repeat (first | exact List.Sublist.refl _ | apply List.Sublist.cons))
theorem cId_ct {M : Mem} : Ct Tryd.prog 62 #[.agg ([] : List Value).toArray] M (fun v M' => ∃ g, v = .pointer (some ⟨g, 0, none⟩) ∧ M' = ⟨g, 84, EE [0, 1, 1, 0, 0]⟩ :: M) := by
  refine ct_of (vs := [.agg ([] : List Value).toArray]) Tryd.func62 rfl Tryd.ntmps62 rfl fun w0 => ?_
  refine at_seq ?_
  refine at_region ?_
  refine at_n rfl rfl (opr_box rfl rfl rfl) ?_
  intro g0
  refine at_d rfl rfl (opr_assign rfl rfl) ?_
  refine at_nil ?_
  refine at_then ?_
  refine at_seq ?_
  refine at_region ?_
  refine at_d rfl rfl (opr_call rfl rfl rfl Tryd.func83 (by kernel_rfl) rfl (fOne_ct)) ?_
  refine at_d rfl rfl (opr_call rfl rfl rfl Tryd.func83 (by kernel_rfl) rfl (fOne_ct)) ?_
  refine at_d rfl rfl (opr_buildE (ds := EE [0, 1, 1, 0, 0]) rfl rfl (builtp84 [(1, 1), (2, 1)] rfl) rfl) ?_
  refine at_n rfl rfl (opr_box rfl rfl rfl) ?_
  intro g1
  refine at_d rfl rfl (opr_assign rfl rfl) ?_
  refine at_nil ?_
  refine at_then ?_
  refine at_ret ?_
  exact done_of (res1 Tryd.results62 (res_tmp rfl)) ⟨_, rfl, rfl⟩ (by repeat (first | exact List.Sublist.refl _ | apply List.Sublist.cons_cons | apply List.Sublist.cons))
theorem iId_ct {M : Mem} {ig Tp : Nat} (hG : M[ig]? = some ⟨3, Tp, EE [pp]⟩) : Ct Tryd.prog 30 #[] M (Det (.agg (EE [0, 1]).toArray) M) := by
  refine ct_of (vs := []) Tryd.func30 rfl Tryd.ntmps30 rfl fun w0 => ?_
  refine at_seq ?_
  refine at_region ?_
  refine at_n rfl rfl (opr_alloc rfl zero24 rfl) ?_
  intro g0
  refine at_nil ?_
  refine at_then ?_
  refine at_seq ?_
  refine at_region ?_
  refine at_d rfl rfl (opr_buildE (ds := []) rfl rfl builte92 rfl) ?_
  refine at_c rfl rfl (opr_call rfl rfl rfl Tryd.func62 (by kernel_rfl) rfl (cId_ct)) ?_
  rintro _ _ ⟨gR, rfl, rfl⟩
  refine at_d rfl rfl (opr_call rfl rfl rfl Tryd.func57 (by kernel_rfl) rfl (plain_ct (ig := ig + 2) (ip := 0) hG rfl (by omega) RR_zero RR_one RR_one)) ?_
  refine at_d rfl rfl (opr_store (i := 1) rfl rfl rfl rfl rfl size24 (EE_length _) (by rw [EE_length]; exact Nat.le_of_ble_eq_true rfl) (EE_flat _) (EE_over rfl)) ?_
  refine at_nil ?_
  refine at_then ?_
  refine at_ret ?_
  refine done_of (res1 Tryd.results30 (res_cell (i := 1) rfl rfl Tryd.underlying24 rfl size24 (EE_length _) (EE_all rfl))) ⟨?_, rfl⟩ (by repeat (first | exact List.Sublist.refl _ | apply List.Sublist.cons))
  rw [aff_one (by decide), aff_one (by decide)]
theorem pNeg_ct {M : Mem} {ig Tp : Nat} (hG : M[ig]? = some ⟨3, Tp, EE [pp]⟩) {ip gP TP x y : Nat} (hP : M[ip]? = some ⟨gP, TP, EE [x, y, 1, x, y]⟩) (hne : ip ≠ ig) (hx : x < RR) (hy : y < RR) : Ct Tryd.prog 71 #[.pointer (some ⟨gP, 0, none⟩)] M (fun v M' => ∃ n a, n < RR ∧ a < RR ∧ el n = -el x ∧ v = .tuple #[] ∧ M' = M.set ip ⟨gP, TP, EE [n, y, 1, a, y]⟩) := by
  refine ct_of (vs := [.pointer (some ⟨gP, 0, none⟩)]) Tryd.func71 rfl Tryd.ntmps71 rfl fun w0 => ?_
  refine at_seq ?_
  refine at_drawR (by kernel_rfl) (by kernel_rfl) (by kernel_rfl) (List.cons_ne_nil _ _) ?_
  refine drR_op rfl rfl (opr_move rfl rfl) ?_
  refine drR_op rfl rfl (opr_nilCheck rfl rfl) ?_
  refine drR_op rfl rfl (opr_fieldAddr rfl rfl Tryd.underlying84 rfl size82 rfl rfl) ?_
  refine drR_op rfl rfl (opr_move rfl rfl) ?_
  refine drR_op rfl rfl (opr_nilCheck rfl rfl) ?_
  refine drR_op rfl rfl (opr_fieldAddr rfl rfl Tryd.underlying84 rfl size82 rfl rfl) ?_
  refine drR_last (v := .tuple #[]) rfl rfl (opr_call rfl rfl rfl Tryd.func87 (by kernel_rfl) rfl (Neg_el (ig := ig) (iz := ip) (ix := ip) (kz := 0) (kx := 0) hG hP (Nat.le_of_ble_eq_true rfl) rfl hP rfl rfl hx)) ?_ ?_
  · rintro _ _ ⟨_, _, _, rfl, _⟩; rfl
  rintro _ _ ⟨r0, hr0, f0, rfl, rfl⟩
  have hb1 : (M.set ip ⟨gP, TP, EE [r0, y, 1, x, y]⟩)[ip]? = some ⟨gP, TP, EE [r0, y, 1, x, y]⟩ := get_set hP
  have hb1_3 : (M.set ip ⟨gP, TP, EE [r0, y, 1, x, y]⟩)[ig]? = some ⟨3, Tp, EE [pp]⟩ := get_set_ne hG hne
  refine at_mem (M2 := (M.set ip ⟨gP, TP, EE [r0, y, 1, x, y]⟩)) (by simp) ?_
  refine at_then ?_
  refine at_drawR (by kernel_rfl) (by kernel_rfl) (by kernel_rfl) (List.cons_ne_nil _ _) ?_
  refine drR_op rfl rfl (opr_move rfl rfl) ?_
  refine drR_op rfl rfl (opr_nilCheck rfl rfl) ?_
  refine drR_op rfl rfl (opr_fieldAddr rfl rfl Tryd.underlying84 rfl size82 rfl rfl) ?_
  refine drR_op rfl rfl (opr_move rfl rfl) ?_
  refine drR_op rfl rfl (opr_nilCheck rfl rfl) ?_
  refine drR_op rfl rfl (opr_fieldAddr rfl rfl Tryd.underlying84 rfl size82 rfl rfl) ?_
  refine drR_last (v := .tuple #[]) rfl rfl (opr_call rfl rfl rfl Tryd.func87 (by kernel_rfl) rfl (Neg_el (ig := ig) (iz := ip) (ix := ip) (kz := 3) (kx := 3) hb1_3 hb1 (Nat.le_of_ble_eq_true rfl) rfl hb1 rfl rfl hx)) ?_ ?_
  · rintro _ _ ⟨_, _, _, rfl, _⟩; rfl
  rintro _ _ ⟨r1, hr1, f1, rfl, rfl⟩
  have hb2 : (M.set ip ⟨gP, TP, EE [r0, y, 1, r1, y]⟩)[ip]? = some ⟨gP, TP, EE [r0, y, 1, r1, y]⟩ := get_set hP
  have hb2_3 : (M.set ip ⟨gP, TP, EE [r0, y, 1, r1, y]⟩)[ig]? = some ⟨3, Tp, EE [pp]⟩ := get_set_ne hG hne
  refine at_mem (M2 := (M.set ip ⟨gP, TP, EE [r0, y, 1, r1, y]⟩)) (by simp) ?_
  exact done_of (res0 Tryd.results71) ⟨r0, r1, hr0, hr1, f0, rfl, rfl⟩ (List.Sublist.refl _)
theorem iMinus_ct {M : Mem} {ig Tp jd Td : Nat} (hG : M[ig]? = some ⟨3, Tp, EE [pp]⟩) (hD : M[jd]? = some ⟨0, Td, EE [dP]⟩) {x1 y1 : Nat} (hx1 : x1 < RR) (hy1 : y1 < RR) (o1 : On (el dP) (el x1) (el y1)) : Ct Tryd.prog 41 #[.agg (EE [x1, y1]).toArray] M (fun v M' => ∃ xa ya, xa < pp ∧ ya < pp ∧ el xa = -el x1 ∧ el ya = el y1 ∧ v = .tuple #[.agg (EE [xa, ya]).toArray, .bool true] ∧ M' = M) := by
  refine ct_of (vs := [.agg (EE [x1, y1]).toArray]) Tryd.func41 rfl Tryd.ntmps41 rfl fun w0 => ?_
  refine at_seq ?_
  refine at_region ?_
  refine at_n rfl rfl (opr_box rfl rfl rfl) ?_
  intro g0
  refine at_n rfl rfl (opr_alloc rfl zero24 rfl) ?_
  intro g1
  refine at_d rfl rfl (opr_assign rfl rfl) ?_
  refine at_nil ?_
  refine at_then ?_
  refine at_seq ?_
  refine at_region ?_
  refine at_d rfl rfl (opr_load (i := 1) rfl rfl rfl Tryd.underlying24 rfl size24 (EE_length _) (EE_all rfl)) ?_
  refine at_c rfl rfl (opr_call rfl rfl rfl Tryd.func43 (by kernel_rfl) rfl (pointT_ct (ig := ig + 2) (jd := jd + 2) hG hD hx1 hy1 o1)) ?_
  rintro _ _ ⟨gN1, rfl, rfl⟩
  refine at_d rfl rfl (opr_move rfl rfl) ?_
  refine at_d rfl rfl (opr_extract rfl rfl rfl) ?_
  refine at_d rfl rfl (opr_extract rfl rfl rfl) ?_
  refine at_d rfl rfl (opr_assign rfl rfl) ?_
  refine at_d rfl rfl (opr_assign rfl rfl) ?_
  refine at_nil ?_
  refine at_then ?_
  refine at_seq ?_
  refine at_seq ?_
  refine at_region ?_
  refine at_d rfl rfl (opr_move rfl rfl) ?_
  refine at_d rfl rfl (opr_unOp (u := .bool false) rfl rfl (fun _ => rfl)) ?_
  refine at_nil ?_
  refine at_then ?_
  refine at_cond_false rfl ?_
  refine at_skip ?_
  refine at_then ?_
  refine at_seq ?_
  refine at_region ?_
  refine at_d rfl rfl (opr_move rfl rfl) ?_
  refine at_c rfl rfl (opr_call rfl rfl rfl Tryd.func71 (by kernel_rfl) rfl (pNeg_ct (ig := ig + 3) (ip := 0) hG rfl (by omega) hx1 hy1)) ?_
  rintro _ _ ⟨n, a, hn, ha, f, rfl, rfl⟩
  refine at_nil ?_
  refine at_then ?_
  refine at_seq ?_
  refine at_region ?_
  refine at_d rfl rfl (opr_move rfl rfl) ?_
  refine at_d rfl rfl (opr_call rfl rfl rfl Tryd.func57 (by kernel_rfl) rfl (plain_ct (ig := ig + 3) (ip := 0) hG rfl (by omega) hn hy1 RR_one)) ?_
  refine at_d rfl rfl (opr_store (i := 1) rfl rfl rfl rfl rfl size24 (EE_length _) (by rw [EE_length]; exact Nat.le_of_ble_eq_true rfl) (EE_flat _) (EE_over rfl)) ?_
  refine at_d rfl rfl (opr_assign rfl rfl) ?_
  refine at_nil ?_
  refine at_then ?_
  refine at_ret ?_
  exact done_of (res2 Tryd.results41 (res_cell (i := 1) rfl rfl Tryd.underlying24 rfl size24 (EE_length _) (EE_all rfl)) (res_tmp rfl)) ⟨_, _, aff_lt _ _, aff_lt _ _, (aff1 n).trans f, aff1 y1, rfl, rfl⟩ (by repeat (first | exact List.Sublist.refl _ | apply List.Sublist.cons))
end Go.Proofs.YtjanppnnioeifaaDoor
