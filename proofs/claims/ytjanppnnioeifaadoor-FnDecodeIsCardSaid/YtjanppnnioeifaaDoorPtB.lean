/- Points on the curve, from and to coordinates. -/
import Derived.Test.YtjanppnnioeifaaDoorPtA
import Derived.Test.YtjanppnnioeifaaDoorTell
import Derived.Test.YtjanppnnioeifaaDoorIface
import Derived.Test.YtjanppnnioeifaaDoorDrawA
namespace Go.Proofs.YtjanppnnioeifaaDoor
open Go
set_option maxRecDepth 100000
theorem size24 : (Tryd.prog.info? 24).map (·.size) = some 112 := by kernel_rfl
theorem zero24 : (Tryd.prog.info? 24).bind (·.zero) = some (.agg (EE [0, 0]).toArray) := by kernel_rfl
theorem zero84 : (Tryd.prog.info? 84).bind (·.zero) = some (.agg (EE [0, 0, 0, 0, 0]).toArray) := by kernel_rfl
theorem builte92 : Tryd.prog.built 92 [] = some ([] : List Value).toArray := by kernel_rfl
theorem builtp24 (ps : List (Nat × Nat)) (h : (ps.all fun p => decide (p.1 < 2) && decide ((([(0, 56), (56, 56)] : List (Nat × Nat)).toArray[p.1]? : Option (Nat × Nat)) = some (56 * p.1, 56))) = true) : Tryd.prog.built 24 (ps.map fun p => (p.1, .agg (E p.2).toArray)) = some (EE (ps.foldl (fun l p => l.set p.1 p.2) [0, 0])).toArray := by
  rw [built_str (pl := [(0, 56), (56, 56)]) Tryd.underlying24 zero24 (by kernel_rfl)]
  exact fillEE ps [0, 0] h
theorem builtp84 (ps : List (Nat × Nat)) (h : (ps.all fun p => decide (p.1 < 5) && decide ((([(0, 56), (56, 56), (112, 56), (168, 56), (224, 56)] : List (Nat × Nat)).toArray[p.1]? : Option (Nat × Nat)) = some (56 * p.1, 56))) = true) : Tryd.prog.built 84 (ps.map fun p => (p.1, .agg (E p.2).toArray)) = some (EE (ps.foldl (fun l p => l.set p.1 p.2) [0, 0, 0, 0, 0])).toArray := by
  rw [built_str (pl := [(0, 56), (56, 56), (112, 56), (168, 56), (224, 56)]) Tryd.underlying84 zero84 (by kernel_rfl)]
  exact fillEE ps [0, 0, 0, 0, 0] h
theorem isz_on {r : Nat} {x y : Fin pp} {t : Bool} (h : el r = (x * x + y * y) - ((x * y) * (x * y) * el dP + el 1 * el 1)) (hOn : t = true ↔ On (el dP) x y) : decide (r % pp = 0) = t := by
  have e : r % pp = 0 ↔ On (el dP) x y := by
    rw [← el_eq_zero, h, el_one]
    unfold On
    generalize el dP = d
    clear h hOn
    constructor
    · intro h0; grind
    · intro h0; grind
  cases t
  · exact decide_eq_false (fun h0 => absurd (hOn.2 (e.1 h0)) (by decide))
  · exact decide_eq_true (e.2 (hOn.1 rfl))
theorem isz_xy {r : Nat} {x y : Fin pp} (h : el r = x * y - x * y * el 1) : decide (r % pp = 0) = true := by
  apply decide_eq_true
  rw [← el_eq_zero, h, el_one]; clear h; grind
theorem aff_eq {a1 a2 r q : Nat} (hr : r % pp = invp a2) (hq : q % pp = a1 * r % pp) : q % pp = a1 * invp a2 % pp := by
  rw [hq, Nat.mul_mod, hr, ← Nat.mod_mod (a1 * invp a2), Nat.mul_mod a1 (invp a2), Nat.mod_mod]
  rw [Nat.mod_eq_of_lt (invp_lt a2)]
/-- An affine coordinate. -/
theorem aff_mul {x z : Nat} (hz : el z ≠ 0) : el (x * invp z % pp) * el z = el x := by
  have h : z * invp z % pp = 1 := mul_invp (fun h => hz (el_eq_zero.2 h))
  have h1 : el z * el (invp z) = 1 := by rw [← el_mul, ← el_one, el_eq, h]; rfl
  rw [el_mod, el_mul]
  generalize el z = c at *
  generalize el (invp z) = b at *
  generalize el x = a
  clear h hz
  grind
theorem aff_lt (x z : Nat) : x * invp z % pp < pp := Nat.mod_lt _ (by decide)
theorem getD_RR {l : List Nat} (h : ∀ x ∈ l, x < RR) (j : Nat) : l.getD j 0 < RR := by
  rw [List.getD_eq_getElem?_getD]
  cases hj : l[j]? with
  | none => exact RR_zero
  | some a => exact h a (List.mem_of_getElem? hj)
theorem EE_pair {l : List Nat} {k off : Nat} (hk : 2 * k + 1 < l.length) (ho : 112 * k = off) : ((EE l).drop off).take 112 = EE [l.getD (2 * k) 0, l.getD (2 * k + 1) 0] := by
  have e : off = 56 * (2 * k) := by omega
  rw [e, EE_drop, List.drop_eq_getElem_cons (by omega), List.drop_eq_getElem_cons hk]
  have g1 : l.getD (2 * k) 0 = l[2 * k] := by rw [List.getD_eq_getElem?_getD, List.getElem?_eq_getElem (by omega)]; rfl
  have g2 : l.getD (2 * k + 1) 0 = l[2 * k + 1] := by rw [List.getD_eq_getElem?_getD, List.getElem?_eq_getElem hk]; rfl
  rw [g1, g2]
  simp only [EE]
  rw [← List.append_assoc, List.take_append_of_le_length (by simp [E_length]), List.take_of_length_le (by simp [E_length]), List.append_nil]
theorem pp_lt_RR {a : Nat} (h : a < pp) : a < RR := Nat.lt_trans h RR_pp
theorem fIsZeroR_ct {M : Mem} {ig Tp : Nat} (hG : M[ig]? = some ⟨3, Tp, EE [pp]⟩) {iz gz Tz kz oz a : Nat} {lz : List Nat} (hz : M[iz]? = some ⟨gz, Tz, EE lz⟩) (hkz : lz[kz]? = some a) (hoz : 56 * kz = oz) (ha : a < pp) {t : Bool} (ht : decide (a = 0) = t) : Ct Tryd.prog 75 #[.pointer (some ⟨gz, oz, none⟩)] M (Det (.bool t) M) := by
  have hm := Nat.mod_eq_of_lt ha
  have h := fIsZero_ct hG hz hkz hoz (pp_lt_RR ha) (t := t) (by rw [hm]; exact ht)
  rw [hm, set_self hkz, set_same hz] at h
  exact h
theorem built_err (s : ByteArray) : Tryd.prog.built 116 [(0, .string s)] = some [Value.string s].toArray := by kernel_rfl
theorem errNew_ct {M : Mem} {s : ByteArray} : Ct Tryd.prog 80 #[.string s] M (fun v M' => (∃ X x, v = .iface X x) ∧ M' = M) := by
  refine ct_of (vs := [.string s]) Tryd.func80 rfl Tryd.ntmps80 rfl fun w0 => ?_
  refine at_seq ?_
  refine at_region ?_
  refine at_d rfl rfl (opr_assign rfl rfl) ?_
  refine at_nil ?_
  refine at_then ?_
  refine at_seq ?_
  refine at_region ?_
  refine at_d rfl rfl (opr_move rfl rfl) ?_
  refine at_d rfl rfl (opr_buildP rfl rfl (built_err s)) ?_
  refine at_n rfl rfl (opr_box rfl rfl rfl) ?_
  intro g0
  refine at_d rfl rfl (opr_makeInterface rfl rfl Tryd.underlying114 rfl) ?_
  refine at_d rfl rfl (opr_assign rfl rfl) ?_
  refine at_nil ?_
  refine at_then ?_
  refine at_ret ?_
  exact done_of (res1 Tryd.results80 (res_tmp rfl)) ⟨⟨_, _, rfl⟩, rfl⟩ (by repeat (first | exact List.Sublist.refl _ | apply List.Sublist.cons))
theorem isOnT_ct {M : Mem} {ig Tp jd Td : Nat} (hG : M[ig]? = some ⟨3, Tp, EE [pp]⟩) (hD : M[jd]? = some ⟨0, Td, EE [dP]⟩) {ip gP TP x y : Nat} (hP : M[ip]? = some ⟨gP, TP, EE [x, y, 1, x, y]⟩) (hx : x < RR) (hy : y < RR) (hOn : On (el dP) (el x) (el y)) : Ct Tryd.prog 61 #[.agg ([] : List Value).toArray, .pointer (some ⟨gP, 0, none⟩)] M (Det (.bool true) M) := by
  refine ct_of (vs := [.agg ([] : List Value).toArray, .pointer (some ⟨gP, 0, none⟩)]) Tryd.func61 rfl Tryd.ntmps61 rfl fun w0 => ?_
  refine at_seq ?_
  refine at_region ?_
  refine at_n rfl rfl (opr_box rfl rfl rfl) ?_
  intro g0
  refine at_d rfl rfl (opr_assign rfl rfl) ?_
  refine at_nil ?_
  refine at_then ?_
  refine at_seq ?_
  refine at_region ?_
  refine at_d rfl rfl (opr_buildE (ds := E 0) rfl rfl builtz82 rfl) ?_
  refine at_n rfl rfl (opr_box (cs := EE [0]) rfl rfl (E_box _)) ?_
  intro g1
  refine at_d rfl rfl (opr_buildE (ds := E 0) rfl rfl builtz82 rfl) ?_
  refine at_n rfl rfl (opr_box (cs := EE [0]) rfl rfl (E_box _)) ?_
  intro g2
  refine at_d rfl rfl (opr_buildE (ds := E 0) rfl rfl builtz82 rfl) ?_
  refine at_n rfl rfl (opr_box (cs := EE [0]) rfl rfl (E_box _)) ?_
  intro g3
  refine at_d rfl rfl (opr_buildE (ds := E 0) rfl rfl builtz82 rfl) ?_
  refine at_n rfl rfl (opr_box (cs := EE [0]) rfl rfl (E_box _)) ?_
  intro g4
  refine at_d rfl rfl (opr_buildE (ds := E 0) rfl rfl builtz82 rfl) ?_
  refine at_n rfl rfl (opr_box (cs := EE [0]) rfl rfl (E_box _)) ?_
  intro g5
  refine at_d rfl rfl (opr_assign rfl rfl) ?_
  refine at_d rfl rfl (opr_assign rfl rfl) ?_
  refine at_d rfl rfl (opr_assign rfl rfl) ?_
  refine at_d rfl rfl (opr_assign rfl rfl) ?_
  refine at_d rfl rfl (opr_assign rfl rfl) ?_
  refine at_nil ?_
  refine at_then ?_
  refine at_seq ?_
  refine at_region ?_
  refine at_d rfl rfl (opr_buildE (ds := E 0) rfl rfl builtz82 rfl) ?_
  refine at_n rfl rfl (opr_box (cs := EE [0]) rfl rfl (E_box _)) ?_
  intro g6
  refine at_d rfl rfl (opr_buildE (ds := E 0) rfl rfl builtz82 rfl) ?_
  refine at_n rfl rfl (opr_box (cs := EE [0]) rfl rfl (E_box _)) ?_
  intro g7
  refine at_d rfl rfl (opr_assign rfl rfl) ?_
  refine at_d rfl rfl (opr_assign rfl rfl) ?_
  refine at_nil ?_
  refine at_then ?_
  refine at_seq ?_
  refine at_region ?_
  refine at_d rfl rfl (opr_move rfl rfl) ?_
  refine at_d rfl rfl (opr_nilCheck rfl rfl) ?_
  refine at_d rfl rfl (opr_fieldAddr rfl rfl Tryd.underlying84 rfl size82 rfl rfl) ?_
  refine at_d rfl rfl (opr_call rfl rfl rfl Tryd.func75 (by kernel_rfl) rfl (fIsZeroR_ct (ig := ig + 8) (iz := ip + 8) (kz := 2) (t := false) hG hP rfl rfl (by decide) (by decide))) ?_
  refine at_d rfl rfl (opr_unOp (u := .bool true) rfl rfl (fun _ => rfl)) ?_
  refine at_d rfl rfl (opr_assign rfl rfl) ?_
  refine at_nil ?_
  refine at_then ?_
  refine at_seq ?_
  refine at_drawR (by kernel_rfl) (by kernel_rfl) (by kernel_rfl) (List.cons_ne_nil _ _) ?_
  refine drR_op rfl rfl (opr_move rfl rfl) ?_
  refine drR_op rfl rfl (opr_move rfl rfl) ?_
  refine drR_op rfl rfl (opr_nilCheck rfl rfl) ?_
  refine drR_op rfl rfl (opr_fieldAddr rfl rfl Tryd.underlying84 rfl size82 rfl rfl) ?_
  refine drR_op rfl rfl (opr_move rfl rfl) ?_
  refine drR_op rfl rfl (opr_nilCheck rfl rfl) ?_
  refine drR_op rfl rfl (opr_fieldAddr rfl rfl Tryd.underlying84 rfl size82 rfl rfl) ?_
  refine drR_last (v := .tuple #[]) rfl rfl (opr_call rfl rfl rfl Tryd.func73 (by kernel_rfl) rfl (Mul_el (iz := 4) (ix := ip + 8) (iy := ip + 8) (kz := 0) (kx := 3) (ky := 4) rfl (Nat.le_of_ble_eq_true rfl) rfl hP rfl rfl hP rfl rfl hx hy)) ?_ ?_
  · rintro _ _ ⟨_, _, _, rfl, _⟩; rfl
  rintro _ _ ⟨r0, hr0, f0, rfl, rfl⟩
  refine at_then ?_
  refine at_seq ?_
  refine at_region ?_
  refine at_d rfl rfl (opr_move rfl rfl) ?_
  refine at_d rfl rfl (opr_move rfl rfl) ?_
  refine at_d rfl rfl (opr_nilCheck rfl rfl) ?_
  refine at_d rfl rfl (opr_fieldAddr rfl rfl Tryd.underlying84 rfl size82 rfl rfl) ?_
  refine at_c rfl rfl (opr_call rfl rfl rfl Tryd.func84 (by kernel_rfl) rfl (Sqr_el (iz := 6) (ix := ip + 8) (kz := 0) (kx := 0) rfl (Nat.le_of_ble_eq_true rfl) rfl hP rfl rfl hx)) ?_
  rintro _ _ ⟨r1, hr1, f1, rfl, rfl⟩
  refine at_nil ?_
  refine at_then ?_
  refine at_seq ?_
  refine at_region ?_
  refine at_d rfl rfl (opr_move rfl rfl) ?_
  refine at_d rfl rfl (opr_move rfl rfl) ?_
  refine at_d rfl rfl (opr_nilCheck rfl rfl) ?_
  refine at_d rfl rfl (opr_fieldAddr rfl rfl Tryd.underlying84 rfl size82 rfl rfl) ?_
  refine at_c rfl rfl (opr_call rfl rfl rfl Tryd.func84 (by kernel_rfl) rfl (Sqr_el (iz := 5) (ix := ip + 8) (kz := 0) (kx := 1) rfl (Nat.le_of_ble_eq_true rfl) rfl hP rfl rfl hy)) ?_
  rintro _ _ ⟨r2, hr2, f2, rfl, rfl⟩
  refine at_nil ?_
  refine at_then ?_
  refine at_seq ?_
  refine at_region ?_
  refine at_d rfl rfl (opr_move rfl rfl) ?_
  refine at_d rfl rfl (opr_move rfl rfl) ?_
  refine at_d rfl rfl (opr_nilCheck rfl rfl) ?_
  refine at_d rfl rfl (opr_fieldAddr rfl rfl Tryd.underlying84 rfl size82 rfl rfl) ?_
  refine at_c rfl rfl (opr_call rfl rfl rfl Tryd.func84 (by kernel_rfl) rfl (Sqr_el (iz := 2) (ix := ip + 8) (kz := 0) (kx := 2) rfl (Nat.le_of_ble_eq_true rfl) rfl hP rfl rfl RR_one)) ?_
  rintro _ _ ⟨r3, hr3, f3, rfl, rfl⟩
  refine at_nil ?_
  refine at_then ?_
  refine at_seq ?_
  refine at_region ?_
  refine at_d rfl rfl (opr_move rfl rfl) ?_
  refine at_d rfl rfl (opr_move rfl rfl) ?_
  refine at_c rfl rfl (opr_call rfl rfl rfl Tryd.func84 (by kernel_rfl) rfl (Sqr_el (iz := 3) (ix := 4) (kz := 0) (kx := 0) rfl (Nat.le_of_ble_eq_true rfl) rfl rfl rfl rfl hr0)) ?_
  rintro _ _ ⟨r4, hr4, f4, rfl, rfl⟩
  refine at_nil ?_
  refine at_then ?_
  refine at_seq ?_
  refine at_region ?_
  refine at_d rfl rfl (opr_move rfl rfl) ?_
  refine at_d rfl rfl (opr_move rfl rfl) ?_
  refine at_d rfl rfl (opr_move rfl rfl) ?_
  refine at_c rfl rfl (opr_call rfl rfl rfl Tryd.func90 (by kernel_rfl) rfl (Add_el (iz := 0) (ix := 6) (iy := 5) (kz := 0) (kx := 0) (ky := 0) rfl (Nat.le_of_ble_eq_true rfl) rfl rfl rfl rfl rfl rfl rfl hr1 hr2)) ?_
  rintro _ _ ⟨r5, hr5, f5, rfl, rfl⟩
  refine at_nil ?_
  refine at_then ?_
  refine at_seq ?_
  refine at_region ?_
  refine at_d rfl rfl (opr_load (i := jd + 8) rfl rfl hD Tryd.underlying82 rfl size82 (E_length _) (EE_at (k := 0) rfl rfl rfl)) ?_
  refine at_n rfl rfl (opr_alloc rfl zero82 rfl) ?_
  intro g8
  refine at_d rfl rfl (opr_store (i := 0) rfl rfl rfl rfl rfl size82 (E_length _) (by rw [EE_length]; exact Nat.le_of_ble_eq_true rfl) (E_flat _) (EE_set (k := 0) (Nat.le_of_ble_eq_true rfl) rfl)) ?_
  refine at_nil ?_
  refine at_then ?_
  refine at_seq ?_
  refine at_region ?_
  refine at_d rfl rfl (opr_move rfl rfl) ?_
  refine at_d rfl rfl (opr_move rfl rfl) ?_
  refine at_c rfl rfl (opr_call rfl rfl rfl Tryd.func73 (by kernel_rfl) rfl (Mul_el (iz := 2) (ix := 4) (iy := 0) (kz := 0) (kx := 0) (ky := 0) rfl (Nat.le_of_ble_eq_true rfl) rfl rfl rfl rfl rfl rfl rfl hr4 (by decide))) ?_
  rintro _ _ ⟨r6, hr6, f6, rfl, rfl⟩
  refine at_nil ?_
  refine at_then ?_
  refine at_seq ?_
  refine at_region ?_
  refine at_d rfl rfl (opr_move rfl rfl) ?_
  refine at_d rfl rfl (opr_move rfl rfl) ?_
  refine at_d rfl rfl (opr_move rfl rfl) ?_
  refine at_c rfl rfl (opr_call rfl rfl rfl Tryd.func90 (by kernel_rfl) rfl (Add_el (iz := 2) (ix := 2) (iy := 3) (kz := 0) (kx := 0) (ky := 0) rfl (Nat.le_of_ble_eq_true rfl) rfl rfl rfl rfl rfl rfl rfl hr6 hr3)) ?_
  rintro _ _ ⟨r7, hr7, f7, rfl, rfl⟩
  refine at_nil ?_
  refine at_then ?_
  refine at_seq ?_
  refine at_region ?_
  refine at_d rfl rfl (opr_move rfl rfl) ?_
  refine at_d rfl rfl (opr_move rfl rfl) ?_
  refine at_d rfl rfl (opr_move rfl rfl) ?_
  refine at_c rfl rfl (opr_call rfl rfl rfl Tryd.func74 (by kernel_rfl) rfl (Sub_el (iz := 1) (ix := 1) (iy := 2) (kz := 0) (kx := 0) (ky := 0) rfl (Nat.le_of_ble_eq_true rfl) rfl rfl rfl rfl rfl rfl rfl hr5 hr7)) ?_
  rintro _ _ ⟨r8, hr8, f8, rfl, rfl⟩
  refine at_nil ?_
  refine at_then ?_
  refine at_seq ?_
  refine at_region ?_
  refine at_d rfl rfl (opr_move rfl rfl) ?_
  refine at_d rfl rfl (opr_call rfl rfl rfl Tryd.func75 (by kernel_rfl) rfl (fIsZero_ct (ig := ig + 9) (iz := 1) (kz := 0) (t := true) hG rfl rfl rfl hr8 (isz_on (t := true) (by simp only [f0, f1, f2, f3, f4, f5, f6, f7, f8]) (iff_of_true rfl hOn )))) ?_
  refine at_d rfl rfl (opr_assign rfl rfl) ?_
  refine at_nil ?_
  refine at_then ?_
  refine at_seq ?_
  refine at_drawR (by kernel_rfl) (by kernel_rfl) (by kernel_rfl) (List.cons_ne_nil _ _) ?_
  refine drR_op rfl rfl (opr_move rfl rfl) ?_
  refine drR_op rfl rfl (opr_move rfl rfl) ?_
  refine drR_op rfl rfl (opr_nilCheck rfl rfl) ?_
  refine drR_op rfl rfl (opr_fieldAddr rfl rfl Tryd.underlying84 rfl size82 rfl rfl) ?_
  refine drR_op rfl rfl (opr_move rfl rfl) ?_
  refine drR_op rfl rfl (opr_nilCheck rfl rfl) ?_
  refine drR_op rfl rfl (opr_fieldAddr rfl rfl Tryd.underlying84 rfl size82 rfl rfl) ?_
  refine drR_last (v := .tuple #[]) rfl rfl (opr_call rfl rfl rfl Tryd.func73 (by kernel_rfl) rfl (Mul_el (iz := 1) (ix := ip + 9) (iy := ip + 9) (kz := 0) (kx := 0) (ky := 1) rfl (Nat.le_of_ble_eq_true rfl) rfl hP rfl rfl hP rfl rfl hx hy)) ?_ ?_
  · rintro _ _ ⟨_, _, _, rfl, _⟩; rfl
  rintro _ _ ⟨r9, hr9, f9, rfl, rfl⟩
  refine at_then ?_
  refine at_seq ?_
  refine at_region ?_
  refine at_d rfl rfl (opr_move rfl rfl) ?_
  refine at_d rfl rfl (opr_move rfl rfl) ?_
  refine at_d rfl rfl (opr_move rfl rfl) ?_
  refine at_d rfl rfl (opr_nilCheck rfl rfl) ?_
  refine at_d rfl rfl (opr_fieldAddr rfl rfl Tryd.underlying84 rfl size82 rfl rfl) ?_
  refine at_c rfl rfl (opr_call rfl rfl rfl Tryd.func73 (by kernel_rfl) rfl (Mul_el (iz := 2) (ix := 5) (iy := ip + 9) (kz := 0) (kx := 0) (ky := 2) rfl (Nat.le_of_ble_eq_true rfl) rfl rfl rfl rfl hP rfl rfl hr0 RR_one)) ?_
  rintro _ _ ⟨r10, hr10, f10, rfl, rfl⟩
  refine at_nil ?_
  refine at_then ?_
  refine at_seq ?_
  refine at_region ?_
  refine at_d rfl rfl (opr_move rfl rfl) ?_
  refine at_d rfl rfl (opr_move rfl rfl) ?_
  refine at_d rfl rfl (opr_move rfl rfl) ?_
  refine at_c rfl rfl (opr_call rfl rfl rfl Tryd.func74 (by kernel_rfl) rfl (Sub_el (iz := 1) (ix := 1) (iy := 2) (kz := 0) (kx := 0) (ky := 0) rfl (Nat.le_of_ble_eq_true rfl) rfl rfl rfl rfl rfl rfl rfl hr9 hr10)) ?_
  rintro _ _ ⟨r11, hr11, f11, rfl, rfl⟩
  refine at_nil ?_
  refine at_then ?_
  refine at_seq ?_
  refine at_region ?_
  refine at_d rfl rfl (opr_move rfl rfl) ?_
  refine at_d rfl rfl (opr_call rfl rfl rfl Tryd.func75 (by kernel_rfl) rfl (fIsZero_ct (ig := ig + 9) (iz := 1) (kz := 0) (t := true) hG rfl rfl rfl hr11 (isz_xy (x := el x) (y := el y) (by simp only [f0, f1, f2, f3, f4, f5, f6, f7, f8, f9, f10, f11])))) ?_
  refine at_d rfl rfl (opr_assign rfl rfl) ?_
  refine at_nil ?_
  refine at_then ?_
  refine at_seq ?_
  refine at_region ?_
  refine at_d rfl rfl (opr_move rfl rfl) ?_
  refine at_d rfl rfl (opr_move rfl rfl) ?_
  refine at_d rfl rfl (opr_move rfl rfl) ?_
  refine at_d rfl rfl (opr_pickT rfl rfl rfl) ?_
  refine at_d rfl rfl (opr_move rfl rfl) ?_
  refine at_d rfl rfl (opr_move rfl rfl) ?_
  refine at_d rfl rfl (opr_pickT rfl rfl rfl) ?_
  refine at_d rfl rfl (opr_assign rfl rfl) ?_
  refine at_nil ?_
  refine at_then ?_
  refine at_ret ?_
  refine done_of (res1 Tryd.results61 (res_tmp rfl)) ⟨rfl, rfl⟩ (by repeat (first | exact List.Sublist.refl _ | apply List.Sublist.cons))
theorem isOnF_ct {M : Mem} {ig Tp jd Td : Nat} (hG : M[ig]? = some ⟨3, Tp, EE [pp]⟩) (hD : M[jd]? = some ⟨0, Td, EE [dP]⟩) {ip gP TP x y : Nat} (hP : M[ip]? = some ⟨gP, TP, EE [x, y, 1, x, y]⟩) (hx : x < RR) (hy : y < RR) (hOn : ¬On (el dP) (el x) (el y)) : Ct Tryd.prog 61 #[.agg ([] : List Value).toArray, .pointer (some ⟨gP, 0, none⟩)] M (Det (.bool false) M) := by
  refine ct_of (vs := [.agg ([] : List Value).toArray, .pointer (some ⟨gP, 0, none⟩)]) Tryd.func61 rfl Tryd.ntmps61 rfl fun w0 => ?_
  refine at_seq ?_
  refine at_region ?_
  refine at_n rfl rfl (opr_box rfl rfl rfl) ?_
  intro g0
  refine at_d rfl rfl (opr_assign rfl rfl) ?_
  refine at_nil ?_
  refine at_then ?_
  refine at_seq ?_
  refine at_region ?_
  refine at_d rfl rfl (opr_buildE (ds := E 0) rfl rfl builtz82 rfl) ?_
  refine at_n rfl rfl (opr_box (cs := EE [0]) rfl rfl (E_box _)) ?_
  intro g1
  refine at_d rfl rfl (opr_buildE (ds := E 0) rfl rfl builtz82 rfl) ?_
  refine at_n rfl rfl (opr_box (cs := EE [0]) rfl rfl (E_box _)) ?_
  intro g2
  refine at_d rfl rfl (opr_buildE (ds := E 0) rfl rfl builtz82 rfl) ?_
  refine at_n rfl rfl (opr_box (cs := EE [0]) rfl rfl (E_box _)) ?_
  intro g3
  refine at_d rfl rfl (opr_buildE (ds := E 0) rfl rfl builtz82 rfl) ?_
  refine at_n rfl rfl (opr_box (cs := EE [0]) rfl rfl (E_box _)) ?_
  intro g4
  refine at_d rfl rfl (opr_buildE (ds := E 0) rfl rfl builtz82 rfl) ?_
  refine at_n rfl rfl (opr_box (cs := EE [0]) rfl rfl (E_box _)) ?_
  intro g5
  refine at_d rfl rfl (opr_assign rfl rfl) ?_
  refine at_d rfl rfl (opr_assign rfl rfl) ?_
  refine at_d rfl rfl (opr_assign rfl rfl) ?_
  refine at_d rfl rfl (opr_assign rfl rfl) ?_
  refine at_d rfl rfl (opr_assign rfl rfl) ?_
  refine at_nil ?_
  refine at_then ?_
  refine at_seq ?_
  refine at_region ?_
  refine at_d rfl rfl (opr_buildE (ds := E 0) rfl rfl builtz82 rfl) ?_
  refine at_n rfl rfl (opr_box (cs := EE [0]) rfl rfl (E_box _)) ?_
  intro g6
  refine at_d rfl rfl (opr_buildE (ds := E 0) rfl rfl builtz82 rfl) ?_
  refine at_n rfl rfl (opr_box (cs := EE [0]) rfl rfl (E_box _)) ?_
  intro g7
  refine at_d rfl rfl (opr_assign rfl rfl) ?_
  refine at_d rfl rfl (opr_assign rfl rfl) ?_
  refine at_nil ?_
  refine at_then ?_
  refine at_seq ?_
  refine at_region ?_
  refine at_d rfl rfl (opr_move rfl rfl) ?_
  refine at_d rfl rfl (opr_nilCheck rfl rfl) ?_
  refine at_d rfl rfl (opr_fieldAddr rfl rfl Tryd.underlying84 rfl size82 rfl rfl) ?_
  refine at_d rfl rfl (opr_call rfl rfl rfl Tryd.func75 (by kernel_rfl) rfl (fIsZeroR_ct (ig := ig + 8) (iz := ip + 8) (kz := 2) (t := false) hG hP rfl rfl (by decide) (by decide))) ?_
  refine at_d rfl rfl (opr_unOp (u := .bool true) rfl rfl (fun _ => rfl)) ?_
  refine at_d rfl rfl (opr_assign rfl rfl) ?_
  refine at_nil ?_
  refine at_then ?_
  refine at_seq ?_
  refine at_drawR (by kernel_rfl) (by kernel_rfl) (by kernel_rfl) (List.cons_ne_nil _ _) ?_
  refine drR_op rfl rfl (opr_move rfl rfl) ?_
  refine drR_op rfl rfl (opr_move rfl rfl) ?_
  refine drR_op rfl rfl (opr_nilCheck rfl rfl) ?_
  refine drR_op rfl rfl (opr_fieldAddr rfl rfl Tryd.underlying84 rfl size82 rfl rfl) ?_
  refine drR_op rfl rfl (opr_move rfl rfl) ?_
  refine drR_op rfl rfl (opr_nilCheck rfl rfl) ?_
  refine drR_op rfl rfl (opr_fieldAddr rfl rfl Tryd.underlying84 rfl size82 rfl rfl) ?_
  refine drR_last (v := .tuple #[]) rfl rfl (opr_call rfl rfl rfl Tryd.func73 (by kernel_rfl) rfl (Mul_el (iz := 4) (ix := ip + 8) (iy := ip + 8) (kz := 0) (kx := 3) (ky := 4) rfl (Nat.le_of_ble_eq_true rfl) rfl hP rfl rfl hP rfl rfl hx hy)) ?_ ?_
  · rintro _ _ ⟨_, _, _, rfl, _⟩; rfl
  rintro _ _ ⟨r0, hr0, f0, rfl, rfl⟩
  refine at_then ?_
  refine at_seq ?_
  refine at_region ?_
  refine at_d rfl rfl (opr_move rfl rfl) ?_
  refine at_d rfl rfl (opr_move rfl rfl) ?_
  refine at_d rfl rfl (opr_nilCheck rfl rfl) ?_
  refine at_d rfl rfl (opr_fieldAddr rfl rfl Tryd.underlying84 rfl size82 rfl rfl) ?_
  refine at_c rfl rfl (opr_call rfl rfl rfl Tryd.func84 (by kernel_rfl) rfl (Sqr_el (iz := 6) (ix := ip + 8) (kz := 0) (kx := 0) rfl (Nat.le_of_ble_eq_true rfl) rfl hP rfl rfl hx)) ?_
  rintro _ _ ⟨r1, hr1, f1, rfl, rfl⟩
  refine at_nil ?_
  refine at_then ?_
  refine at_seq ?_
  refine at_region ?_
  refine at_d rfl rfl (opr_move rfl rfl) ?_
  refine at_d rfl rfl (opr_move rfl rfl) ?_
  refine at_d rfl rfl (opr_nilCheck rfl rfl) ?_
  refine at_d rfl rfl (opr_fieldAddr rfl rfl Tryd.underlying84 rfl size82 rfl rfl) ?_
  refine at_c rfl rfl (opr_call rfl rfl rfl Tryd.func84 (by kernel_rfl) rfl (Sqr_el (iz := 5) (ix := ip + 8) (kz := 0) (kx := 1) rfl (Nat.le_of_ble_eq_true rfl) rfl hP rfl rfl hy)) ?_
  rintro _ _ ⟨r2, hr2, f2, rfl, rfl⟩
  refine at_nil ?_
  refine at_then ?_
  refine at_seq ?_
  refine at_region ?_
  refine at_d rfl rfl (opr_move rfl rfl) ?_
  refine at_d rfl rfl (opr_move rfl rfl) ?_
  refine at_d rfl rfl (opr_nilCheck rfl rfl) ?_
  refine at_d rfl rfl (opr_fieldAddr rfl rfl Tryd.underlying84 rfl size82 rfl rfl) ?_
  refine at_c rfl rfl (opr_call rfl rfl rfl Tryd.func84 (by kernel_rfl) rfl (Sqr_el (iz := 2) (ix := ip + 8) (kz := 0) (kx := 2) rfl (Nat.le_of_ble_eq_true rfl) rfl hP rfl rfl RR_one)) ?_
  rintro _ _ ⟨r3, hr3, f3, rfl, rfl⟩
  refine at_nil ?_
  refine at_then ?_
  refine at_seq ?_
  refine at_region ?_
  refine at_d rfl rfl (opr_move rfl rfl) ?_
  refine at_d rfl rfl (opr_move rfl rfl) ?_
  refine at_c rfl rfl (opr_call rfl rfl rfl Tryd.func84 (by kernel_rfl) rfl (Sqr_el (iz := 3) (ix := 4) (kz := 0) (kx := 0) rfl (Nat.le_of_ble_eq_true rfl) rfl rfl rfl rfl hr0)) ?_
  rintro _ _ ⟨r4, hr4, f4, rfl, rfl⟩
  refine at_nil ?_
  refine at_then ?_
  refine at_seq ?_
  refine at_region ?_
  refine at_d rfl rfl (opr_move rfl rfl) ?_
  refine at_d rfl rfl (opr_move rfl rfl) ?_
  refine at_d rfl rfl (opr_move rfl rfl) ?_
  refine at_c rfl rfl (opr_call rfl rfl rfl Tryd.func90 (by kernel_rfl) rfl (Add_el (iz := 0) (ix := 6) (iy := 5) (kz := 0) (kx := 0) (ky := 0) rfl (Nat.le_of_ble_eq_true rfl) rfl rfl rfl rfl rfl rfl rfl hr1 hr2)) ?_
  rintro _ _ ⟨r5, hr5, f5, rfl, rfl⟩
  refine at_nil ?_
  refine at_then ?_
  refine at_seq ?_
  refine at_region ?_
  refine at_d rfl rfl (opr_load (i := jd + 8) rfl rfl hD Tryd.underlying82 rfl size82 (E_length _) (EE_at (k := 0) rfl rfl rfl)) ?_
  refine at_n rfl rfl (opr_alloc rfl zero82 rfl) ?_
  intro g8
  refine at_d rfl rfl (opr_store (i := 0) rfl rfl rfl rfl rfl size82 (E_length _) (by rw [EE_length]; exact Nat.le_of_ble_eq_true rfl) (E_flat _) (EE_set (k := 0) (Nat.le_of_ble_eq_true rfl) rfl)) ?_
  refine at_nil ?_
  refine at_then ?_
  refine at_seq ?_
  refine at_region ?_
  refine at_d rfl rfl (opr_move rfl rfl) ?_
  refine at_d rfl rfl (opr_move rfl rfl) ?_
  refine at_c rfl rfl (opr_call rfl rfl rfl Tryd.func73 (by kernel_rfl) rfl (Mul_el (iz := 2) (ix := 4) (iy := 0) (kz := 0) (kx := 0) (ky := 0) rfl (Nat.le_of_ble_eq_true rfl) rfl rfl rfl rfl rfl rfl rfl hr4 (by decide))) ?_
  rintro _ _ ⟨r6, hr6, f6, rfl, rfl⟩
  refine at_nil ?_
  refine at_then ?_
  refine at_seq ?_
  refine at_region ?_
  refine at_d rfl rfl (opr_move rfl rfl) ?_
  refine at_d rfl rfl (opr_move rfl rfl) ?_
  refine at_d rfl rfl (opr_move rfl rfl) ?_
  refine at_c rfl rfl (opr_call rfl rfl rfl Tryd.func90 (by kernel_rfl) rfl (Add_el (iz := 2) (ix := 2) (iy := 3) (kz := 0) (kx := 0) (ky := 0) rfl (Nat.le_of_ble_eq_true rfl) rfl rfl rfl rfl rfl rfl rfl hr6 hr3)) ?_
  rintro _ _ ⟨r7, hr7, f7, rfl, rfl⟩
  refine at_nil ?_
  refine at_then ?_
  refine at_seq ?_
  refine at_region ?_
  refine at_d rfl rfl (opr_move rfl rfl) ?_
  refine at_d rfl rfl (opr_move rfl rfl) ?_
  refine at_d rfl rfl (opr_move rfl rfl) ?_
  refine at_c rfl rfl (opr_call rfl rfl rfl Tryd.func74 (by kernel_rfl) rfl (Sub_el (iz := 1) (ix := 1) (iy := 2) (kz := 0) (kx := 0) (ky := 0) rfl (Nat.le_of_ble_eq_true rfl) rfl rfl rfl rfl rfl rfl rfl hr5 hr7)) ?_
  rintro _ _ ⟨r8, hr8, f8, rfl, rfl⟩
  refine at_nil ?_
  refine at_then ?_
  refine at_seq ?_
  refine at_region ?_
  refine at_d rfl rfl (opr_move rfl rfl) ?_
  refine at_d rfl rfl (opr_call rfl rfl rfl Tryd.func75 (by kernel_rfl) rfl (fIsZero_ct (ig := ig + 9) (iz := 1) (kz := 0) (t := false) hG rfl rfl rfl hr8 (isz_on (t := false) (by simp only [f0, f1, f2, f3, f4, f5, f6, f7, f8]) (iff_of_false (by decide) hOn )))) ?_
  refine at_d rfl rfl (opr_assign rfl rfl) ?_
  refine at_nil ?_
  refine at_then ?_
  refine at_seq ?_
  refine at_drawR (by kernel_rfl) (by kernel_rfl) (by kernel_rfl) (List.cons_ne_nil _ _) ?_
  refine drR_op rfl rfl (opr_move rfl rfl) ?_
  refine drR_op rfl rfl (opr_move rfl rfl) ?_
  refine drR_op rfl rfl (opr_nilCheck rfl rfl) ?_
  refine drR_op rfl rfl (opr_fieldAddr rfl rfl Tryd.underlying84 rfl size82 rfl rfl) ?_
  refine drR_op rfl rfl (opr_move rfl rfl) ?_
  refine drR_op rfl rfl (opr_nilCheck rfl rfl) ?_
  refine drR_op rfl rfl (opr_fieldAddr rfl rfl Tryd.underlying84 rfl size82 rfl rfl) ?_
  refine drR_last (v := .tuple #[]) rfl rfl (opr_call rfl rfl rfl Tryd.func73 (by kernel_rfl) rfl (Mul_el (iz := 1) (ix := ip + 9) (iy := ip + 9) (kz := 0) (kx := 0) (ky := 1) rfl (Nat.le_of_ble_eq_true rfl) rfl hP rfl rfl hP rfl rfl hx hy)) ?_ ?_
  · rintro _ _ ⟨_, _, _, rfl, _⟩; rfl
  rintro _ _ ⟨r9, hr9, f9, rfl, rfl⟩
  refine at_then ?_
  refine at_seq ?_
  refine at_region ?_
  refine at_d rfl rfl (opr_move rfl rfl) ?_
  refine at_d rfl rfl (opr_move rfl rfl) ?_
  refine at_d rfl rfl (opr_move rfl rfl) ?_
  refine at_d rfl rfl (opr_nilCheck rfl rfl) ?_
  refine at_d rfl rfl (opr_fieldAddr rfl rfl Tryd.underlying84 rfl size82 rfl rfl) ?_
  refine at_c rfl rfl (opr_call rfl rfl rfl Tryd.func73 (by kernel_rfl) rfl (Mul_el (iz := 2) (ix := 5) (iy := ip + 9) (kz := 0) (kx := 0) (ky := 2) rfl (Nat.le_of_ble_eq_true rfl) rfl rfl rfl rfl hP rfl rfl hr0 RR_one)) ?_
  rintro _ _ ⟨r10, hr10, f10, rfl, rfl⟩
  refine at_nil ?_
  refine at_then ?_
  refine at_seq ?_
  refine at_region ?_
  refine at_d rfl rfl (opr_move rfl rfl) ?_
  refine at_d rfl rfl (opr_move rfl rfl) ?_
  refine at_d rfl rfl (opr_move rfl rfl) ?_
  refine at_c rfl rfl (opr_call rfl rfl rfl Tryd.func74 (by kernel_rfl) rfl (Sub_el (iz := 1) (ix := 1) (iy := 2) (kz := 0) (kx := 0) (ky := 0) rfl (Nat.le_of_ble_eq_true rfl) rfl rfl rfl rfl rfl rfl rfl hr9 hr10)) ?_
  rintro _ _ ⟨r11, hr11, f11, rfl, rfl⟩
  refine at_nil ?_
  refine at_then ?_
  refine at_seq ?_
  refine at_region ?_
  refine at_d rfl rfl (opr_move rfl rfl) ?_
  refine at_d rfl rfl (opr_call rfl rfl rfl Tryd.func75 (by kernel_rfl) rfl (fIsZero_ct (ig := ig + 9) (iz := 1) (kz := 0) (t := true) hG rfl rfl rfl hr11 (isz_xy (x := el x) (y := el y) (by simp only [f0, f1, f2, f3, f4, f5, f6, f7, f8, f9, f10, f11])))) ?_
  refine at_d rfl rfl (opr_assign rfl rfl) ?_
  refine at_nil ?_
  refine at_then ?_
  refine at_seq ?_
  refine at_region ?_
  refine at_d rfl rfl (opr_move rfl rfl) ?_
  refine at_d rfl rfl (opr_move rfl rfl) ?_
  refine at_d rfl rfl (opr_move rfl rfl) ?_
  refine at_d rfl rfl (opr_pickT rfl rfl rfl) ?_
  refine at_d rfl rfl (opr_move rfl rfl) ?_
  refine at_op_skip rfl rfl ?_
  refine at_d rfl rfl (opr_pickN rfl rfl rfl) ?_
  refine at_d rfl rfl (opr_assign rfl rfl) ?_
  refine at_nil ?_
  refine at_then ?_
  refine at_ret ?_
  refine done_of (res1 Tryd.results61 (res_tmp rfl)) ⟨rfl, rfl⟩ (by repeat (first | exact List.Sublist.refl _ | apply List.Sublist.cons))
theorem fromT_ct {M : Mem} {ig Tp jd Td : Nat} (hG : M[ig]? = some ⟨3, Tp, EE [pp]⟩) (hD : M[jd]? = some ⟨0, Td, EE [dP]⟩) {ix gX TX x iy gY TY y : Nat} (hX : M[ix]? = some ⟨gX, TX, EE [x]⟩) (hY : M[iy]? = some ⟨gY, TY, EE [y]⟩) (hx : x < RR) (hy : y < RR) (hOn : On (el dP) (el x) (el y)) : Ct Tryd.prog 72 #[.pointer (some ⟨gX, 0, none⟩), .pointer (some ⟨gY, 0, none⟩)] M (fun v M' => ∃ g, v = .tuple #[.pointer (some ⟨g, 0, none⟩), .nilIface] ∧ M' = ⟨g, 84, EE [x, y, 1, x, y]⟩ :: M) := by
  refine ct_of (vs := [.pointer (some ⟨gX, 0, none⟩), .pointer (some ⟨gY, 0, none⟩)]) Tryd.func72 rfl Tryd.ntmps72 rfl fun w0 => ?_
  refine at_seq ?_
  refine at_region ?_
  refine at_d rfl rfl (opr_assign rfl rfl) ?_
  refine at_d rfl rfl (opr_assign rfl rfl) ?_
  refine at_nil ?_
  refine at_then ?_
  refine at_seq ?_
  refine at_drawG (B := []) (E := [⟨.pure [], 0, [], .v (.pointer (some ⟨gX, 0, none⟩))⟩, ⟨.pure [], 0, [], .v (.pointer (some ⟨gX, 0, none⟩))⟩, ⟨.pure [], 0, [], .v (.agg (E (x)).toArray)⟩, ⟨.pure [], 0, [], .v (.pointer (some ⟨gY, 0, none⟩))⟩, ⟨.pure [], 0, [], .v (.pointer (some ⟨gY, 0, none⟩))⟩, ⟨.pure [], 0, [], .v (.agg (E (y)).toArray)⟩, ⟨.pure [], 0, [], .v (.agg (E (1)).toArray)⟩, ⟨.pure [], 0, [], .v (.pointer (some ⟨gX, 0, none⟩))⟩, ⟨.pure [], 0, [], .v (.pointer (some ⟨gX, 0, none⟩))⟩, ⟨.pure [], 0, [], .v (.agg (E (x)).toArray)⟩, ⟨.pure [], 0, [], .v (.pointer (some ⟨gY, 0, none⟩))⟩, ⟨.pure [], 0, [], .v (.pointer (some ⟨gY, 0, none⟩))⟩, ⟨.pure [], 0, [], .v (.agg (E (y)).toArray)⟩, ⟨.pure [], 0, [], .v (.agg (EE [x, y, 1, x, y]).toArray)⟩, ⟨.alloc, 84, EE [x, y, 1, x, y], .p 14 0⟩, ⟨.pure [], 0, [], .p 14 0⟩]) (by kernel_rfl) (by kernel_rfl) (by kernel_rfl) (fun γ0 => ?_)
  refine gs_pure rfl rfl (fun M' sB sT => ?_) ?_
  · exact opr_move rfl rfl
  refine gs_pure rfl rfl (fun M' sB sT => ?_) ?_
  · exact opr_nilCheck rfl rfl
  refine gs_pure rfl rfl (fun M' sB sT => ?_) ?_
  · obtain ⟨iT2, hT2⟩ := sT _ _ hX; exact opr_load (i := iT2) rfl rfl hT2 Tryd.underlying82 rfl size82 (E_length _) (EE_at (k := 0) rfl rfl rfl)
  refine gs_pure rfl rfl (fun M' sB sT => ?_) ?_
  · exact opr_move rfl rfl
  refine gs_pure rfl rfl (fun M' sB sT => ?_) ?_
  · exact opr_nilCheck rfl rfl
  refine gs_pure rfl rfl (fun M' sB sT => ?_) ?_
  · obtain ⟨iT3, hT3⟩ := sT _ _ hY; exact opr_load (i := iT3) rfl rfl hT3 Tryd.underlying82 rfl size82 (E_length _) (EE_at (k := 0) rfl rfl rfl)
  refine gs_pure rfl rfl (fun M' sB sT => ?_) ?_
  · exact opr_call rfl rfl rfl Tryd.func83 (by kernel_rfl) rfl (fOne_ct)
  refine gs_pure rfl rfl (fun M' sB sT => ?_) ?_
  · exact opr_move rfl rfl
  refine gs_pure rfl rfl (fun M' sB sT => ?_) ?_
  · exact opr_nilCheck rfl rfl
  refine gs_pure rfl rfl (fun M' sB sT => ?_) ?_
  · obtain ⟨iT2, hT2⟩ := sT _ _ hX; exact opr_load (i := iT2) rfl rfl hT2 Tryd.underlying82 rfl size82 (E_length _) (EE_at (k := 0) rfl rfl rfl)
  refine gs_pure rfl rfl (fun M' sB sT => ?_) ?_
  · exact opr_move rfl rfl
  refine gs_pure rfl rfl (fun M' sB sT => ?_) ?_
  · exact opr_nilCheck rfl rfl
  refine gs_pure rfl rfl (fun M' sB sT => ?_) ?_
  · obtain ⟨iT3, hT3⟩ := sT _ _ hY; exact opr_load (i := iT3) rfl rfl hT3 Tryd.underlying82 rfl size82 (E_length _) (EE_at (k := 0) rfl rfl rfl)
  refine gs_pure rfl rfl (fun M' sB sT => ?_) ?_
  · exact opr_buildE (ds := EE [x, y, 1, x, y]) rfl rfl (builtp84 [(0, x), (1, y), (2, 1), (3, x), (4, y)] rfl) rfl
  refine gs_alloc rfl rfl (fun M' => opr_box rfl rfl rfl) ?_
  refine gs_pure rfl rfl (fun M' sB sT => ?_) ?_
  · exact opr_assign rfl rfl
  refine gs_nil ?_
  refine (show At _ _ (⟨(γ0 14), 84, EE [x, y, 1, x, y]⟩ :: _) _ from ?_)
  refine at_then ?_
  refine at_seq ?_
  refine at_seq ?_
  refine at_region ?_
  refine at_d rfl rfl (opr_buildE (ds := []) rfl rfl builte92 rfl) ?_
  refine at_d rfl rfl (opr_move rfl rfl) ?_
  refine at_d rfl rfl (opr_call rfl rfl rfl Tryd.func61 (by kernel_rfl) rfl (isOnT_ct (ig := ig + 1) (jd := jd + 1) (ip := 0) hG hD rfl hx hy hOn)) ?_
  refine at_d rfl rfl (opr_unOp (u := .bool false) rfl rfl (fun _ => rfl)) ?_
  refine at_nil ?_
  refine at_then ?_
  refine at_cond_false rfl ?_
  refine at_skip ?_
  refine at_then ?_
  refine at_seq ?_
  refine at_region ?_
  refine at_d rfl rfl (opr_move rfl rfl) ?_
  refine at_d rfl rfl (opr_assign rfl rfl) ?_
  refine at_d rfl rfl (opr_assign rfl rfl) ?_
  refine at_nil ?_
  refine at_then ?_
  refine at_ret ?_
  exact done_of (res2 Tryd.results72 (res_tmp rfl) (res_tmp rfl)) ⟨_, rfl, rfl⟩ (by repeat (first | exact List.Sublist.refl _ | apply List.Sublist.cons_cons | apply List.Sublist.cons))
theorem fromF_ct {M : Mem} {ig Tp jd Td : Nat} (hG : M[ig]? = some ⟨3, Tp, EE [pp]⟩) (hD : M[jd]? = some ⟨0, Td, EE [dP]⟩) {ix gX TX x iy gY TY y : Nat} (hX : M[ix]? = some ⟨gX, TX, EE [x]⟩) (hY : M[iy]? = some ⟨gY, TY, EE [y]⟩) (hx : x < RR) (hy : y < RR) (hOn : ¬On (el dP) (el x) (el y)) : Ct Tryd.prog 72 #[.pointer (some ⟨gX, 0, none⟩), .pointer (some ⟨gY, 0, none⟩)] M (fun v M' => ∃ g X e, v = .tuple #[.pointer (some ⟨g, 0, none⟩), .iface X e] ∧ M' = ⟨g, 84, EE [x, y, 1, x, y]⟩ :: M) := by
  refine ct_of (vs := [.pointer (some ⟨gX, 0, none⟩), .pointer (some ⟨gY, 0, none⟩)]) Tryd.func72 rfl Tryd.ntmps72 rfl fun w0 => ?_
  refine at_seq ?_
  refine at_region ?_
  refine at_d rfl rfl (opr_assign rfl rfl) ?_
  refine at_d rfl rfl (opr_assign rfl rfl) ?_
  refine at_nil ?_
  refine at_then ?_
  refine at_seq ?_
  refine at_drawG (B := []) (E := [⟨.pure [], 0, [], .v (.pointer (some ⟨gX, 0, none⟩))⟩, ⟨.pure [], 0, [], .v (.pointer (some ⟨gX, 0, none⟩))⟩, ⟨.pure [], 0, [], .v (.agg (E (x)).toArray)⟩, ⟨.pure [], 0, [], .v (.pointer (some ⟨gY, 0, none⟩))⟩, ⟨.pure [], 0, [], .v (.pointer (some ⟨gY, 0, none⟩))⟩, ⟨.pure [], 0, [], .v (.agg (E (y)).toArray)⟩, ⟨.pure [], 0, [], .v (.agg (E (1)).toArray)⟩, ⟨.pure [], 0, [], .v (.pointer (some ⟨gX, 0, none⟩))⟩, ⟨.pure [], 0, [], .v (.pointer (some ⟨gX, 0, none⟩))⟩, ⟨.pure [], 0, [], .v (.agg (E (x)).toArray)⟩, ⟨.pure [], 0, [], .v (.pointer (some ⟨gY, 0, none⟩))⟩, ⟨.pure [], 0, [], .v (.pointer (some ⟨gY, 0, none⟩))⟩, ⟨.pure [], 0, [], .v (.agg (E (y)).toArray)⟩, ⟨.pure [], 0, [], .v (.agg (EE [x, y, 1, x, y]).toArray)⟩, ⟨.alloc, 84, EE [x, y, 1, x, y], .p 14 0⟩, ⟨.pure [], 0, [], .p 14 0⟩]) (by kernel_rfl) (by kernel_rfl) (by kernel_rfl) (fun γ0 => ?_)
  refine gs_pure rfl rfl (fun M' sB sT => ?_) ?_
  · exact opr_move rfl rfl
  refine gs_pure rfl rfl (fun M' sB sT => ?_) ?_
  · exact opr_nilCheck rfl rfl
  refine gs_pure rfl rfl (fun M' sB sT => ?_) ?_
  · obtain ⟨iT2, hT2⟩ := sT _ _ hX; exact opr_load (i := iT2) rfl rfl hT2 Tryd.underlying82 rfl size82 (E_length _) (EE_at (k := 0) rfl rfl rfl)
  refine gs_pure rfl rfl (fun M' sB sT => ?_) ?_
  · exact opr_move rfl rfl
  refine gs_pure rfl rfl (fun M' sB sT => ?_) ?_
  · exact opr_nilCheck rfl rfl
  refine gs_pure rfl rfl (fun M' sB sT => ?_) ?_
  · obtain ⟨iT3, hT3⟩ := sT _ _ hY; exact opr_load (i := iT3) rfl rfl hT3 Tryd.underlying82 rfl size82 (E_length _) (EE_at (k := 0) rfl rfl rfl)
  refine gs_pure rfl rfl (fun M' sB sT => ?_) ?_
  · exact opr_call rfl rfl rfl Tryd.func83 (by kernel_rfl) rfl (fOne_ct)
  refine gs_pure rfl rfl (fun M' sB sT => ?_) ?_
  · exact opr_move rfl rfl
  refine gs_pure rfl rfl (fun M' sB sT => ?_) ?_
  · exact opr_nilCheck rfl rfl
  refine gs_pure rfl rfl (fun M' sB sT => ?_) ?_
  · obtain ⟨iT2, hT2⟩ := sT _ _ hX; exact opr_load (i := iT2) rfl rfl hT2 Tryd.underlying82 rfl size82 (E_length _) (EE_at (k := 0) rfl rfl rfl)
  refine gs_pure rfl rfl (fun M' sB sT => ?_) ?_
  · exact opr_move rfl rfl
  refine gs_pure rfl rfl (fun M' sB sT => ?_) ?_
  · exact opr_nilCheck rfl rfl
  refine gs_pure rfl rfl (fun M' sB sT => ?_) ?_
  · obtain ⟨iT3, hT3⟩ := sT _ _ hY; exact opr_load (i := iT3) rfl rfl hT3 Tryd.underlying82 rfl size82 (E_length _) (EE_at (k := 0) rfl rfl rfl)
  refine gs_pure rfl rfl (fun M' sB sT => ?_) ?_
  · exact opr_buildE (ds := EE [x, y, 1, x, y]) rfl rfl (builtp84 [(0, x), (1, y), (2, 1), (3, x), (4, y)] rfl) rfl
  refine gs_alloc rfl rfl (fun M' => opr_box rfl rfl rfl) ?_
  refine gs_pure rfl rfl (fun M' sB sT => ?_) ?_
  · exact opr_assign rfl rfl
  refine gs_nil ?_
  refine (show At _ _ (⟨(γ0 14), 84, EE [x, y, 1, x, y]⟩ :: _) _ from ?_)
  refine at_then ?_
  refine at_seq ?_
  refine at_seq ?_
  refine at_region ?_
  refine at_d rfl rfl (opr_buildE (ds := []) rfl rfl builte92 rfl) ?_
  refine at_d rfl rfl (opr_move rfl rfl) ?_
  refine at_d rfl rfl (opr_call rfl rfl rfl Tryd.func61 (by kernel_rfl) rfl (isOnF_ct (ig := ig + 1) (jd := jd + 1) (ip := 0) hG hD rfl hx hy hOn)) ?_
  refine at_d rfl rfl (opr_unOp (u := .bool true) rfl rfl (fun _ => rfl)) ?_
  refine at_nil ?_
  refine at_then ?_
  refine at_cond_true rfl ?_
  refine at_seq ?_
  refine at_region ?_
  refine at_d rfl rfl (opr_move rfl rfl) ?_
  refine at_c rfl rfl (opr_call rfl rfl rfl Tryd.func80 (by kernel_rfl) rfl (errNew_ct)) ?_
  rintro _ _ ⟨⟨X, e, rfl⟩, rfl⟩
  refine at_d rfl rfl (opr_assign rfl rfl) ?_
  refine at_d rfl rfl (opr_assign rfl rfl) ?_
  refine at_nil ?_
  refine at_then ?_
  refine at_ret ?_
  refine at_then_ret ?_
  exact done_of (res2 Tryd.results72 (res_tmp rfl) (res_tmp rfl)) ⟨_, _, _, rfl, rfl⟩ (by repeat (first | exact List.Sublist.refl _ | apply List.Sublist.cons_cons | apply List.Sublist.cons))
theorem pointT_ct {M : Mem} {ig Tp jd Td : Nat} (hG : M[ig]? = some ⟨3, Tp, EE [pp]⟩) (hD : M[jd]? = some ⟨0, Td, EE [dP]⟩) {x y : Nat} (hx : x < RR) (hy : y < RR) (hOn : On (el dP) (el x) (el y)) : Ct Tryd.prog 43 #[.agg (EE [x, y]).toArray] M (fun v M' => ∃ g, v = .tuple #[.pointer (some ⟨g, 0, none⟩), .bool true] ∧ M' = ⟨g, 84, EE [x, y, 1, x, y]⟩ :: M) := by
  refine ct_of (vs := [.agg (EE [x, y]).toArray]) Tryd.func43 rfl Tryd.ntmps43 rfl fun w0 => ?_
  refine at_seq ?_
  refine at_region ?_
  refine at_n rfl rfl (opr_box rfl rfl rfl) ?_
  intro g0
  refine at_d rfl rfl (opr_assign rfl rfl) ?_
  refine at_d rfl rfl (opr_assign rfl rfl) ?_
  refine at_nil ?_
  refine at_then ?_
  refine at_seq ?_
  refine at_drawG (B := [⟨g0, 24, EE [x, y]⟩]) (E := [⟨.pure [], 0, [], .v (.pointer (some ⟨g0, 0, none⟩))⟩, ⟨.pure [0], 0, [], .v (.agg (E (x)).toArray)⟩, ⟨.pure [], 0, [], .v (.pointer (some ⟨g0, 56, none⟩))⟩, ⟨.pure [0], 0, [], .v (.agg (E (y)).toArray)⟩, ⟨.alloc, 82, EE [0], .p 4 0⟩, ⟨.alloc, 82, EE [0], .p 5 0⟩, ⟨.storeA 4, 0, EE [x], .v undef⟩, ⟨.storeA 5, 0, EE [y], .v undef⟩]) (by kernel_rfl) (by kernel_rfl) (by kernel_rfl) (fun γ0 => ?_)
  refine gs_pure rfl rfl (fun M' sB sT => ?_) ?_
  · exact opr_fieldAddr rfl rfl Tryd.underlying24 rfl size22 rfl rfl
  refine gs_pure rfl rfl (fun M' sB sT => ?_) ?_
  · obtain ⟨iB0, hB0⟩ := sB 0 _ rfl rfl; exact opr_load (i := iB0) rfl rfl hB0 Tryd.underlying22 rfl size22 (E_length _) (EE_at (k := 0) rfl rfl rfl)
  refine gs_pure rfl rfl (fun M' sB sT => ?_) ?_
  · exact opr_fieldAddr rfl rfl Tryd.underlying24 rfl size22 rfl rfl
  refine gs_pure rfl rfl (fun M' sB sT => ?_) ?_
  · obtain ⟨iB0, hB0⟩ := sB 0 _ rfl rfl; exact opr_load (i := iB0) rfl rfl hB0 Tryd.underlying22 rfl size22 (E_length _) (EE_at (k := 1) rfl rfl rfl)
  refine gs_alloc rfl rfl (fun M' => opr_alloc rfl zero82 rfl) ?_
  refine gs_alloc rfl rfl (fun M' => opr_alloc rfl zero82 rfl) ?_
  refine gs_storeA rfl rfl rfl rfl rfl (fun M' j hj => opr_store (i := j) rfl rfl rfl rfl hj size82 (E_length _) (by rw [EE_length]; exact Nat.le_of_ble_eq_true rfl) (E_flat _) (EE_set (k := 0) (Nat.le_of_ble_eq_true rfl) rfl)) ?_
  refine gs_storeA rfl rfl rfl rfl rfl (fun M' j hj => opr_store (i := j) rfl rfl rfl rfl hj size82 (E_length _) (by rw [EE_length]; exact Nat.le_of_ble_eq_true rfl) (E_flat _) (EE_set (k := 0) (Nat.le_of_ble_eq_true rfl) rfl)) ?_
  refine gs_nil ?_
  refine (show At _ _ (⟨(γ0 5), 82, EE [y]⟩ :: ⟨(γ0 4), 82, EE [x]⟩ :: ⟨g0, 24, EE [x, y]⟩ :: _) _ from ?_)
  refine at_then ?_
  refine at_seq ?_
  refine at_region ?_
  refine at_c rfl rfl (opr_call rfl rfl rfl Tryd.func72 (by kernel_rfl) rfl (fromT_ct (ig := ig + 3) (jd := jd + 3) (ix := 1) (iy := 0) hG hD rfl rfl hx hy hOn)) ?_
  rintro _ _ ⟨gN, rfl, rfl⟩
  refine at_d rfl rfl (opr_move rfl rfl) ?_
  refine at_d rfl rfl (opr_extract rfl rfl rfl) ?_
  refine at_d rfl rfl (opr_extract rfl rfl rfl) ?_
  refine at_d rfl rfl (opr_assign rfl rfl) ?_
  refine at_d rfl rfl (opr_assign rfl rfl) ?_
  refine at_nil ?_
  refine at_then ?_
  refine at_seq ?_
  refine at_drawQ (by kernel_rfl) (by kernel_rfl) (List.cons_ne_nil _ _) ?_
  refine dr_op rfl rfl (opr_move rfl rfl) ?_
  refine dr_op rfl rfl (opr_move rfl rfl) ?_
  refine dr_op rfl rfl (opr_eqlNil rfl rfl (by kernel_rfl)) ?_
  refine dr_op rfl rfl (opr_assign rfl rfl) ?_
  refine dr_last rfl rfl (opr_assign rfl rfl) ?_
  refine ⟨rfl, ?_⟩
  refine at_then ?_
  refine at_ret ?_
  exact done_of (res2 Tryd.results43 (res_tmp rfl) (res_tmp rfl)) ⟨_, rfl, rfl⟩ (by repeat (first | exact List.Sublist.refl _ | apply List.Sublist.cons_cons | apply List.Sublist.cons))
theorem pointF_ct {M : Mem} {ig Tp jd Td : Nat} (hG : M[ig]? = some ⟨3, Tp, EE [pp]⟩) (hD : M[jd]? = some ⟨0, Td, EE [dP]⟩) {x y : Nat} (hx : x < RR) (hy : y < RR) (hOn : ¬On (el dP) (el x) (el y)) : Ct Tryd.prog 43 #[.agg (EE [x, y]).toArray] M (fun v M' => ∃ g, v = .tuple #[.pointer (some ⟨g, 0, none⟩), .bool false] ∧ M' = ⟨g, 84, EE [x, y, 1, x, y]⟩ :: M) := by
  refine ct_of (vs := [.agg (EE [x, y]).toArray]) Tryd.func43 rfl Tryd.ntmps43 rfl fun w0 => ?_
  refine at_seq ?_
  refine at_region ?_
  refine at_n rfl rfl (opr_box rfl rfl rfl) ?_
  intro g0
  refine at_d rfl rfl (opr_assign rfl rfl) ?_
  refine at_d rfl rfl (opr_assign rfl rfl) ?_
  refine at_nil ?_
  refine at_then ?_
  refine at_seq ?_
  refine at_drawG (B := [⟨g0, 24, EE [x, y]⟩]) (E := [⟨.pure [], 0, [], .v (.pointer (some ⟨g0, 0, none⟩))⟩, ⟨.pure [0], 0, [], .v (.agg (E (x)).toArray)⟩, ⟨.pure [], 0, [], .v (.pointer (some ⟨g0, 56, none⟩))⟩, ⟨.pure [0], 0, [], .v (.agg (E (y)).toArray)⟩, ⟨.alloc, 82, EE [0], .p 4 0⟩, ⟨.alloc, 82, EE [0], .p 5 0⟩, ⟨.storeA 4, 0, EE [x], .v undef⟩, ⟨.storeA 5, 0, EE [y], .v undef⟩]) (by kernel_rfl) (by kernel_rfl) (by kernel_rfl) (fun γ0 => ?_)
  refine gs_pure rfl rfl (fun M' sB sT => ?_) ?_
  · exact opr_fieldAddr rfl rfl Tryd.underlying24 rfl size22 rfl rfl
  refine gs_pure rfl rfl (fun M' sB sT => ?_) ?_
  · obtain ⟨iB0, hB0⟩ := sB 0 _ rfl rfl; exact opr_load (i := iB0) rfl rfl hB0 Tryd.underlying22 rfl size22 (E_length _) (EE_at (k := 0) rfl rfl rfl)
  refine gs_pure rfl rfl (fun M' sB sT => ?_) ?_
  · exact opr_fieldAddr rfl rfl Tryd.underlying24 rfl size22 rfl rfl
  refine gs_pure rfl rfl (fun M' sB sT => ?_) ?_
  · obtain ⟨iB0, hB0⟩ := sB 0 _ rfl rfl; exact opr_load (i := iB0) rfl rfl hB0 Tryd.underlying22 rfl size22 (E_length _) (EE_at (k := 1) rfl rfl rfl)
  refine gs_alloc rfl rfl (fun M' => opr_alloc rfl zero82 rfl) ?_
  refine gs_alloc rfl rfl (fun M' => opr_alloc rfl zero82 rfl) ?_
  refine gs_storeA rfl rfl rfl rfl rfl (fun M' j hj => opr_store (i := j) rfl rfl rfl rfl hj size82 (E_length _) (by rw [EE_length]; exact Nat.le_of_ble_eq_true rfl) (E_flat _) (EE_set (k := 0) (Nat.le_of_ble_eq_true rfl) rfl)) ?_
  refine gs_storeA rfl rfl rfl rfl rfl (fun M' j hj => opr_store (i := j) rfl rfl rfl rfl hj size82 (E_length _) (by rw [EE_length]; exact Nat.le_of_ble_eq_true rfl) (E_flat _) (EE_set (k := 0) (Nat.le_of_ble_eq_true rfl) rfl)) ?_
  refine gs_nil ?_
  refine (show At _ _ (⟨(γ0 5), 82, EE [y]⟩ :: ⟨(γ0 4), 82, EE [x]⟩ :: ⟨g0, 24, EE [x, y]⟩ :: _) _ from ?_)
  refine at_then ?_
  refine at_seq ?_
  refine at_region ?_
  refine at_c rfl rfl (opr_call rfl rfl rfl Tryd.func72 (by kernel_rfl) rfl (fromF_ct (ig := ig + 3) (jd := jd + 3) (ix := 1) (iy := 0) hG hD rfl rfl hx hy hOn)) ?_
  rintro _ _ ⟨gN, X, e, rfl, rfl⟩
  refine at_d rfl rfl (opr_move rfl rfl) ?_
  refine at_d rfl rfl (opr_extract rfl rfl rfl) ?_
  refine at_d rfl rfl (opr_extract rfl rfl rfl) ?_
  refine at_d rfl rfl (opr_assign rfl rfl) ?_
  refine at_d rfl rfl (opr_assign rfl rfl) ?_
  refine at_nil ?_
  refine at_then ?_
  refine at_seq ?_
  refine at_drawQ (by kernel_rfl) (by kernel_rfl) (List.cons_ne_nil _ _) ?_
  refine dr_op rfl rfl (opr_move rfl rfl) ?_
  refine dr_op rfl rfl (opr_move rfl rfl) ?_
  refine dr_op rfl rfl (opr_eqlHeld rfl rfl (by kernel_rfl)) ?_
  refine dr_op rfl rfl (opr_assign rfl rfl) ?_
  refine dr_last rfl rfl (opr_assign rfl rfl) ?_
  refine ⟨rfl, ?_⟩
  refine at_then ?_
  refine at_ret ?_
  exact done_of (res2 Tryd.results43 (res_tmp rfl) (res_tmp rfl)) ⟨_, rfl, rfl⟩ (by repeat (first | exact List.Sublist.refl _ | apply List.Sublist.cons_cons | apply List.Sublist.cons))
theorem iOnCurveT_ct {M : Mem} {ig Tp jd Td : Nat} (hG : M[ig]? = some ⟨3, Tp, EE [pp]⟩) (hD : M[jd]? = some ⟨0, Td, EE [dP]⟩) {x y : Nat} (hx : x < RR) (hy : y < RR) (hOn : On (el dP) (el x) (el y)) : Ct Tryd.prog 29 #[.agg (EE [x, y]).toArray] M (Det (.bool true) M) := by
  refine ct_of (vs := [.agg (EE [x, y]).toArray]) Tryd.func29 rfl Tryd.ntmps29 rfl fun w0 => ?_
  refine at_seq ?_
  refine at_region ?_
  refine at_n rfl rfl (opr_box rfl rfl rfl) ?_
  intro g0
  refine at_d rfl rfl (opr_assign rfl rfl) ?_
  refine at_nil ?_
  refine at_then ?_
  refine at_seq ?_
  refine at_region ?_
  refine at_d rfl rfl (opr_load (i := 0) rfl rfl rfl Tryd.underlying24 rfl size24 (EE_length _) (EE_all rfl)) ?_
  refine at_c rfl rfl (opr_call rfl rfl rfl Tryd.func43 (by kernel_rfl) rfl (pointT_ct (ig := ig + 1) (jd := jd + 1) hG hD hx hy hOn)) ?_
  rintro _ _ ⟨gN1, rfl, rfl⟩
  refine at_d rfl rfl (opr_move rfl rfl) ?_
  refine at_d rfl rfl (opr_extract rfl rfl rfl) ?_
  refine at_d rfl rfl (opr_extract rfl rfl rfl) ?_
  refine at_d rfl rfl (opr_assign rfl rfl) ?_
  refine at_d rfl rfl (opr_assign rfl rfl) ?_
  refine at_nil ?_
  refine at_then ?_
  refine at_seq ?_
  refine at_region ?_
  refine at_d rfl rfl (opr_move rfl rfl) ?_
  refine at_d rfl rfl (opr_move rfl rfl) ?_
  refine at_d rfl rfl (opr_buildE (ds := []) rfl rfl builte92 rfl) ?_
  refine at_d rfl rfl (opr_move rfl rfl) ?_
  refine at_d rfl rfl (opr_call rfl rfl rfl Tryd.func61 (by kernel_rfl) rfl (isOnT_ct (ig := ig + 2) (jd := jd + 2) (ip := 0) hG hD rfl hx hy hOn)) ?_
  refine at_d rfl rfl (opr_pickT rfl rfl rfl) ?_
  refine at_d rfl rfl (opr_assign rfl rfl) ?_
  refine at_nil ?_
  refine at_then ?_
  refine at_ret ?_
  refine done_of (res1 Tryd.results29 (res_tmp rfl)) ⟨rfl, rfl⟩ (by repeat (first | exact List.Sublist.refl _ | apply List.Sublist.cons))
theorem iOnCurveF_ct {M : Mem} {ig Tp jd Td : Nat} (hG : M[ig]? = some ⟨3, Tp, EE [pp]⟩) (hD : M[jd]? = some ⟨0, Td, EE [dP]⟩) {x y : Nat} (hx : x < RR) (hy : y < RR) (hOn : ¬On (el dP) (el x) (el y)) : Ct Tryd.prog 29 #[.agg (EE [x, y]).toArray] M (Det (.bool false) M) := by
  refine ct_of (vs := [.agg (EE [x, y]).toArray]) Tryd.func29 rfl Tryd.ntmps29 rfl fun w0 => ?_
  refine at_seq ?_
  refine at_region ?_
  refine at_n rfl rfl (opr_box rfl rfl rfl) ?_
  intro g0
  refine at_d rfl rfl (opr_assign rfl rfl) ?_
  refine at_nil ?_
  refine at_then ?_
  refine at_seq ?_
  refine at_region ?_
  refine at_d rfl rfl (opr_load (i := 0) rfl rfl rfl Tryd.underlying24 rfl size24 (EE_length _) (EE_all rfl)) ?_
  refine at_c rfl rfl (opr_call rfl rfl rfl Tryd.func43 (by kernel_rfl) rfl (pointF_ct (ig := ig + 1) (jd := jd + 1) hG hD hx hy hOn)) ?_
  rintro _ _ ⟨gN1, rfl, rfl⟩
  refine at_d rfl rfl (opr_move rfl rfl) ?_
  refine at_d rfl rfl (opr_extract rfl rfl rfl) ?_
  refine at_d rfl rfl (opr_extract rfl rfl rfl) ?_
  refine at_d rfl rfl (opr_assign rfl rfl) ?_
  refine at_d rfl rfl (opr_assign rfl rfl) ?_
  refine at_nil ?_
  refine at_then ?_
  refine at_seq ?_
  refine at_region ?_
  refine at_d rfl rfl (opr_move rfl rfl) ?_
  refine at_d rfl rfl (opr_move rfl rfl) ?_
  refine at_op_skip rfl rfl ?_
  refine at_op_skip rfl rfl ?_
  refine at_op_skip rfl rfl ?_
  refine at_d rfl rfl (opr_pickN rfl rfl rfl) ?_
  refine at_d rfl rfl (opr_assign rfl rfl) ?_
  refine at_nil ?_
  refine at_then ?_
  refine at_ret ?_
  refine done_of (res1 Tryd.results29 (res_tmp rfl)) ⟨rfl, rfl⟩ (by repeat (first | exact List.Sublist.refl _ | apply List.Sublist.cons))
theorem setOne_ct {M : Mem} {iz gz Tz kz oz : Nat} {lz : List Nat} (hz : M[iz]? = some ⟨gz, Tz, EE lz⟩) (hkz : kz < lz.length) (hoz : 56 * kz = oz) : Ct Tryd.prog 98 #[.pointer (some ⟨gz, oz, none⟩)] M (Det (.tuple #[]) (M.set iz ⟨gz, Tz, EE (lz.set kz 1)⟩)) := by
  refine ct_of (vs := [.pointer (some ⟨gz, oz, none⟩)]) Tryd.func98 rfl Tryd.ntmps98 rfl fun w0 => ?_
  refine at_region ?_
  refine at_d rfl rfl (opr_move rfl rfl) ?_
  refine at_d rfl rfl (opr_buildE rfl rfl built_eone (E_small (by decide))) ?_
  refine at_d rfl rfl (opr_nilCheck rfl rfl) ?_
  refine at_d rfl rfl (opr_store (i := iz) rfl rfl rfl rfl hz size82 (E_length _) (by rw [EE_length]; omega) (E_flat _) (EE_set hkz hoz)) ?_
  refine at_nil ?_
  exact done_of (res0 rfl) ⟨rfl, rfl⟩ (List.Sublist.refl _)
theorem toAff_ct {M : Mem} {ig Tp : Nat} (hG : M[ig]? = some ⟨3, Tp, EE [pp]⟩) {ip gP TP x y z a b : Nat} (hP : M[ip]? = some ⟨gP, TP, EE [x, y, z, a, b]⟩) (hne : ip ≠ ig) (hx : x < RR) (hy : y < RR) (hz : z < RR) : Ct Tryd.prog 88 #[.pointer (some ⟨gP, 0, none⟩)] M (Det (.tuple #[.agg (E (x * invp z % pp)).toArray, .agg (E (y * invp z % pp)).toArray]) (M.set ip ⟨gP, TP, EE [x * invp z % pp, y * invp z % pp, 1, x * invp z % pp, y * invp z % pp]⟩)) := by
  refine ct_of (vs := [.pointer (some ⟨gP, 0, none⟩)]) Tryd.func88 rfl Tryd.ntmps88 rfl fun w0 => ?_
  refine at_seq ?_
  refine at_region ?_
  refine at_n rfl rfl (opr_alloc rfl zero82 rfl) ?_
  intro g0
  refine at_n rfl rfl (opr_alloc rfl zero82 rfl) ?_
  intro g1
  refine at_nil ?_
  refine at_then ?_
  refine at_seq ?_
  refine at_drawR (by kernel_rfl) (by kernel_rfl) (by kernel_rfl) (List.cons_ne_nil _ _) ?_
  refine drR_op rfl rfl (opr_move rfl rfl) ?_
  refine drR_op rfl rfl (opr_nilCheck rfl rfl) ?_
  refine drR_op rfl rfl (opr_fieldAddr rfl rfl Tryd.underlying84 rfl size82 rfl rfl) ?_
  refine drR_op rfl rfl (opr_move rfl rfl) ?_
  refine drR_op rfl rfl (opr_nilCheck rfl rfl) ?_
  refine drR_op rfl rfl (opr_fieldAddr rfl rfl Tryd.underlying84 rfl size82 rfl rfl) ?_
  refine drR_last (v := .tuple #[]) rfl rfl (opr_call rfl rfl rfl Tryd.func97 (by kernel_rfl) rfl (Inv_ct (iz := ip + 2) (ix := ip + 2) (kz := 2) (kx := 2) hP (Nat.le_of_ble_eq_true rfl) rfl hP rfl rfl hz)) ?_ ?_
  · rintro _ _ ⟨_, _, _, rfl, _⟩; rfl
  rintro _ _ ⟨r, hr, hrm, rfl, rfl⟩
  have hb1 : (M.set ip ⟨gP, TP, EE [x, y, r, a, b]⟩)[ip]? = some ⟨gP, TP, EE [x, y, r, a, b]⟩ := get_set hP
  have hb1_3 : (M.set ip ⟨gP, TP, EE [x, y, r, a, b]⟩)[ig]? = some ⟨3, Tp, EE [pp]⟩ := get_set_ne hG hne
  refine at_mem (M2 := ⟨g1, 82, EE [0]⟩ :: ⟨g0, 82, EE [0]⟩ :: (M.set ip ⟨gP, TP, EE [x, y, r, a, b]⟩)) (by simp) ?_
  refine at_then ?_
  refine at_seq ?_
  refine at_drawR (by kernel_rfl) (by kernel_rfl) (by kernel_rfl) (List.cons_ne_nil _ _) ?_
  refine drR_op rfl rfl (opr_move rfl rfl) ?_
  refine drR_op rfl rfl (opr_nilCheck rfl rfl) ?_
  refine drR_op rfl rfl (opr_fieldAddr rfl rfl Tryd.underlying84 rfl size82 rfl rfl) ?_
  refine drR_op rfl rfl (opr_move rfl rfl) ?_
  refine drR_op rfl rfl (opr_nilCheck rfl rfl) ?_
  refine drR_op rfl rfl (opr_fieldAddr rfl rfl Tryd.underlying84 rfl size82 rfl rfl) ?_
  refine drR_op rfl rfl (opr_move rfl rfl) ?_
  refine drR_op rfl rfl (opr_nilCheck rfl rfl) ?_
  refine drR_op rfl rfl (opr_fieldAddr rfl rfl Tryd.underlying84 rfl size82 rfl rfl) ?_
  refine drR_last (v := .tuple #[]) rfl rfl (opr_call rfl rfl rfl Tryd.func73 (by kernel_rfl) rfl (Mul_ct (iz := ip + 2) (ix := ip + 2) (iy := ip + 2) (kz := 0) (kx := 0) (ky := 2) hb1 (Nat.le_of_ble_eq_true rfl) rfl hb1 rfl rfl hb1 rfl rfl hx hr)) ?_ ?_
  · rintro _ _ ⟨_, _, _, rfl, _⟩; rfl
  rintro _ _ ⟨q, hq, hqm, rfl, rfl⟩
  have hqm := aff_eq hrm hqm
  have hb2 : (M.set ip ⟨gP, TP, EE [q, y, r, a, b]⟩)[ip]? = some ⟨gP, TP, EE [q, y, r, a, b]⟩ := get_set hP
  have hb2_3 : (M.set ip ⟨gP, TP, EE [q, y, r, a, b]⟩)[ig]? = some ⟨3, Tp, EE [pp]⟩ := get_set_ne hG hne
  refine at_mem (M2 := ⟨g1, 82, EE [0]⟩ :: ⟨g0, 82, EE [0]⟩ :: (M.set ip ⟨gP, TP, EE [q, y, r, a, b]⟩)) (by simp) ?_
  refine at_then ?_
  refine at_seq ?_
  refine at_drawR (by kernel_rfl) (by kernel_rfl) (by kernel_rfl) (List.cons_ne_nil _ _) ?_
  refine drR_op rfl rfl (opr_move rfl rfl) ?_
  refine drR_op rfl rfl (opr_nilCheck rfl rfl) ?_
  refine drR_op rfl rfl (opr_fieldAddr rfl rfl Tryd.underlying84 rfl size82 rfl rfl) ?_
  refine drR_op rfl rfl (opr_move rfl rfl) ?_
  refine drR_op rfl rfl (opr_nilCheck rfl rfl) ?_
  refine drR_op rfl rfl (opr_fieldAddr rfl rfl Tryd.underlying84 rfl size82 rfl rfl) ?_
  refine drR_op rfl rfl (opr_move rfl rfl) ?_
  refine drR_op rfl rfl (opr_nilCheck rfl rfl) ?_
  refine drR_op rfl rfl (opr_fieldAddr rfl rfl Tryd.underlying84 rfl size82 rfl rfl) ?_
  refine drR_last (v := .tuple #[]) rfl rfl (opr_call rfl rfl rfl Tryd.func73 (by kernel_rfl) rfl (Mul_ct (iz := ip + 2) (ix := ip + 2) (iy := ip + 2) (kz := 1) (kx := 1) (ky := 2) hb2 (Nat.le_of_ble_eq_true rfl) rfl hb2 rfl rfl hb2 rfl rfl hy hr)) ?_ ?_
  · rintro _ _ ⟨_, _, _, rfl, _⟩; rfl
  rintro _ _ ⟨p, hp, hpm, rfl, rfl⟩
  have hpm := aff_eq hrm hpm
  have hb3 : (M.set ip ⟨gP, TP, EE [q, p, r, a, b]⟩)[ip]? = some ⟨gP, TP, EE [q, p, r, a, b]⟩ := get_set hP
  have hb3_3 : (M.set ip ⟨gP, TP, EE [q, p, r, a, b]⟩)[ig]? = some ⟨3, Tp, EE [pp]⟩ := get_set_ne hG hne
  refine at_mem (M2 := ⟨g1, 82, EE [0]⟩ :: ⟨g0, 82, EE [0]⟩ :: (M.set ip ⟨gP, TP, EE [q, p, r, a, b]⟩)) (by simp) ?_
  refine at_then ?_
  refine at_seq ?_
  refine at_region ?_
  refine at_d rfl rfl (opr_move rfl rfl) ?_
  refine at_d rfl rfl (opr_nilCheck rfl rfl) ?_
  refine at_d rfl rfl (opr_fieldAddr rfl rfl Tryd.underlying84 rfl size82 rfl rfl) ?_
  refine at_d rfl rfl (opr_call rfl rfl rfl Tryd.func86 (by kernel_rfl) rfl (modp_ct (ig := ig + 2) (iz := ip + 2) (kz := 0) hb3_3 hb3 rfl rfl hq)) ?_
  have hb4 : (M.set ip ⟨gP, TP, EE [(q % pp), p, r, a, b]⟩)[ip]? = some ⟨gP, TP, EE [(q % pp), p, r, a, b]⟩ := get_set hP
  have hb4_3 : (M.set ip ⟨gP, TP, EE [(q % pp), p, r, a, b]⟩)[ig]? = some ⟨3, Tp, EE [pp]⟩ := get_set_ne hG hne
  refine at_mem (M2 := ⟨g1, 82, EE [0]⟩ :: ⟨g0, 82, EE [0]⟩ :: (M.set ip ⟨gP, TP, EE [(q % pp), p, r, a, b]⟩)) (by simp) ?_
  refine at_nil ?_
  refine at_then ?_
  refine at_seq ?_
  refine at_region ?_
  refine at_d rfl rfl (opr_move rfl rfl) ?_
  refine at_d rfl rfl (opr_nilCheck rfl rfl) ?_
  refine at_d rfl rfl (opr_fieldAddr rfl rfl Tryd.underlying84 rfl size82 rfl rfl) ?_
  refine at_d rfl rfl (opr_call rfl rfl rfl Tryd.func86 (by kernel_rfl) rfl (modp_ct (ig := ig + 2) (iz := ip + 2) (kz := 1) hb4_3 hb4 rfl rfl hp)) ?_
  have hb5 : (M.set ip ⟨gP, TP, EE [(q % pp), (p % pp), r, a, b]⟩)[ip]? = some ⟨gP, TP, EE [(q % pp), (p % pp), r, a, b]⟩ := get_set hP
  have hb5_3 : (M.set ip ⟨gP, TP, EE [(q % pp), (p % pp), r, a, b]⟩)[ig]? = some ⟨3, Tp, EE [pp]⟩ := get_set_ne hG hne
  refine at_mem (M2 := ⟨g1, 82, EE [0]⟩ :: ⟨g0, 82, EE [0]⟩ :: (M.set ip ⟨gP, TP, EE [(q % pp), (p % pp), r, a, b]⟩)) (by simp) ?_
  refine at_nil ?_
  refine at_then ?_
  refine at_seq ?_
  refine at_region ?_
  refine at_d rfl rfl (opr_move rfl rfl) ?_
  refine at_d rfl rfl (opr_nilCheck rfl rfl) ?_
  refine at_d rfl rfl (opr_fieldAddr rfl rfl Tryd.underlying84 rfl size82 rfl rfl) ?_
  refine at_d rfl rfl (opr_call rfl rfl rfl Tryd.func98 (by kernel_rfl) rfl (setOne_ct (iz := ip + 2) (kz := 2) hb5 (Nat.le_of_ble_eq_true rfl) rfl)) ?_
  have hb6 : (M.set ip ⟨gP, TP, EE [(q % pp), (p % pp), 1, a, b]⟩)[ip]? = some ⟨gP, TP, EE [(q % pp), (p % pp), 1, a, b]⟩ := get_set hP
  have hb6_3 : (M.set ip ⟨gP, TP, EE [(q % pp), (p % pp), 1, a, b]⟩)[ig]? = some ⟨3, Tp, EE [pp]⟩ := get_set_ne hG hne
  refine at_mem (M2 := ⟨g1, 82, EE [0]⟩ :: ⟨g0, 82, EE [0]⟩ :: (M.set ip ⟨gP, TP, EE [(q % pp), (p % pp), 1, a, b]⟩)) (by simp) ?_
  refine at_nil ?_
  refine at_then ?_
  refine at_seq ?_
  refine at_region ?_
  refine at_d rfl rfl (opr_move rfl rfl) ?_
  refine at_d rfl rfl (opr_move rfl rfl) ?_
  refine at_d rfl rfl (opr_nilCheck rfl rfl) ?_
  refine at_d rfl rfl (opr_fieldAddr rfl rfl Tryd.underlying84 rfl size82 rfl rfl) ?_
  refine at_d rfl rfl (opr_load (i := ip + 2) rfl rfl hb6 Tryd.underlying82 rfl size82 (E_length _) (EE_at (k := 0) rfl rfl rfl)) ?_
  refine at_d rfl rfl (opr_nilCheck rfl rfl) ?_
  refine at_d rfl rfl (opr_fieldAddr rfl rfl Tryd.underlying84 rfl size82 rfl rfl) ?_
  refine at_d rfl rfl (opr_store (i := ip + 2) rfl rfl rfl rfl hb6 size82 (E_length _) (by rw [EE_length]; exact Nat.le_of_ble_eq_true rfl) (E_flat _) (EE_set (k := 3) (Nat.le_of_ble_eq_true rfl) rfl)) ?_
  have hb7 : (M.set ip ⟨gP, TP, EE [(q % pp), (p % pp), 1, (q % pp), b]⟩)[ip]? = some ⟨gP, TP, EE [(q % pp), (p % pp), 1, (q % pp), b]⟩ := get_set hP
  have hb7_3 : (M.set ip ⟨gP, TP, EE [(q % pp), (p % pp), 1, (q % pp), b]⟩)[ig]? = some ⟨3, Tp, EE [pp]⟩ := get_set_ne hG hne
  refine at_mem (M2 := ⟨g1, 82, EE [0]⟩ :: ⟨g0, 82, EE [0]⟩ :: (M.set ip ⟨gP, TP, EE [(q % pp), (p % pp), 1, (q % pp), b]⟩)) (by simp) ?_
  refine at_nil ?_
  refine at_then ?_
  refine at_seq ?_
  refine at_region ?_
  refine at_d rfl rfl (opr_move rfl rfl) ?_
  refine at_d rfl rfl (opr_move rfl rfl) ?_
  refine at_d rfl rfl (opr_nilCheck rfl rfl) ?_
  refine at_d rfl rfl (opr_fieldAddr rfl rfl Tryd.underlying84 rfl size82 rfl rfl) ?_
  refine at_d rfl rfl (opr_load (i := ip + 2) rfl rfl hb7 Tryd.underlying82 rfl size82 (E_length _) (EE_at (k := 1) rfl rfl rfl)) ?_
  refine at_d rfl rfl (opr_nilCheck rfl rfl) ?_
  refine at_d rfl rfl (opr_fieldAddr rfl rfl Tryd.underlying84 rfl size82 rfl rfl) ?_
  refine at_d rfl rfl (opr_store (i := ip + 2) rfl rfl rfl rfl hb7 size82 (E_length _) (by rw [EE_length]; exact Nat.le_of_ble_eq_true rfl) (E_flat _) (EE_set (k := 4) (Nat.le_of_ble_eq_true rfl) rfl)) ?_
  have hb8 : (M.set ip ⟨gP, TP, EE [(q % pp), (p % pp), 1, (q % pp), (p % pp)]⟩)[ip]? = some ⟨gP, TP, EE [(q % pp), (p % pp), 1, (q % pp), (p % pp)]⟩ := get_set hP
  have hb8_3 : (M.set ip ⟨gP, TP, EE [(q % pp), (p % pp), 1, (q % pp), (p % pp)]⟩)[ig]? = some ⟨3, Tp, EE [pp]⟩ := get_set_ne hG hne
  refine at_mem (M2 := ⟨g1, 82, EE [0]⟩ :: ⟨g0, 82, EE [0]⟩ :: (M.set ip ⟨gP, TP, EE [(q % pp), (p % pp), 1, (q % pp), (p % pp)]⟩)) (by simp) ?_
  refine at_nil ?_
  refine at_then ?_
  refine at_seq ?_
  refine at_drawG (B := [⟨g1, 82, EE [0]⟩, ⟨g0, 82, EE [0]⟩]) (E := [⟨.pure [], 0, [], .v (.pointer (some ⟨gP, 0, none⟩))⟩, ⟨.pure [], 0, [], .v (.pointer (some ⟨gP, 0, none⟩))⟩, ⟨.pure [], 0, [], .v (.pointer (some ⟨gP, 0, none⟩))⟩, ⟨.pure [], 0, [], .v (.agg (E ((q % pp))).toArray)⟩, ⟨.pure [], 0, [], .v (.pointer (some ⟨gP, 0, none⟩))⟩, ⟨.pure [], 0, [], .v (.pointer (some ⟨gP, 0, none⟩))⟩, ⟨.pure [], 0, [], .v (.pointer (some ⟨gP, 56, none⟩))⟩, ⟨.pure [], 0, [], .v (.agg (E ((p % pp))).toArray)⟩, ⟨.storeB 1, 0, EE [(q % pp)], .v undef⟩, ⟨.storeB 0, 0, EE [(p % pp)], .v undef⟩]) (by kernel_rfl) (by kernel_rfl) (by kernel_rfl) (fun γ0 => ?_)
  refine gs_pure rfl rfl (fun M' sB sT => ?_) ?_
  · exact opr_move rfl rfl
  refine gs_pure rfl rfl (fun M' sB sT => ?_) ?_
  · exact opr_nilCheck rfl rfl
  refine gs_pure rfl rfl (fun M' sB sT => ?_) ?_
  · exact opr_fieldAddr rfl rfl Tryd.underlying84 rfl size82 rfl rfl
  refine gs_pure rfl rfl (fun M' sB sT => ?_) ?_
  · obtain ⟨iT1, hT1⟩ := sT _ _ hb8; exact opr_load (i := iT1) rfl rfl hT1 Tryd.underlying82 rfl size82 (E_length _) (EE_at (k := 0) rfl rfl rfl)
  refine gs_pure rfl rfl (fun M' sB sT => ?_) ?_
  · exact opr_move rfl rfl
  refine gs_pure rfl rfl (fun M' sB sT => ?_) ?_
  · exact opr_nilCheck rfl rfl
  refine gs_pure rfl rfl (fun M' sB sT => ?_) ?_
  · exact opr_fieldAddr rfl rfl Tryd.underlying84 rfl size82 rfl rfl
  refine gs_pure rfl rfl (fun M' sB sT => ?_) ?_
  · obtain ⟨iT1, hT1⟩ := sT _ _ hb8; exact opr_load (i := iT1) rfl rfl hT1 Tryd.underlying82 rfl size82 (E_length _) (EE_at (k := 1) rfl rfl rfl)
  refine gs_storeB rfl rfl rfl (fun M' j hj => opr_store (i := j) rfl rfl rfl rfl hj size82 (E_length _) (by rw [EE_length]; exact Nat.le_of_ble_eq_true rfl) (E_flat _) (EE_set (k := 0) (Nat.le_of_ble_eq_true rfl) rfl)) ?_
  refine gs_storeB rfl rfl rfl (fun M' j hj => opr_store (i := j) rfl rfl rfl rfl hj size82 (E_length _) (by rw [EE_length]; exact Nat.le_of_ble_eq_true rfl) (E_flat _) (EE_set (k := 0) (Nat.le_of_ble_eq_true rfl) rfl)) ?_
  refine gs_nil ?_
  refine (show At _ _ (⟨g1, 82, EE [(p % pp)]⟩ :: ⟨g0, 82, EE [(q % pp)]⟩ :: _) _ from ?_)
  refine at_then ?_
  refine at_ret ?_
  rw [← hqm, ← hpm]
  exact done_of (res2 Tryd.results88 (res_cell (i := 1) rfl rfl Tryd.underlying82 rfl size82 (E_length _) (EE_at (k := 0) rfl rfl rfl)) (res_cell (i := 0) rfl rfl Tryd.underlying82 rfl size82 (E_length _) (EE_at (k := 0) rfl rfl rfl))) ⟨rfl, rfl⟩ (by repeat (first | exact List.Sublist.refl _ | apply List.Sublist.cons))
theorem plain_ct {M : Mem} {ig Tp : Nat} (hG : M[ig]? = some ⟨3, Tp, EE [pp]⟩) {ip gP TP x y z a b : Nat} (hP : M[ip]? = some ⟨gP, TP, EE [x, y, z, a, b]⟩) (hne : ip ≠ ig) (hx : x < RR) (hy : y < RR) (hz : z < RR) : Ct Tryd.prog 57 #[.pointer (some ⟨gP, 0, none⟩)] M (Det (.agg (EE [x * invp z % pp, y * invp z % pp]).toArray) (M.set ip ⟨gP, TP, EE [x * invp z % pp, y * invp z % pp, 1, x * invp z % pp, y * invp z % pp]⟩)) := by
  refine ct_of (vs := [.pointer (some ⟨gP, 0, none⟩)]) Tryd.func57 rfl Tryd.ntmps57 rfl fun w0 => ?_
  refine at_seq ?_
  refine at_region ?_
  refine at_n rfl rfl (opr_alloc rfl zero24 rfl) ?_
  intro g0
  refine at_nil ?_
  refine at_then ?_
  refine at_seq ?_
  refine at_region ?_
  refine at_d rfl rfl (opr_move rfl rfl) ?_
  refine at_d rfl rfl (opr_call rfl rfl rfl Tryd.func88 (by kernel_rfl) rfl (toAff_ct (ig := ig + 1) (ip := ip + 1) hG hP (by omega) hx hy hz)) ?_
  have hb1 : (M.set ip ⟨gP, TP, EE [x * invp z % pp, y * invp z % pp, 1, x * invp z % pp, y * invp z % pp]⟩)[ip]? = some ⟨gP, TP, EE [x * invp z % pp, y * invp z % pp, 1, x * invp z % pp, y * invp z % pp]⟩ := get_set hP
  have hb1_3 : (M.set ip ⟨gP, TP, EE [x * invp z % pp, y * invp z % pp, 1, x * invp z % pp, y * invp z % pp]⟩)[ig]? = some ⟨3, Tp, EE [pp]⟩ := get_set_ne hG hne
  refine at_mem (M2 := ⟨g0, 24, EE [0, 0]⟩ :: (M.set ip ⟨gP, TP, EE [x * invp z % pp, y * invp z % pp, 1, x * invp z % pp, y * invp z % pp]⟩)) (by simp) ?_
  refine at_d rfl rfl (opr_move rfl rfl) ?_
  refine at_d rfl rfl (opr_extract rfl rfl rfl) ?_
  refine at_d rfl rfl (opr_extract rfl rfl rfl) ?_
  refine at_n rfl rfl (opr_alloc rfl zero82 rfl) ?_
  intro g1
  refine at_n rfl rfl (opr_alloc rfl zero82 rfl) ?_
  intro g2
  refine at_d rfl rfl (opr_store (i := 1) rfl rfl rfl rfl rfl size82 (E_length _) (by rw [EE_length]; exact Nat.le_of_ble_eq_true rfl) (E_flat _) (EE_set (k := 0) (Nat.le_of_ble_eq_true rfl) rfl)) ?_
  refine at_d rfl rfl (opr_store (i := 0) rfl rfl rfl rfl rfl size82 (E_length _) (by rw [EE_length]; exact Nat.le_of_ble_eq_true rfl) (E_flat _) (EE_set (k := 0) (Nat.le_of_ble_eq_true rfl) rfl)) ?_
  refine at_nil ?_
  refine at_then ?_
  refine at_seq ?_
  refine at_draw (by kernel_rfl) (by kernel_rfl) (by kernel_rfl) (List.cons_ne_nil _ _) ?_
  refine dr_op rfl rfl (opr_load (i := 1) rfl rfl rfl Tryd.underlying82 rfl size82 (E_length _) (EE_at (k := 0) rfl rfl rfl)) ?_
  refine dr_op rfl rfl (opr_call rfl rfl rfl Tryd.func89 (by kernel_rfl) rfl (reduced_ct (ig := ig + 3) hb1_3 (modp_lt _))) ?_
  refine dr_op rfl rfl (opr_load (i := 0) rfl rfl rfl Tryd.underlying82 rfl size82 (E_length _) (EE_at (k := 0) rfl rfl rfl)) ?_
  refine dr_op rfl rfl (opr_call rfl rfl rfl Tryd.func89 (by kernel_rfl) rfl (reduced_ct (ig := ig + 3) hb1_3 (modp_lt _))) ?_
  refine dr_op rfl rfl (opr_buildE (ds := EE [((x * invp z % pp) % pp), ((y * invp z % pp) % pp)]) rfl rfl (builtp24 [(0, ((x * invp z % pp) % pp)), (1, ((y * invp z % pp) % pp))] rfl) rfl) ?_
  refine dr_last rfl rfl (opr_store (i := 2) rfl rfl rfl rfl rfl size24 (EE_length _) (by rw [EE_length]; exact Nat.le_of_ble_eq_true rfl) (EE_flat _) (EE_over rfl)) ?_
  refine at_then ?_
  refine at_ret ?_
  refine done_of (res1 Tryd.results57 (res_cell (i := 2) rfl rfl Tryd.underlying24 rfl size24 (EE_length _) (EE_all rfl))) ⟨?_, rfl⟩ (by repeat (first | exact List.Sublist.refl _ | apply List.Sublist.cons))
  simp only [Nat.mod_mod]
end Go.Proofs.YtjanppnnioeifaaDoor
