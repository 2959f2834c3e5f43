/- PtA, PtB, PtS, PtI, PtL0, in one text. -/
import Derived.Test.YtjlhhcdefcofkaaGreatDoorEl
import Derived.Test.YtjlhhcdefcofkaaGreatDoorGold
import Derived.Test.YtjlhhcdefcofkaaGreatDoorFill
import Derived.Test.YtjlhhcdefcofkaaGreatDoorTell
import Derived.Test.YtjlhhcdefcofkaaGreatDoorIface
import Derived.Test.YtjlhhcdefcofkaaGreatDoorDrawA
/- Sums of the package's points. -/
namespace Go.Proofs.YtjlhhcdefcofkaaGreatDoor
open Go
set_option maxRecDepth 100000

/-- What Point.Add makes of two points. -/
structure AddEl (x1 y1 z1 a1 b1 x2 y2 z2 a2 b2 x3 y3 z3 a3 b3 : Fin pp) : Prop where
  ha : a3 = (x1 + y1) * (x2 + y2) - x1 * x2 - y1 * y2
  hb : b3 = y1 * y2 - x1 * x2
  hx : x3 = a3 * (z1 * z2 - a1 * b1 * (a2 * b2) * el dP)
  hy : y3 = (z1 * z2 + a1 * b1 * (a2 * b2) * el dP) * b3
  hz : z3 = (z1 * z2 - a1 * b1 * (a2 * b2) * el dP) * (z1 * z2 + a1 * b1 * (a2 * b2) * el dP)
theorem AddEl.ne {x1 y1 x2 y2 x3 y3 z3 a3 b3 : Fin pp} (h1 : On (el dP) x1 y1) (h2 : On (el dP) x2 y2) (h : AddEl x1 y1 (el 1) x1 y1 x2 y2 (el 1) x2 y2 x3 y3 z3 a3 b3) : z3 ≠ 0 := by
  have dp := den_plus goldC h1 h2
  have dm := den_minus goldC h1 h2
  rw [el_one] at h
  have e1 : (1 : Fin pp) * 1 - x1 * y1 * (x2 * y2) * el dP = 1 - el dP * x1 * x2 * y1 * y2 := by clear h h1 h2 dp dm; grind
  have e2 : (1 : Fin pp) * 1 + x1 * y1 * (x2 * y2) * el dP = 1 + el dP * x1 * x2 * y1 * y2 := by clear h h1 h2 dp dm e1; grind
  obtain ⟨ha, hb, hx, hy, hz⟩ := h
  rw [e1, e2] at hz
  rw [hz]; exact isF_pp.mul_ne dm dp
/-- Two points by their coordinates: the sum's quotients. -/
theorem AddEl.sum {x1 y1 x2 y2 x3 y3 z3 a3 b3 : Fin pp} (h1 : On (el dP) x1 y1) (h2 : On (el dP) x2 y2) (h : AddEl x1 y1 (el 1) x1 y1 x2 y2 (el 1) x2 y2 x3 y3 z3 a3 b3) {xa ya : Fin pp} (hxa : xa * z3 = x3) (hya : ya * z3 = y3) :
    Sum (el dP) x1 y1 x2 y2 xa ya := by
  have dp := den_plus goldC h1 h2
  have dm := den_minus goldC h1 h2
  rw [el_one] at h
  have e1 : (1 : Fin pp) * 1 - x1 * y1 * (x2 * y2) * el dP = 1 - el dP * x1 * x2 * y1 * y2 := by clear hxa hya h h1 h2 dp dm; grind
  have e2 : (1 : Fin pp) * 1 + x1 * y1 * (x2 * y2) * el dP = 1 + el dP * x1 * x2 * y1 * y2 := by clear hxa hya h h1 h2 dp dm e1; grind
  have ea : (x1 + y1) * (x2 + y2) - x1 * x2 - y1 * y2 = x1 * y2 + y1 * x2 := by clear hxa hya h h1 h2 dp dm e1 e2; grind
  obtain ⟨ha, hb, hx, hy, hz⟩ := h
  rw [e1, e2] at hz
  rw [e1] at hx
  rw [e2] at hy
  rw [ea] at ha
  refine ⟨?_, ?_⟩
  · apply isF_pp.cancel dm
    rw [← ha]
    generalize 1 - el dP * x1 * x2 * y1 * y2 = m at *
    generalize 1 + el dP * x1 * x2 * y1 * y2 = q at *
    clear hya hy hb e1 e2 ea h1 h2 dp dm ha
    grind
  · apply isF_pp.cancel dp
    rw [← hb]
    generalize 1 - el dP * x1 * x2 * y1 * y2 = m at *
    generalize 1 + el dP * x1 * x2 * y1 * y2 = q at *
    clear hxa hx ha e1 e2 ea h1 h2 dp dm hb
    grind

end Go.Proofs.YtjlhhcdefcofkaaGreatDoor

/- Points on the curve, from and to coordinates. -/
namespace Go.Proofs.YtjlhhcdefcofkaaGreatDoor
open Go
set_option maxRecDepth 100000
theorem size24 : (Tryz.prog.info? 24).map (·.size) = some 112 := by kernel_rfl
theorem zero24 : (Tryz.prog.info? 24).bind (·.zero) = some (.agg (EE [0, 0]).toArray) := by kernel_rfl
theorem zero82 : (Tryz.prog.info? 82).bind (·.zero) = some (.agg (EE [0, 0, 0, 0, 0]).toArray) := by kernel_rfl
theorem builte47 : Tryz.prog.built 47 [] = some ([] : List Value).toArray := by kernel_rfl
theorem builtp24 (ps : List (Nat × Nat)) (h : (ps.all fun p => decide (p.1 < 2) && decide ((([(0, 56), (56, 56)] : List (Nat × Nat)).toArray[p.1]? : Option (Nat × Nat)) = some (56 * p.1, 56))) = true) : Tryz.prog.built 24 (ps.map fun p => (p.1, .agg (E p.2).toArray)) = some (EE (ps.foldl (fun l p => l.set p.1 p.2) [0, 0])).toArray := by
  rw [built_str (pl := [(0, 56), (56, 56)]) Tryz.underlying24 zero24 (by kernel_rfl)]
  exact fillEE ps [0, 0] h
theorem builtp82 (ps : List (Nat × Nat)) (h : (ps.all fun p => decide (p.1 < 5) && decide ((([(0, 56), (56, 56), (112, 56), (168, 56), (224, 56)] : List (Nat × Nat)).toArray[p.1]? : Option (Nat × Nat)) = some (56 * p.1, 56))) = true) : Tryz.prog.built 82 (ps.map fun p => (p.1, .agg (E p.2).toArray)) = some (EE (ps.foldl (fun l p => l.set p.1 p.2) [0, 0, 0, 0, 0])).toArray := by
  rw [built_str (pl := [(0, 56), (56, 56), (112, 56), (168, 56), (224, 56)]) Tryz.underlying82 zero82 (by kernel_rfl)]
  exact fillEE ps [0, 0, 0, 0, 0] h
theorem builtz60 : Tryz.prog.built 60 [] = some (List.replicate 56 (Value.int .u8 0)).toArray := by kernel_rfl
theorem isz_on {r : Nat} {x y : Fin pp} {t : Bool} (h : el r = (x * x + y * y) - ((x * y) * (x * y) * el dP + el 1 * el 1)) (hOn : t = true ↔ On (el dP) x y) : decide (r % pp = 0) = t := by
  have e : r % pp = 0 ↔ On (el dP) x y := by
    rw [← el_eq_zero, h, el_one]
    unfold On
    generalize el dP = d
    clear h hOn
    constructor
    · intro h0; grind
    · intro h0; grind
  cases t
  · exact decide_eq_false (fun h0 => absurd (hOn.2 (e.1 h0)) (by decide))
  · exact decide_eq_true (e.2 (hOn.1 rfl))
theorem isz_xy {r : Nat} {x y : Fin pp} (h : el r = x * y - x * y * el 1) : decide (r % pp = 0) = true := by
  apply decide_eq_true
  rw [← el_eq_zero, h, el_one]; clear h; grind
theorem aff_eq {a1 a2 r q : Nat} (hr : r % pp = invp a2) (hq : q % pp = a1 * r % pp) : q % pp = a1 * invp a2 % pp := by
  rw [hq, Nat.mul_mod, hr, ← Nat.mod_mod (a1 * invp a2), Nat.mul_mod a1 (invp a2), Nat.mod_mod]
  rw [Nat.mod_eq_of_lt (invp_lt a2)]
/-- An affine coordinate. -/
theorem aff_mul {x z : Nat} (hz : el z ≠ 0) : el (x * invp z % pp) * el z = el x := by
  have h : z * invp z % pp = 1 := mul_invp (fun h => hz (el_eq_zero.2 h))
  have h1 : el z * el (invp z) = 1 := by rw [← el_mul, ← el_one, el_eq, h]; rfl
  rw [el_mod, el_mul]
  generalize el z = c at *
  generalize el (invp z) = b at *
  generalize el x = a
  clear h hz
  grind
theorem aff_lt (x z : Nat) : x * invp z % pp < pp := Nat.mod_lt _ (by decide)
theorem getD_RR {l : List Nat} (h : ∀ x ∈ l, x < RR) (j : Nat) : l.getD j 0 < RR := by
  rw [List.getD_eq_getElem?_getD]
  cases hj : l[j]? with
  | none => exact RR_zero
  | some a => exact h a (List.mem_of_getElem? hj)
theorem EE_pair {l : List Nat} {k off : Nat} (hk : 2 * k + 1 < l.length) (ho : 112 * k = off) : ((EE l).drop off).take 112 = EE [l.getD (2 * k) 0, l.getD (2 * k + 1) 0] := by
  have e : off = 56 * (2 * k) := by omega
  rw [e, EE_drop, List.drop_eq_getElem_cons (by omega), List.drop_eq_getElem_cons hk]
  have g1 : l.getD (2 * k) 0 = l[2 * k] := by rw [List.getD_eq_getElem?_getD, List.getElem?_eq_getElem (by omega)]; rfl
  have g2 : l.getD (2 * k + 1) 0 = l[2 * k + 1] := by rw [List.getD_eq_getElem?_getD, List.getElem?_eq_getElem hk]; rfl
  rw [g1, g2]
  simp only [EE]
  rw [← List.append_assoc, List.take_append_of_le_length (by simp [E_length]), List.take_of_length_le (by simp [E_length]), List.append_nil]
theorem pp_lt_RR {a : Nat} (h : a < pp) : a < RR := Nat.lt_trans h RR_pp
theorem fIsZeroR_ct {M : Mem} {ig Tp : Nat} (hG : M[ig]? = some ⟨3, Tp, EE [pp]⟩) {iz gz Tz kz oz a : Nat} {lz : List Nat} (hz : M[iz]? = some ⟨gz, Tz, EE lz⟩) (hkz : lz[kz]? = some a) (hoz : 56 * kz = oz) (ha : a < pp) {t : Bool} (ht : decide (a = 0) = t) : Ct Tryz.prog 65 #[.pointer (some ⟨gz, oz, none⟩)] M (Det (.bool t) M) := by
  have hm := Nat.mod_eq_of_lt ha
  have h := fIsZero_ct hG hz hkz hoz (pp_lt_RR ha) (t := t) (by rw [hm]; exact ht)
  rw [hm, set_self hkz, set_same hz] at h
  exact h
theorem built_err (s : ByteArray) : Tryz.prog.built 115 [(0, .string s)] = some [Value.string s].toArray := by kernel_rfl
theorem errNew_ct {M : Mem} {s : ByteArray} : Ct Tryz.prog 41 #[.string s] M (fun v M' => (∃ X x, v = .iface X x) ∧ M' = M) := by
  refine ct_of (vs := [.string s]) Tryz.func41 rfl Tryz.ntmps41 rfl fun w0 => ?_
  refine at_seq ?_
  refine at_region ?_
  refine at_d rfl rfl (opr_assign rfl rfl) ?_
  refine at_nil ?_
  refine at_then ?_
  refine at_seq ?_
  refine at_region ?_
  refine at_d rfl rfl (opr_move rfl rfl) ?_
  refine at_d rfl rfl (opr_buildP rfl rfl (built_err s)) ?_
  refine at_n rfl rfl (opr_box rfl rfl rfl) ?_
  intro g0
  refine at_d rfl rfl (opr_makeInterface rfl rfl Tryz.underlying113 rfl) ?_
  refine at_d rfl rfl (opr_assign rfl rfl) ?_
  refine at_nil ?_
  refine at_then ?_
  refine at_ret ?_
  exact done_of (res1 Tryz.results41 (res_tmp rfl)) ⟨⟨_, _, rfl⟩, rfl⟩ (by repeat (first | exact List.Sublist.refl _ | apply List.Sublist.cons))
theorem isOnT_ct {M : Mem} {ig Tp jd Td : Nat} (hG : M[ig]? = some ⟨3, Tp, EE [pp]⟩) (hD : M[jd]? = some ⟨2, Td, EE [dP]⟩) {ip gP TP x y : Nat} (hP : M[ip]? = some ⟨gP, TP, EE [x, y, 1, x, y]⟩) (hx : x < RR) (hy : y < RR) (hOn : On (el dP) (el x) (el y)) : Ct Tryz.prog 40 #[.agg ([] : List Value).toArray, .pointer (some ⟨gP, 0, none⟩)] M (Det (.bool true) M) := by
  refine ct_of (vs := [.agg ([] : List Value).toArray, .pointer (some ⟨gP, 0, none⟩)]) Tryz.func40 rfl Tryz.ntmps40 rfl fun w0 => ?_
  refine at_seq ?_
  refine at_region ?_
  refine at_n rfl rfl (opr_box rfl rfl rfl) ?_
  intro g0
  refine at_d rfl rfl (opr_assign rfl rfl) ?_
  refine at_nil ?_
  refine at_then ?_
  refine at_seq ?_
  refine at_region ?_
  refine at_d rfl rfl (opr_buildE (ds := E 0) rfl rfl builtz60 rfl) ?_
  refine at_n rfl rfl (opr_box (cs := EE [0]) rfl rfl (E_box _)) ?_
  intro g1
  refine at_d rfl rfl (opr_buildE (ds := E 0) rfl rfl builtz60 rfl) ?_
  refine at_n rfl rfl (opr_box (cs := EE [0]) rfl rfl (E_box _)) ?_
  intro g2
  refine at_d rfl rfl (opr_buildE (ds := E 0) rfl rfl builtz60 rfl) ?_
  refine at_n rfl rfl (opr_box (cs := EE [0]) rfl rfl (E_box _)) ?_
  intro g3
  refine at_d rfl rfl (opr_buildE (ds := E 0) rfl rfl builtz60 rfl) ?_
  refine at_n rfl rfl (opr_box (cs := EE [0]) rfl rfl (E_box _)) ?_
  intro g4
  refine at_d rfl rfl (opr_buildE (ds := E 0) rfl rfl builtz60 rfl) ?_
  refine at_n rfl rfl (opr_box (cs := EE [0]) rfl rfl (E_box _)) ?_
  intro g5
  refine at_d rfl rfl (opr_assign rfl rfl) ?_
  refine at_d rfl rfl (opr_assign rfl rfl) ?_
  refine at_d rfl rfl (opr_assign rfl rfl) ?_
  refine at_d rfl rfl (opr_assign rfl rfl) ?_
  refine at_d rfl rfl (opr_assign rfl rfl) ?_
  refine at_nil ?_
  refine at_then ?_
  refine at_seq ?_
  refine at_region ?_
  refine at_d rfl rfl (opr_buildE (ds := E 0) rfl rfl builtz60 rfl) ?_
  refine at_n rfl rfl (opr_box (cs := EE [0]) rfl rfl (E_box _)) ?_
  intro g6
  refine at_d rfl rfl (opr_buildE (ds := E 0) rfl rfl builtz60 rfl) ?_
  refine at_n rfl rfl (opr_box (cs := EE [0]) rfl rfl (E_box _)) ?_
  intro g7
  refine at_d rfl rfl (opr_assign rfl rfl) ?_
  refine at_d rfl rfl (opr_assign rfl rfl) ?_
  refine at_nil ?_
  refine at_then ?_
  refine at_seq ?_
  refine at_region ?_
  refine at_d rfl rfl (opr_move rfl rfl) ?_
  refine at_d rfl rfl (opr_nilCheck rfl rfl) ?_
  refine at_d rfl rfl (opr_fieldAddr rfl rfl Tryz.underlying82 rfl size60 rfl rfl) ?_
  refine at_d rfl rfl (opr_call rfl rfl rfl Tryz.func65 (by kernel_rfl) rfl (fIsZeroR_ct (ig := ig + 8) (iz := ip + 8) (kz := 2) (t := false) hG hP rfl rfl (by decide) (by decide))) ?_
  refine at_d rfl rfl (opr_unOp (u := .bool true) rfl rfl (fun _ => rfl)) ?_
  refine at_d rfl rfl (opr_assign rfl rfl) ?_
  refine at_nil ?_
  refine at_then ?_
  refine at_seq ?_
  refine at_drawR (by kernel_rfl) (by kernel_rfl) (by kernel_rfl) (List.cons_ne_nil _ _) ?_
  refine drR_op rfl rfl (opr_move rfl rfl) ?_
  refine drR_op rfl rfl (opr_move rfl rfl) ?_
  refine drR_op rfl rfl (opr_nilCheck rfl rfl) ?_
  refine drR_op rfl rfl (opr_fieldAddr rfl rfl Tryz.underlying82 rfl size60 rfl rfl) ?_
  refine drR_op rfl rfl (opr_move rfl rfl) ?_
  refine drR_op rfl rfl (opr_nilCheck rfl rfl) ?_
  refine drR_op rfl rfl (opr_fieldAddr rfl rfl Tryz.underlying82 rfl size60 rfl rfl) ?_
  refine drR_last (v := .tuple #[]) rfl rfl (opr_call rfl rfl rfl Tryz.func43 (by kernel_rfl) rfl (Mul_el (iz := 4) (ix := ip + 8) (iy := ip + 8) (kz := 0) (kx := 3) (ky := 4) rfl (Nat.le_of_ble_eq_true rfl) rfl hP rfl rfl hP rfl rfl hx hy)) ?_ ?_
  · rintro _ _ ⟨_, _, _, rfl, _⟩; rfl
  rintro _ _ ⟨r0, hr0, f0, rfl, rfl⟩
  refine at_then ?_
  refine at_seq ?_
  refine at_region ?_
  refine at_d rfl rfl (opr_move rfl rfl) ?_
  refine at_d rfl rfl (opr_move rfl rfl) ?_
  refine at_d rfl rfl (opr_nilCheck rfl rfl) ?_
  refine at_d rfl rfl (opr_fieldAddr rfl rfl Tryz.underlying82 rfl size60 rfl rfl) ?_
  refine at_c rfl rfl (opr_call rfl rfl rfl Tryz.func61 (by kernel_rfl) rfl (Sqr_el (iz := 6) (ix := ip + 8) (kz := 0) (kx := 0) rfl (Nat.le_of_ble_eq_true rfl) rfl hP rfl rfl hx)) ?_
  rintro _ _ ⟨r1, hr1, f1, rfl, rfl⟩
  refine at_nil ?_
  refine at_then ?_
  refine at_seq ?_
  refine at_region ?_
  refine at_d rfl rfl (opr_move rfl rfl) ?_
  refine at_d rfl rfl (opr_move rfl rfl) ?_
  refine at_d rfl rfl (opr_nilCheck rfl rfl) ?_
  refine at_d rfl rfl (opr_fieldAddr rfl rfl Tryz.underlying82 rfl size60 rfl rfl) ?_
  refine at_c rfl rfl (opr_call rfl rfl rfl Tryz.func61 (by kernel_rfl) rfl (Sqr_el (iz := 5) (ix := ip + 8) (kz := 0) (kx := 1) rfl (Nat.le_of_ble_eq_true rfl) rfl hP rfl rfl hy)) ?_
  rintro _ _ ⟨r2, hr2, f2, rfl, rfl⟩
  refine at_nil ?_
  refine at_then ?_
  refine at_seq ?_
  refine at_region ?_
  refine at_d rfl rfl (opr_move rfl rfl) ?_
  refine at_d rfl rfl (opr_move rfl rfl) ?_
  refine at_d rfl rfl (opr_nilCheck rfl rfl) ?_
  refine at_d rfl rfl (opr_fieldAddr rfl rfl Tryz.underlying82 rfl size60 rfl rfl) ?_
  refine at_c rfl rfl (opr_call rfl rfl rfl Tryz.func61 (by kernel_rfl) rfl (Sqr_el (iz := 2) (ix := ip + 8) (kz := 0) (kx := 2) rfl (Nat.le_of_ble_eq_true rfl) rfl hP rfl rfl RR_one)) ?_
  rintro _ _ ⟨r3, hr3, f3, rfl, rfl⟩
  refine at_nil ?_
  refine at_then ?_
  refine at_seq ?_
  refine at_region ?_
  refine at_d rfl rfl (opr_move rfl rfl) ?_
  refine at_d rfl rfl (opr_move rfl rfl) ?_
  refine at_c rfl rfl (opr_call rfl rfl rfl Tryz.func61 (by kernel_rfl) rfl (Sqr_el (iz := 3) (ix := 4) (kz := 0) (kx := 0) rfl (Nat.le_of_ble_eq_true rfl) rfl rfl rfl rfl hr0)) ?_
  rintro _ _ ⟨r4, hr4, f4, rfl, rfl⟩
  refine at_nil ?_
  refine at_then ?_
  refine at_seq ?_
  refine at_region ?_
  refine at_d rfl rfl (opr_move rfl rfl) ?_
  refine at_d rfl rfl (opr_move rfl rfl) ?_
  refine at_d rfl rfl (opr_move rfl rfl) ?_
  refine at_c rfl rfl (opr_call rfl rfl rfl Tryz.func60 (by kernel_rfl) rfl (Add_el (iz := 0) (ix := 6) (iy := 5) (kz := 0) (kx := 0) (ky := 0) rfl (Nat.le_of_ble_eq_true rfl) rfl rfl rfl rfl rfl rfl rfl hr1 hr2)) ?_
  rintro _ _ ⟨r5, hr5, f5, rfl, rfl⟩
  refine at_nil ?_
  refine at_then ?_
  refine at_seq ?_
  refine at_region ?_
  refine at_d rfl rfl (opr_load (i := jd + 8) rfl rfl hD Tryz.underlying60 rfl size60 (E_length _) (EE_at (k := 0) rfl rfl rfl)) ?_
  refine at_n rfl rfl (opr_alloc rfl zero60 rfl) ?_
  intro g8
  refine at_d rfl rfl (opr_store (i := 0) rfl rfl rfl rfl rfl size60 (E_length _) (by rw [EE_length]; exact Nat.le_of_ble_eq_true rfl) (E_flat _) (EE_set (k := 0) (Nat.le_of_ble_eq_true rfl) rfl)) ?_
  refine at_nil ?_
  refine at_then ?_
  refine at_seq ?_
  refine at_region ?_
  refine at_d rfl rfl (opr_move rfl rfl) ?_
  refine at_d rfl rfl (opr_move rfl rfl) ?_
  refine at_c rfl rfl (opr_call rfl rfl rfl Tryz.func43 (by kernel_rfl) rfl (Mul_el (iz := 2) (ix := 4) (iy := 0) (kz := 0) (kx := 0) (ky := 0) rfl (Nat.le_of_ble_eq_true rfl) rfl rfl rfl rfl rfl rfl rfl hr4 (by decide))) ?_
  rintro _ _ ⟨r6, hr6, f6, rfl, rfl⟩
  refine at_nil ?_
  refine at_then ?_
  refine at_seq ?_
  refine at_region ?_
  refine at_d rfl rfl (opr_move rfl rfl) ?_
  refine at_d rfl rfl (opr_move rfl rfl) ?_
  refine at_d rfl rfl (opr_move rfl rfl) ?_
  refine at_c rfl rfl (opr_call rfl rfl rfl Tryz.func60 (by kernel_rfl) rfl (Add_el (iz := 2) (ix := 2) (iy := 3) (kz := 0) (kx := 0) (ky := 0) rfl (Nat.le_of_ble_eq_true rfl) rfl rfl rfl rfl rfl rfl rfl hr6 hr3)) ?_
  rintro _ _ ⟨r7, hr7, f7, rfl, rfl⟩
  refine at_nil ?_
  refine at_then ?_
  refine at_seq ?_
  refine at_region ?_
  refine at_d rfl rfl (opr_move rfl rfl) ?_
  refine at_d rfl rfl (opr_move rfl rfl) ?_
  refine at_d rfl rfl (opr_move rfl rfl) ?_
  refine at_c rfl rfl (opr_call rfl rfl rfl Tryz.func62 (by kernel_rfl) rfl (Sub_el (iz := 1) (ix := 1) (iy := 2) (kz := 0) (kx := 0) (ky := 0) rfl (Nat.le_of_ble_eq_true rfl) rfl rfl rfl rfl rfl rfl rfl hr5 hr7)) ?_
  rintro _ _ ⟨r8, hr8, f8, rfl, rfl⟩
  refine at_nil ?_
  refine at_then ?_
  refine at_seq ?_
  refine at_region ?_
  refine at_d rfl rfl (opr_move rfl rfl) ?_
  refine at_d rfl rfl (opr_call rfl rfl rfl Tryz.func65 (by kernel_rfl) rfl (fIsZero_ct (ig := ig + 9) (iz := 1) (kz := 0) (t := true) hG rfl rfl rfl hr8 (isz_on (t := true) (by simp only [f0, f1, f2, f3, f4, f5, f6, f7, f8]) (iff_of_true rfl hOn )))) ?_
  refine at_d rfl rfl (opr_assign rfl rfl) ?_
  refine at_nil ?_
  refine at_then ?_
  refine at_seq ?_
  refine at_drawR (by kernel_rfl) (by kernel_rfl) (by kernel_rfl) (List.cons_ne_nil _ _) ?_
  refine drR_op rfl rfl (opr_move rfl rfl) ?_
  refine drR_op rfl rfl (opr_move rfl rfl) ?_
  refine drR_op rfl rfl (opr_nilCheck rfl rfl) ?_
  refine drR_op rfl rfl (opr_fieldAddr rfl rfl Tryz.underlying82 rfl size60 rfl rfl) ?_
  refine drR_op rfl rfl (opr_move rfl rfl) ?_
  refine drR_op rfl rfl (opr_nilCheck rfl rfl) ?_
  refine drR_op rfl rfl (opr_fieldAddr rfl rfl Tryz.underlying82 rfl size60 rfl rfl) ?_
  refine drR_last (v := .tuple #[]) rfl rfl (opr_call rfl rfl rfl Tryz.func43 (by kernel_rfl) rfl (Mul_el (iz := 1) (ix := ip + 9) (iy := ip + 9) (kz := 0) (kx := 0) (ky := 1) rfl (Nat.le_of_ble_eq_true rfl) rfl hP rfl rfl hP rfl rfl hx hy)) ?_ ?_
  · rintro _ _ ⟨_, _, _, rfl, _⟩; rfl
  rintro _ _ ⟨r9, hr9, f9, rfl, rfl⟩
  refine at_then ?_
  refine at_seq ?_
  refine at_region ?_
  refine at_d rfl rfl (opr_move rfl rfl) ?_
  refine at_d rfl rfl (opr_move rfl rfl) ?_
  refine at_d rfl rfl (opr_move rfl rfl) ?_
  refine at_d rfl rfl (opr_nilCheck rfl rfl) ?_
  refine at_d rfl rfl (opr_fieldAddr rfl rfl Tryz.underlying82 rfl size60 rfl rfl) ?_
  refine at_c rfl rfl (opr_call rfl rfl rfl Tryz.func43 (by kernel_rfl) rfl (Mul_el (iz := 2) (ix := 5) (iy := ip + 9) (kz := 0) (kx := 0) (ky := 2) rfl (Nat.le_of_ble_eq_true rfl) rfl rfl rfl rfl hP rfl rfl hr0 RR_one)) ?_
  rintro _ _ ⟨r10, hr10, f10, rfl, rfl⟩
  refine at_nil ?_
  refine at_then ?_
  refine at_seq ?_
  refine at_region ?_
  refine at_d rfl rfl (opr_move rfl rfl) ?_
  refine at_d rfl rfl (opr_move rfl rfl) ?_
  refine at_d rfl rfl (opr_move rfl rfl) ?_
  refine at_c rfl rfl (opr_call rfl rfl rfl Tryz.func62 (by kernel_rfl) rfl (Sub_el (iz := 1) (ix := 1) (iy := 2) (kz := 0) (kx := 0) (ky := 0) rfl (Nat.le_of_ble_eq_true rfl) rfl rfl rfl rfl rfl rfl rfl hr9 hr10)) ?_
  rintro _ _ ⟨r11, hr11, f11, rfl, rfl⟩
  refine at_nil ?_
  refine at_then ?_
  refine at_seq ?_
  refine at_region ?_
  refine at_d rfl rfl (opr_move rfl rfl) ?_
  refine at_d rfl rfl (opr_call rfl rfl rfl Tryz.func65 (by kernel_rfl) rfl (fIsZero_ct (ig := ig + 9) (iz := 1) (kz := 0) (t := true) hG rfl rfl rfl hr11 (isz_xy (x := el x) (y := el y) (by simp only [f0, f1, f2, f3, f4, f5, f6, f7, f8, f9, f10, f11])))) ?_
  refine at_d rfl rfl (opr_assign rfl rfl) ?_
  refine at_nil ?_
  refine at_then ?_
  refine at_seq ?_
  refine at_region ?_
  refine at_d rfl rfl (opr_move rfl rfl) ?_
  refine at_d rfl rfl (opr_move rfl rfl) ?_
  refine at_d rfl rfl (opr_move rfl rfl) ?_
  refine at_d rfl rfl (opr_pickT rfl rfl rfl) ?_
  refine at_d rfl rfl (opr_move rfl rfl) ?_
  refine at_d rfl rfl (opr_move rfl rfl) ?_
  refine at_d rfl rfl (opr_pickT rfl rfl rfl) ?_
  refine at_d rfl rfl (opr_assign rfl rfl) ?_
  refine at_nil ?_
  refine at_then ?_
  refine at_ret ?_
  refine done_of (res1 Tryz.results40 (res_tmp rfl)) ⟨rfl, rfl⟩ (by repeat (first | exact List.Sublist.refl _ | apply List.Sublist.cons))
theorem fromT_ct {M : Mem} {ig Tp jd Td : Nat} (hG : M[ig]? = some ⟨3, Tp, EE [pp]⟩) (hD : M[jd]? = some ⟨2, Td, EE [dP]⟩) {ix gX TX x iy gY TY y : Nat} (hX : M[ix]? = some ⟨gX, TX, EE [x]⟩) (hY : M[iy]? = some ⟨gY, TY, EE [y]⟩) (hx : x < RR) (hy : y < RR) (hOn : On (el dP) (el x) (el y)) : Ct Tryz.prog 26 #[.pointer (some ⟨gX, 0, none⟩), .pointer (some ⟨gY, 0, none⟩)] M (fun v M' => ∃ g, v = .tuple #[.pointer (some ⟨g, 0, none⟩), .nilIface] ∧ M' = ⟨g, 82, EE [x, y, 1, x, y]⟩ :: M) := by
  refine ct_of (vs := [.pointer (some ⟨gX, 0, none⟩), .pointer (some ⟨gY, 0, none⟩)]) Tryz.func26 rfl Tryz.ntmps26 rfl fun w0 => ?_
  refine at_seq ?_
  refine at_region ?_
  refine at_d rfl rfl (opr_assign rfl rfl) ?_
  refine at_d rfl rfl (opr_assign rfl rfl) ?_
  refine at_nil ?_
  refine at_then ?_
  refine at_seq ?_
  refine at_drawG (B := []) (E := [⟨.pure [], 0, [], .v (.pointer (some ⟨gX, 0, none⟩))⟩, ⟨.pure [], 0, [], .v (.pointer (some ⟨gX, 0, none⟩))⟩, ⟨.pure [], 0, [], .v (.agg (E (x)).toArray)⟩, ⟨.pure [], 0, [], .v (.pointer (some ⟨gY, 0, none⟩))⟩, ⟨.pure [], 0, [], .v (.pointer (some ⟨gY, 0, none⟩))⟩, ⟨.pure [], 0, [], .v (.agg (E (y)).toArray)⟩, ⟨.pure [], 0, [], .v (.agg (E (1)).toArray)⟩, ⟨.pure [], 0, [], .v (.pointer (some ⟨gX, 0, none⟩))⟩, ⟨.pure [], 0, [], .v (.pointer (some ⟨gX, 0, none⟩))⟩, ⟨.pure [], 0, [], .v (.agg (E (x)).toArray)⟩, ⟨.pure [], 0, [], .v (.pointer (some ⟨gY, 0, none⟩))⟩, ⟨.pure [], 0, [], .v (.pointer (some ⟨gY, 0, none⟩))⟩, ⟨.pure [], 0, [], .v (.agg (E (y)).toArray)⟩, ⟨.pure [], 0, [], .v (.agg (EE [x, y, 1, x, y]).toArray)⟩, ⟨.alloc, 82, EE [x, y, 1, x, y], .p 14 0⟩, ⟨.pure [], 0, [], .p 14 0⟩]) (by kernel_rfl) (by kernel_rfl) (by kernel_rfl) (fun γ0 => ?_)
  refine gs_pure rfl rfl (fun M' sB sT => ?_) ?_
  · exact opr_move rfl rfl
  refine gs_pure rfl rfl (fun M' sB sT => ?_) ?_
  · exact opr_nilCheck rfl rfl
  refine gs_pure rfl rfl (fun M' sB sT => ?_) ?_
  · obtain ⟨iT2, hT2⟩ := sT _ _ hX; exact opr_load (i := iT2) rfl rfl hT2 Tryz.underlying60 rfl size60 (E_length _) (EE_at (k := 0) rfl rfl rfl)
  refine gs_pure rfl rfl (fun M' sB sT => ?_) ?_
  · exact opr_move rfl rfl
  refine gs_pure rfl rfl (fun M' sB sT => ?_) ?_
  · exact opr_nilCheck rfl rfl
  refine gs_pure rfl rfl (fun M' sB sT => ?_) ?_
  · obtain ⟨iT3, hT3⟩ := sT _ _ hY; exact opr_load (i := iT3) rfl rfl hT3 Tryz.underlying60 rfl size60 (E_length _) (EE_at (k := 0) rfl rfl rfl)
  refine gs_pure rfl rfl (fun M' sB sT => ?_) ?_
  · exact opr_call rfl rfl rfl Tryz.func39 (by kernel_rfl) rfl (fOne_ct)
  refine gs_pure rfl rfl (fun M' sB sT => ?_) ?_
  · exact opr_move rfl rfl
  refine gs_pure rfl rfl (fun M' sB sT => ?_) ?_
  · exact opr_nilCheck rfl rfl
  refine gs_pure rfl rfl (fun M' sB sT => ?_) ?_
  · obtain ⟨iT2, hT2⟩ := sT _ _ hX; exact opr_load (i := iT2) rfl rfl hT2 Tryz.underlying60 rfl size60 (E_length _) (EE_at (k := 0) rfl rfl rfl)
  refine gs_pure rfl rfl (fun M' sB sT => ?_) ?_
  · exact opr_move rfl rfl
  refine gs_pure rfl rfl (fun M' sB sT => ?_) ?_
  · exact opr_nilCheck rfl rfl
  refine gs_pure rfl rfl (fun M' sB sT => ?_) ?_
  · obtain ⟨iT3, hT3⟩ := sT _ _ hY; exact opr_load (i := iT3) rfl rfl hT3 Tryz.underlying60 rfl size60 (E_length _) (EE_at (k := 0) rfl rfl rfl)
  refine gs_pure rfl rfl (fun M' sB sT => ?_) ?_
  · exact opr_buildE (ds := EE [x, y, 1, x, y]) rfl rfl (builtp82 [(0, x), (1, y), (2, 1), (3, x), (4, y)] rfl) rfl
  refine gs_alloc rfl rfl (fun M' => opr_box rfl rfl rfl) ?_
  refine gs_pure rfl rfl (fun M' sB sT => ?_) ?_
  · exact opr_assign rfl rfl
  refine gs_nil ?_
  refine (show At _ _ (⟨(γ0 14), 82, EE [x, y, 1, x, y]⟩ :: _) _ from ?_)
  refine at_then ?_
  refine at_seq ?_
  refine at_seq ?_
  refine at_region ?_
  refine at_d rfl rfl (opr_buildE (ds := []) rfl rfl builte47 rfl) ?_
  refine at_d rfl rfl (opr_move rfl rfl) ?_
  refine at_d rfl rfl (opr_call rfl rfl rfl Tryz.func40 (by kernel_rfl) rfl (isOnT_ct (ig := ig + 1) (jd := jd + 1) (ip := 0) hG hD rfl hx hy hOn)) ?_
  refine at_d rfl rfl (opr_unOp (u := .bool false) rfl rfl (fun _ => rfl)) ?_
  refine at_nil ?_
  refine at_then ?_
  refine at_cond_false rfl ?_
  refine at_skip ?_
  refine at_then ?_
  refine at_seq ?_
  refine at_region ?_
  refine at_d rfl rfl (opr_move rfl rfl) ?_
  refine at_d rfl rfl (opr_assign rfl rfl) ?_
  refine at_d rfl rfl (opr_assign rfl rfl) ?_
  refine at_nil ?_
  refine at_then ?_
  refine at_ret ?_
  exact done_of (res2 Tryz.results26 (res_tmp rfl) (res_tmp rfl)) ⟨_, rfl, rfl⟩ (by repeat (first | exact List.Sublist.refl _ | apply List.Sublist.cons_cons | apply List.Sublist.cons))
theorem pointT_ct {M : Mem} {ig Tp jd Td : Nat} (hG : M[ig]? = some ⟨3, Tp, EE [pp]⟩) (hD : M[jd]? = some ⟨2, Td, EE [dP]⟩) {x y : Nat} (hx : x < RR) (hy : y < RR) (hOn : On (el dP) (el x) (el y)) : Ct Tryz.prog 13 #[.agg (EE [x, y]).toArray] M (fun v M' => ∃ g, v = .tuple #[.pointer (some ⟨g, 0, none⟩), .bool true] ∧ M' = ⟨g, 82, EE [x, y, 1, x, y]⟩ :: M) := by
  refine ct_of (vs := [.agg (EE [x, y]).toArray]) Tryz.func13 rfl Tryz.ntmps13 rfl fun w0 => ?_
  refine at_seq ?_
  refine at_region ?_
  refine at_n rfl rfl (opr_box rfl rfl rfl) ?_
  intro g0
  refine at_d rfl rfl (opr_assign rfl rfl) ?_
  refine at_d rfl rfl (opr_assign rfl rfl) ?_
  refine at_nil ?_
  refine at_then ?_
  refine at_seq ?_
  refine at_drawG (B := [⟨g0, 24, EE [x, y]⟩]) (E := [⟨.pure [], 0, [], .v (.pointer (some ⟨g0, 0, none⟩))⟩, ⟨.pure [0], 0, [], .v (.agg (E (x)).toArray)⟩, ⟨.pure [], 0, [], .v (.pointer (some ⟨g0, 56, none⟩))⟩, ⟨.pure [0], 0, [], .v (.agg (E (y)).toArray)⟩, ⟨.alloc, 60, EE [0], .p 4 0⟩, ⟨.alloc, 60, EE [0], .p 5 0⟩, ⟨.storeA 4, 0, EE [x], .v undef⟩, ⟨.storeA 5, 0, EE [y], .v undef⟩]) (by kernel_rfl) (by kernel_rfl) (by kernel_rfl) (fun γ0 => ?_)
  refine gs_pure rfl rfl (fun M' sB sT => ?_) ?_
  · exact opr_fieldAddr rfl rfl Tryz.underlying24 rfl size22 rfl rfl
  refine gs_pure rfl rfl (fun M' sB sT => ?_) ?_
  · obtain ⟨iB0, hB0⟩ := sB 0 _ rfl rfl; exact opr_load (i := iB0) rfl rfl hB0 Tryz.underlying22 rfl size22 (E_length _) (EE_at (k := 0) rfl rfl rfl)
  refine gs_pure rfl rfl (fun M' sB sT => ?_) ?_
  · exact opr_fieldAddr rfl rfl Tryz.underlying24 rfl size22 rfl rfl
  refine gs_pure rfl rfl (fun M' sB sT => ?_) ?_
  · obtain ⟨iB0, hB0⟩ := sB 0 _ rfl rfl; exact opr_load (i := iB0) rfl rfl hB0 Tryz.underlying22 rfl size22 (E_length _) (EE_at (k := 1) rfl rfl rfl)
  refine gs_alloc rfl rfl (fun M' => opr_alloc rfl zero60 rfl) ?_
  refine gs_alloc rfl rfl (fun M' => opr_alloc rfl zero60 rfl) ?_
  refine gs_storeA rfl rfl rfl rfl rfl (fun M' j hj => opr_store (i := j) rfl rfl rfl rfl hj size60 (E_length _) (by rw [EE_length]; exact Nat.le_of_ble_eq_true rfl) (E_flat _) (EE_set (k := 0) (Nat.le_of_ble_eq_true rfl) rfl)) ?_
  refine gs_storeA rfl rfl rfl rfl rfl (fun M' j hj => opr_store (i := j) rfl rfl rfl rfl hj size60 (E_length _) (by rw [EE_length]; exact Nat.le_of_ble_eq_true rfl) (E_flat _) (EE_set (k := 0) (Nat.le_of_ble_eq_true rfl) rfl)) ?_
  refine gs_nil ?_
  refine (show At _ _ (⟨(γ0 5), 60, EE [y]⟩ :: ⟨(γ0 4), 60, EE [x]⟩ :: ⟨g0, 24, EE [x, y]⟩ :: _) _ from ?_)
  refine at_then ?_
  refine at_seq ?_
  refine at_region ?_
  refine at_c rfl rfl (opr_call rfl rfl rfl Tryz.func26 (by kernel_rfl) rfl (fromT_ct (ig := ig + 3) (jd := jd + 3) (ix := 1) (iy := 0) hG hD rfl rfl hx hy hOn)) ?_
  rintro _ _ ⟨gN, rfl, rfl⟩
  refine at_d rfl rfl (opr_move rfl rfl) ?_
  refine at_d rfl rfl (opr_extract rfl rfl rfl) ?_
  refine at_d rfl rfl (opr_extract rfl rfl rfl) ?_
  refine at_d rfl rfl (opr_assign rfl rfl) ?_
  refine at_d rfl rfl (opr_assign rfl rfl) ?_
  refine at_nil ?_
  refine at_then ?_
  refine at_seq ?_
  refine at_drawQ (by kernel_rfl) (by kernel_rfl) (List.cons_ne_nil _ _) ?_
  refine dr_op rfl rfl (opr_move rfl rfl) ?_
  refine dr_op rfl rfl (opr_move rfl rfl) ?_
  refine dr_op rfl rfl (opr_eqlNil rfl rfl (by kernel_rfl)) ?_
  refine dr_op rfl rfl (opr_assign rfl rfl) ?_
  refine dr_last rfl rfl (opr_assign rfl rfl) ?_
  refine ⟨rfl, ?_⟩
  refine at_then ?_
  refine at_ret ?_
  exact done_of (res2 Tryz.results13 (res_tmp rfl) (res_tmp rfl)) ⟨_, rfl, rfl⟩ (by repeat (first | exact List.Sublist.refl _ | apply List.Sublist.cons_cons | apply List.Sublist.cons))
theorem setOne_ct {M : Mem} {iz gz Tz kz oz : Nat} {lz : List Nat} (hz : M[iz]? = some ⟨gz, Tz, EE lz⟩) (hkz : kz < lz.length) (hoz : 56 * kz = oz) : Ct Tryz.prog 45 #[.pointer (some ⟨gz, oz, none⟩)] M (Det (.tuple #[]) (M.set iz ⟨gz, Tz, EE (lz.set kz 1)⟩)) := by
  refine ct_of (vs := [.pointer (some ⟨gz, oz, none⟩)]) Tryz.func45 rfl Tryz.ntmps45 rfl fun w0 => ?_
  refine at_region ?_
  refine at_d rfl rfl (opr_move rfl rfl) ?_
  refine at_d rfl rfl (opr_buildE rfl rfl built_eone (E_small (by decide))) ?_
  refine at_d rfl rfl (opr_nilCheck rfl rfl) ?_
  refine at_d rfl rfl (opr_store (i := iz) rfl rfl rfl rfl hz size60 (E_length _) (by rw [EE_length]; omega) (E_flat _) (EE_set hkz hoz)) ?_
  refine at_nil ?_
  exact done_of (res0 rfl) ⟨rfl, rfl⟩ (List.Sublist.refl _)
theorem toAff_ct {M : Mem} {ig Tp : Nat} (hG : M[ig]? = some ⟨3, Tp, EE [pp]⟩) {ip gP TP x y z a b : Nat} (hP : M[ip]? = some ⟨gP, TP, EE [x, y, z, a, b]⟩) (hne : ip ≠ ig) (hx : x < RR) (hy : y < RR) (hz : z < RR) : Ct Tryz.prog 27 #[.pointer (some ⟨gP, 0, none⟩)] M (Det (.tuple #[.agg (E (x * invp z % pp)).toArray, .agg (E (y * invp z % pp)).toArray]) (M.set ip ⟨gP, TP, EE [x * invp z % pp, y * invp z % pp, 1, x * invp z % pp, y * invp z % pp]⟩)) := by
  refine ct_of (vs := [.pointer (some ⟨gP, 0, none⟩)]) Tryz.func27 rfl Tryz.ntmps27 rfl fun w0 => ?_
  refine at_seq ?_
  refine at_region ?_
  refine at_n rfl rfl (opr_alloc rfl zero60 rfl) ?_
  intro g0
  refine at_n rfl rfl (opr_alloc rfl zero60 rfl) ?_
  intro g1
  refine at_nil ?_
  refine at_then ?_
  refine at_seq ?_
  refine at_drawR (by kernel_rfl) (by kernel_rfl) (by kernel_rfl) (List.cons_ne_nil _ _) ?_
  refine drR_op rfl rfl (opr_move rfl rfl) ?_
  refine drR_op rfl rfl (opr_nilCheck rfl rfl) ?_
  refine drR_op rfl rfl (opr_fieldAddr rfl rfl Tryz.underlying82 rfl size60 rfl rfl) ?_
  refine drR_op rfl rfl (opr_move rfl rfl) ?_
  refine drR_op rfl rfl (opr_nilCheck rfl rfl) ?_
  refine drR_op rfl rfl (opr_fieldAddr rfl rfl Tryz.underlying82 rfl size60 rfl rfl) ?_
  refine drR_last (v := .tuple #[]) rfl rfl (opr_call rfl rfl rfl Tryz.func42 (by kernel_rfl) rfl (Inv_ct (iz := ip + 2) (ix := ip + 2) (kz := 2) (kx := 2) hP (Nat.le_of_ble_eq_true rfl) rfl hP rfl rfl hz)) ?_ ?_
  · rintro _ _ ⟨_, _, _, rfl, _⟩; rfl
  rintro _ _ ⟨r, hr, hrm, rfl, rfl⟩
  have hb1 : (M.set ip ⟨gP, TP, EE [x, y, r, a, b]⟩)[ip]? = some ⟨gP, TP, EE [x, y, r, a, b]⟩ := get_set hP
  have hb1_3 : (M.set ip ⟨gP, TP, EE [x, y, r, a, b]⟩)[ig]? = some ⟨3, Tp, EE [pp]⟩ := get_set_ne hG hne
  refine at_mem (M2 := ⟨g1, 60, EE [0]⟩ :: ⟨g0, 60, EE [0]⟩ :: (M.set ip ⟨gP, TP, EE [x, y, r, a, b]⟩)) (by simp) ?_
  refine at_then ?_
  refine at_seq ?_
  refine at_drawR (by kernel_rfl) (by kernel_rfl) (by kernel_rfl) (List.cons_ne_nil _ _) ?_
  refine drR_op rfl rfl (opr_move rfl rfl) ?_
  refine drR_op rfl rfl (opr_nilCheck rfl rfl) ?_
  refine drR_op rfl rfl (opr_fieldAddr rfl rfl Tryz.underlying82 rfl size60 rfl rfl) ?_
  refine drR_op rfl rfl (opr_move rfl rfl) ?_
  refine drR_op rfl rfl (opr_nilCheck rfl rfl) ?_
  refine drR_op rfl rfl (opr_fieldAddr rfl rfl Tryz.underlying82 rfl size60 rfl rfl) ?_
  refine drR_op rfl rfl (opr_move rfl rfl) ?_
  refine drR_op rfl rfl (opr_nilCheck rfl rfl) ?_
  refine drR_op rfl rfl (opr_fieldAddr rfl rfl Tryz.underlying82 rfl size60 rfl rfl) ?_
  refine drR_last (v := .tuple #[]) rfl rfl (opr_call rfl rfl rfl Tryz.func43 (by kernel_rfl) rfl (Mul_ct (iz := ip + 2) (ix := ip + 2) (iy := ip + 2) (kz := 0) (kx := 0) (ky := 2) hb1 (Nat.le_of_ble_eq_true rfl) rfl hb1 rfl rfl hb1 rfl rfl hx hr)) ?_ ?_
  · rintro _ _ ⟨_, _, _, rfl, _⟩; rfl
  rintro _ _ ⟨q, hq, hqm, rfl, rfl⟩
  have hqm := aff_eq hrm hqm
  have hb2 : (M.set ip ⟨gP, TP, EE [q, y, r, a, b]⟩)[ip]? = some ⟨gP, TP, EE [q, y, r, a, b]⟩ := get_set hP
  have hb2_3 : (M.set ip ⟨gP, TP, EE [q, y, r, a, b]⟩)[ig]? = some ⟨3, Tp, EE [pp]⟩ := get_set_ne hG hne
  refine at_mem (M2 := ⟨g1, 60, EE [0]⟩ :: ⟨g0, 60, EE [0]⟩ :: (M.set ip ⟨gP, TP, EE [q, y, r, a, b]⟩)) (by simp) ?_
  refine at_then ?_
  refine at_seq ?_
  refine at_drawR (by kernel_rfl) (by kernel_rfl) (by kernel_rfl) (List.cons_ne_nil _ _) ?_
  refine drR_op rfl rfl (opr_move rfl rfl) ?_
  refine drR_op rfl rfl (opr_nilCheck rfl rfl) ?_
  refine drR_op rfl rfl (opr_fieldAddr rfl rfl Tryz.underlying82 rfl size60 rfl rfl) ?_
  refine drR_op rfl rfl (opr_move rfl rfl) ?_
  refine drR_op rfl rfl (opr_nilCheck rfl rfl) ?_
  refine drR_op rfl rfl (opr_fieldAddr rfl rfl Tryz.underlying82 rfl size60 rfl rfl) ?_
  refine drR_op rfl rfl (opr_move rfl rfl) ?_
  refine drR_op rfl rfl (opr_nilCheck rfl rfl) ?_
  refine drR_op rfl rfl (opr_fieldAddr rfl rfl Tryz.underlying82 rfl size60 rfl rfl) ?_
  refine drR_last (v := .tuple #[]) rfl rfl (opr_call rfl rfl rfl Tryz.func43 (by kernel_rfl) rfl (Mul_ct (iz := ip + 2) (ix := ip + 2) (iy := ip + 2) (kz := 1) (kx := 1) (ky := 2) hb2 (Nat.le_of_ble_eq_true rfl) rfl hb2 rfl rfl hb2 rfl rfl hy hr)) ?_ ?_
  · rintro _ _ ⟨_, _, _, rfl, _⟩; rfl
  rintro _ _ ⟨p, hp, hpm, rfl, rfl⟩
  have hpm := aff_eq hrm hpm
  have hb3 : (M.set ip ⟨gP, TP, EE [q, p, r, a, b]⟩)[ip]? = some ⟨gP, TP, EE [q, p, r, a, b]⟩ := get_set hP
  have hb3_3 : (M.set ip ⟨gP, TP, EE [q, p, r, a, b]⟩)[ig]? = some ⟨3, Tp, EE [pp]⟩ := get_set_ne hG hne
  refine at_mem (M2 := ⟨g1, 60, EE [0]⟩ :: ⟨g0, 60, EE [0]⟩ :: (M.set ip ⟨gP, TP, EE [q, p, r, a, b]⟩)) (by simp) ?_
  refine at_then ?_
  refine at_seq ?_
  refine at_region ?_
  refine at_d rfl rfl (opr_move rfl rfl) ?_
  refine at_d rfl rfl (opr_nilCheck rfl rfl) ?_
  refine at_d rfl rfl (opr_fieldAddr rfl rfl Tryz.underlying82 rfl size60 rfl rfl) ?_
  refine at_d rfl rfl (opr_call rfl rfl rfl Tryz.func44 (by kernel_rfl) rfl (modp_ct (ig := ig + 2) (iz := ip + 2) (kz := 0) hb3_3 hb3 rfl rfl hq)) ?_
  have hb4 : (M.set ip ⟨gP, TP, EE [(q % pp), p, r, a, b]⟩)[ip]? = some ⟨gP, TP, EE [(q % pp), p, r, a, b]⟩ := get_set hP
  have hb4_3 : (M.set ip ⟨gP, TP, EE [(q % pp), p, r, a, b]⟩)[ig]? = some ⟨3, Tp, EE [pp]⟩ := get_set_ne hG hne
  refine at_mem (M2 := ⟨g1, 60, EE [0]⟩ :: ⟨g0, 60, EE [0]⟩ :: (M.set ip ⟨gP, TP, EE [(q % pp), p, r, a, b]⟩)) (by simp) ?_
  refine at_nil ?_
  refine at_then ?_
  refine at_seq ?_
  refine at_region ?_
  refine at_d rfl rfl (opr_move rfl rfl) ?_
  refine at_d rfl rfl (opr_nilCheck rfl rfl) ?_
  refine at_d rfl rfl (opr_fieldAddr rfl rfl Tryz.underlying82 rfl size60 rfl rfl) ?_
  refine at_d rfl rfl (opr_call rfl rfl rfl Tryz.func44 (by kernel_rfl) rfl (modp_ct (ig := ig + 2) (iz := ip + 2) (kz := 1) hb4_3 hb4 rfl rfl hp)) ?_
  have hb5 : (M.set ip ⟨gP, TP, EE [(q % pp), (p % pp), r, a, b]⟩)[ip]? = some ⟨gP, TP, EE [(q % pp), (p % pp), r, a, b]⟩ := get_set hP
  have hb5_3 : (M.set ip ⟨gP, TP, EE [(q % pp), (p % pp), r, a, b]⟩)[ig]? = some ⟨3, Tp, EE [pp]⟩ := get_set_ne hG hne
  refine at_mem (M2 := ⟨g1, 60, EE [0]⟩ :: ⟨g0, 60, EE [0]⟩ :: (M.set ip ⟨gP, TP, EE [(q % pp), (p % pp), r, a, b]⟩)) (by simp) ?_
  refine at_nil ?_
  refine at_then ?_
  refine at_seq ?_
  refine at_region ?_
  refine at_d rfl rfl (opr_move rfl rfl) ?_
  refine at_d rfl rfl (opr_nilCheck rfl rfl) ?_
  refine at_d rfl rfl (opr_fieldAddr rfl rfl Tryz.underlying82 rfl size60 rfl rfl) ?_
  refine at_d rfl rfl (opr_call rfl rfl rfl Tryz.func45 (by kernel_rfl) rfl (setOne_ct (iz := ip + 2) (kz := 2) hb5 (Nat.le_of_ble_eq_true rfl) rfl)) ?_
  have hb6 : (M.set ip ⟨gP, TP, EE [(q % pp), (p % pp), 1, a, b]⟩)[ip]? = some ⟨gP, TP, EE [(q % pp), (p % pp), 1, a, b]⟩ := get_set hP
  have hb6_3 : (M.set ip ⟨gP, TP, EE [(q % pp), (p % pp), 1, a, b]⟩)[ig]? = some ⟨3, Tp, EE [pp]⟩ := get_set_ne hG hne
  refine at_mem (M2 := ⟨g1, 60, EE [0]⟩ :: ⟨g0, 60, EE [0]⟩ :: (M.set ip ⟨gP, TP, EE [(q % pp), (p % pp), 1, a, b]⟩)) (by simp) ?_
  refine at_nil ?_
  refine at_then ?_
  refine at_seq ?_
  refine at_region ?_
  refine at_d rfl rfl (opr_move rfl rfl) ?_
  refine at_d rfl rfl (opr_move rfl rfl) ?_
  refine at_d rfl rfl (opr_nilCheck rfl rfl) ?_
  refine at_d rfl rfl (opr_fieldAddr rfl rfl Tryz.underlying82 rfl size60 rfl rfl) ?_
  refine at_d rfl rfl (opr_load (i := ip + 2) rfl rfl hb6 Tryz.underlying60 rfl size60 (E_length _) (EE_at (k := 0) rfl rfl rfl)) ?_
  refine at_d rfl rfl (opr_nilCheck rfl rfl) ?_
  refine at_d rfl rfl (opr_fieldAddr rfl rfl Tryz.underlying82 rfl size60 rfl rfl) ?_
  refine at_d rfl rfl (opr_store (i := ip + 2) rfl rfl rfl rfl hb6 size60 (E_length _) (by rw [EE_length]; exact Nat.le_of_ble_eq_true rfl) (E_flat _) (EE_set (k := 3) (Nat.le_of_ble_eq_true rfl) rfl)) ?_
  have hb7 : (M.set ip ⟨gP, TP, EE [(q % pp), (p % pp), 1, (q % pp), b]⟩)[ip]? = some ⟨gP, TP, EE [(q % pp), (p % pp), 1, (q % pp), b]⟩ := get_set hP
  have hb7_3 : (M.set ip ⟨gP, TP, EE [(q % pp), (p % pp), 1, (q % pp), b]⟩)[ig]? = some ⟨3, Tp, EE [pp]⟩ := get_set_ne hG hne
  refine at_mem (M2 := ⟨g1, 60, EE [0]⟩ :: ⟨g0, 60, EE [0]⟩ :: (M.set ip ⟨gP, TP, EE [(q % pp), (p % pp), 1, (q % pp), b]⟩)) (by simp) ?_
  refine at_nil ?_
  refine at_then ?_
  refine at_seq ?_
  refine at_region ?_
  refine at_d rfl rfl (opr_move rfl rfl) ?_
  refine at_d rfl rfl (opr_move rfl rfl) ?_
  refine at_d rfl rfl (opr_nilCheck rfl rfl) ?_
  refine at_d rfl rfl (opr_fieldAddr rfl rfl Tryz.underlying82 rfl size60 rfl rfl) ?_
  refine at_d rfl rfl (opr_load (i := ip + 2) rfl rfl hb7 Tryz.underlying60 rfl size60 (E_length _) (EE_at (k := 1) rfl rfl rfl)) ?_
  refine at_d rfl rfl (opr_nilCheck rfl rfl) ?_
  refine at_d rfl rfl (opr_fieldAddr rfl rfl Tryz.underlying82 rfl size60 rfl rfl) ?_
  refine at_d rfl rfl (opr_store (i := ip + 2) rfl rfl rfl rfl hb7 size60 (E_length _) (by rw [EE_length]; exact Nat.le_of_ble_eq_true rfl) (E_flat _) (EE_set (k := 4) (Nat.le_of_ble_eq_true rfl) rfl)) ?_
  have hb8 : (M.set ip ⟨gP, TP, EE [(q % pp), (p % pp), 1, (q % pp), (p % pp)]⟩)[ip]? = some ⟨gP, TP, EE [(q % pp), (p % pp), 1, (q % pp), (p % pp)]⟩ := get_set hP
  have hb8_3 : (M.set ip ⟨gP, TP, EE [(q % pp), (p % pp), 1, (q % pp), (p % pp)]⟩)[ig]? = some ⟨3, Tp, EE [pp]⟩ := get_set_ne hG hne
  refine at_mem (M2 := ⟨g1, 60, EE [0]⟩ :: ⟨g0, 60, EE [0]⟩ :: (M.set ip ⟨gP, TP, EE [(q % pp), (p % pp), 1, (q % pp), (p % pp)]⟩)) (by simp) ?_
  refine at_nil ?_
  refine at_then ?_
  refine at_seq ?_
  refine at_drawG (B := [⟨g1, 60, EE [0]⟩, ⟨g0, 60, EE [0]⟩]) (E := [⟨.pure [], 0, [], .v (.pointer (some ⟨gP, 0, none⟩))⟩, ⟨.pure [], 0, [], .v (.pointer (some ⟨gP, 0, none⟩))⟩, ⟨.pure [], 0, [], .v (.pointer (some ⟨gP, 0, none⟩))⟩, ⟨.pure [], 0, [], .v (.agg (E ((q % pp))).toArray)⟩, ⟨.pure [], 0, [], .v (.pointer (some ⟨gP, 0, none⟩))⟩, ⟨.pure [], 0, [], .v (.pointer (some ⟨gP, 0, none⟩))⟩, ⟨.pure [], 0, [], .v (.pointer (some ⟨gP, 56, none⟩))⟩, ⟨.pure [], 0, [], .v (.agg (E ((p % pp))).toArray)⟩, ⟨.storeB 1, 0, EE [(q % pp)], .v undef⟩, ⟨.storeB 0, 0, EE [(p % pp)], .v undef⟩]) (by kernel_rfl) (by kernel_rfl) (by kernel_rfl) (fun γ0 => ?_)
  refine gs_pure rfl rfl (fun M' sB sT => ?_) ?_
  · exact opr_move rfl rfl
  refine gs_pure rfl rfl (fun M' sB sT => ?_) ?_
  · exact opr_nilCheck rfl rfl
  refine gs_pure rfl rfl (fun M' sB sT => ?_) ?_
  · exact opr_fieldAddr rfl rfl Tryz.underlying82 rfl size60 rfl rfl
  refine gs_pure rfl rfl (fun M' sB sT => ?_) ?_
  · obtain ⟨iT1, hT1⟩ := sT _ _ hb8; exact opr_load (i := iT1) rfl rfl hT1 Tryz.underlying60 rfl size60 (E_length _) (EE_at (k := 0) rfl rfl rfl)
  refine gs_pure rfl rfl (fun M' sB sT => ?_) ?_
  · exact opr_move rfl rfl
  refine gs_pure rfl rfl (fun M' sB sT => ?_) ?_
  · exact opr_nilCheck rfl rfl
  refine gs_pure rfl rfl (fun M' sB sT => ?_) ?_
  · exact opr_fieldAddr rfl rfl Tryz.underlying82 rfl size60 rfl rfl
  refine gs_pure rfl rfl (fun M' sB sT => ?_) ?_
  · obtain ⟨iT1, hT1⟩ := sT _ _ hb8; exact opr_load (i := iT1) rfl rfl hT1 Tryz.underlying60 rfl size60 (E_length _) (EE_at (k := 1) rfl rfl rfl)
  refine gs_storeB rfl rfl rfl (fun M' j hj => opr_store (i := j) rfl rfl rfl rfl hj size60 (E_length _) (by rw [EE_length]; exact Nat.le_of_ble_eq_true rfl) (E_flat _) (EE_set (k := 0) (Nat.le_of_ble_eq_true rfl) rfl)) ?_
  refine gs_storeB rfl rfl rfl (fun M' j hj => opr_store (i := j) rfl rfl rfl rfl hj size60 (E_length _) (by rw [EE_length]; exact Nat.le_of_ble_eq_true rfl) (E_flat _) (EE_set (k := 0) (Nat.le_of_ble_eq_true rfl) rfl)) ?_
  refine gs_nil ?_
  refine (show At _ _ (⟨g1, 60, EE [(p % pp)]⟩ :: ⟨g0, 60, EE [(q % pp)]⟩ :: _) _ from ?_)
  refine at_then ?_
  refine at_ret ?_
  rw [← hqm, ← hpm]
  exact done_of (res2 Tryz.results27 (res_cell (i := 1) rfl rfl Tryz.underlying60 rfl size60 (E_length _) (EE_at (k := 0) rfl rfl rfl)) (res_cell (i := 0) rfl rfl Tryz.underlying60 rfl size60 (E_length _) (EE_at (k := 0) rfl rfl rfl))) ⟨rfl, rfl⟩ (by repeat (first | exact List.Sublist.refl _ | apply List.Sublist.cons))
theorem plain_ct {M : Mem} {ig Tp : Nat} (hG : M[ig]? = some ⟨3, Tp, EE [pp]⟩) {ip gP TP x y z a b : Nat} (hP : M[ip]? = some ⟨gP, TP, EE [x, y, z, a, b]⟩) (hne : ip ≠ ig) (hx : x < RR) (hy : y < RR) (hz : z < RR) : Ct Tryz.prog 14 #[.pointer (some ⟨gP, 0, none⟩)] M (Det (.agg (EE [x * invp z % pp, y * invp z % pp]).toArray) (M.set ip ⟨gP, TP, EE [x * invp z % pp, y * invp z % pp, 1, x * invp z % pp, y * invp z % pp]⟩)) := by
  refine ct_of (vs := [.pointer (some ⟨gP, 0, none⟩)]) Tryz.func14 rfl Tryz.ntmps14 rfl fun w0 => ?_
  refine at_seq ?_
  refine at_region ?_
  refine at_n rfl rfl (opr_alloc rfl zero24 rfl) ?_
  intro g0
  refine at_nil ?_
  refine at_then ?_
  refine at_seq ?_
  refine at_region ?_
  refine at_d rfl rfl (opr_move rfl rfl) ?_
  refine at_d rfl rfl (opr_call rfl rfl rfl Tryz.func27 (by kernel_rfl) rfl (toAff_ct (ig := ig + 1) (ip := ip + 1) hG hP (by omega) hx hy hz)) ?_
  have hb1 : (M.set ip ⟨gP, TP, EE [x * invp z % pp, y * invp z % pp, 1, x * invp z % pp, y * invp z % pp]⟩)[ip]? = some ⟨gP, TP, EE [x * invp z % pp, y * invp z % pp, 1, x * invp z % pp, y * invp z % pp]⟩ := get_set hP
  have hb1_3 : (M.set ip ⟨gP, TP, EE [x * invp z % pp, y * invp z % pp, 1, x * invp z % pp, y * invp z % pp]⟩)[ig]? = some ⟨3, Tp, EE [pp]⟩ := get_set_ne hG hne
  refine at_mem (M2 := ⟨g0, 24, EE [0, 0]⟩ :: (M.set ip ⟨gP, TP, EE [x * invp z % pp, y * invp z % pp, 1, x * invp z % pp, y * invp z % pp]⟩)) (by simp) ?_
  refine at_d rfl rfl (opr_move rfl rfl) ?_
  refine at_d rfl rfl (opr_extract rfl rfl rfl) ?_
  refine at_d rfl rfl (opr_extract rfl rfl rfl) ?_
  refine at_n rfl rfl (opr_alloc rfl zero60 rfl) ?_
  intro g1
  refine at_n rfl rfl (opr_alloc rfl zero60 rfl) ?_
  intro g2
  refine at_d rfl rfl (opr_store (i := 1) rfl rfl rfl rfl rfl size60 (E_length _) (by rw [EE_length]; exact Nat.le_of_ble_eq_true rfl) (E_flat _) (EE_set (k := 0) (Nat.le_of_ble_eq_true rfl) rfl)) ?_
  refine at_d rfl rfl (opr_store (i := 0) rfl rfl rfl rfl rfl size60 (E_length _) (by rw [EE_length]; exact Nat.le_of_ble_eq_true rfl) (E_flat _) (EE_set (k := 0) (Nat.le_of_ble_eq_true rfl) rfl)) ?_
  refine at_nil ?_
  refine at_then ?_
  refine at_seq ?_
  refine at_draw (by kernel_rfl) (by kernel_rfl) (by kernel_rfl) (List.cons_ne_nil _ _) ?_
  refine dr_op rfl rfl (opr_load (i := 1) rfl rfl rfl Tryz.underlying60 rfl size60 (E_length _) (EE_at (k := 0) rfl rfl rfl)) ?_
  refine dr_op rfl rfl (opr_call rfl rfl rfl Tryz.func28 (by kernel_rfl) rfl (reduced_ct (ig := ig + 3) hb1_3 (modp_lt _))) ?_
  refine dr_op rfl rfl (opr_load (i := 0) rfl rfl rfl Tryz.underlying60 rfl size60 (E_length _) (EE_at (k := 0) rfl rfl rfl)) ?_
  refine dr_op rfl rfl (opr_call rfl rfl rfl Tryz.func28 (by kernel_rfl) rfl (reduced_ct (ig := ig + 3) hb1_3 (modp_lt _))) ?_
  refine dr_op rfl rfl (opr_buildE (ds := EE [((x * invp z % pp) % pp), ((y * invp z % pp) % pp)]) rfl rfl (builtp24 [(0, ((x * invp z % pp) % pp)), (1, ((y * invp z % pp) % pp))] rfl) rfl) ?_
  refine dr_last rfl rfl (opr_store (i := 2) rfl rfl rfl rfl rfl size24 (EE_length _) (by rw [EE_length]; exact Nat.le_of_ble_eq_true rfl) (EE_flat _) (EE_over rfl)) ?_
  refine at_then ?_
  refine at_ret ?_
  refine done_of (res1 Tryz.results14 (res_cell (i := 2) rfl rfl Tryz.underlying24 rfl size24 (EE_length _) (EE_all rfl))) ⟨?_, rfl⟩ (by repeat (first | exact List.Sublist.refl _ | apply List.Sublist.cons))
  simp only [Nat.mod_mod]
end Go.Proofs.YtjlhhcdefcofkaaGreatDoor

/- Points of the reference. -/
namespace Go.Proofs.YtjlhhcdefcofkaaGreatDoor
open Go
set_option maxRecDepth 100000
theorem size33 : (Tryz.prog.info? 33).map (·.size) = some 84 := by kernel_rfl
theorem zero33 : (Tryz.prog.info? 33).bind (·.zero) = some (.agg (NN [0, 0, 0]).toArray) := by kernel_rfl
theorem builtn31 : Tryz.prog.built 31 [] = some (List.replicate 28 (Value.int .u64 0)).toArray := by kernel_rfl
theorem builtp33 (ps : List (Nat × Nat)) (h : (ps.all fun p => decide (p.1 < 3) && decide ((([(0, 28), (28, 28), (56, 28)] : List (Nat × Nat)).toArray[p.1]? : Option (Nat × Nat)) = some (28 * p.1, 28))) = true) : Tryz.prog.built 33 (ps.map fun p => (p.1, .agg (N p.2).toArray)) = some (NN (ps.foldl (fun l p => l.set p.1 p.2) [0, 0, 0])).toArray := by
  rw [built_str (pl := [(0, 28), (28, 28), (56, 28)]) Tryz.underlying33 zero33 (by kernel_rfl)]
  exact fillNN ps [0, 0, 0] h
/-- The reference's sum of two points, by X, Y, Z. -/
structure PlusEl (x1 y1 z1 x2 y2 z2 x3 y3 z3 : Fin pp) : Prop where
  hx : x3 = z1 * z2 * ((z1 * z2 * (z1 * z2) - -(el 39081 * (x1 * x2 * (y1 * y2)))) * ((x1 + y1) * (x2 + y2) - x1 * x2 - y1 * y2))
  hy : y3 = z1 * z2 * ((z1 * z2 * (z1 * z2) + -(el 39081 * (x1 * x2 * (y1 * y2)))) * (y1 * y2 - x1 * x2))
  hz : z3 = (z1 * z2 * (z1 * z2) - -(el 39081 * (x1 * x2 * (y1 * y2)))) * (z1 * z2 * (z1 * z2) + -(el 39081 * (x1 * x2 * (y1 * y2))))
/-- X : Y : Z stands for the point (x, y). -/
structure Rep (x y X Y Z : Fin pp) : Prop where
  nz : Z ≠ 0
  hx : x * Z = X
  hy : y * Z = Y
theorem rep_one (x y : Fin pp) : Rep x y x y (el 1) := ⟨by rw [el_one]; exact isF_pp.one, by rw [el_one]; grind, by rw [el_one]; grind⟩
theorem Rep.plus {x1 y1 x2 y2 xa ya X1 Y1 Z1 X2 Y2 Z2 x3 y3 z3 : Fin pp} (o1 : On (el dP) x1 y1) (o2 : On (el dP) x2 y2) (r1 : Rep x1 y1 X1 Y1 Z1) (r2 : Rep x2 y2 X2 Y2 Z2) (s : Sum (el dP) x1 y1 x2 y2 xa ya) (h : PlusEl X1 Y1 Z1 X2 Y2 Z2 x3 y3 z3) : Rep xa ya x3 y3 z3 := by
  have dp := den_plus goldC o1 o2
  have dm := den_minus goldC o1 o2
  clear o1 o2
  obtain ⟨n1, hX1, hY1⟩ := r1
  obtain ⟨n2, hX2, hY2⟩ := r2
  obtain ⟨hx, hy, hz⟩ := h
  obtain ⟨sx, sy⟩ := s
  have nn := isF_pp.mul_ne n1 n2
  subst hX1 hY1 hX2 hY2
  have k39 : el 39081 = -el dP := by rw [el_dP]; generalize el 39081 = c; clear nn n1 n2 dp dm sx sy hx hy hz; grind
  rw [k39] at hx hy hz
  clear k39
  generalize el dP = d at *
  have e0 : Z1 * Z2 * (Z1 * Z2) - -(-d * (x1 * Z1 * (x2 * Z2) * (y1 * Z1 * (y2 * Z2)))) = Z1 * Z2 * (Z1 * Z2) * (1 - d * x1 * x2 * y1 * y2) := by clear nn n1 n2 dp dm sx sy hx hy hz; grind
  have e1 : Z1 * Z2 * (Z1 * Z2) + -(-d * (x1 * Z1 * (x2 * Z2) * (y1 * Z1 * (y2 * Z2)))) = Z1 * Z2 * (Z1 * Z2) * (1 + d * x1 * x2 * y1 * y2) := by clear nn n1 n2 dp dm sx sy hx hy hz e0; grind
  have e2 : (x1 * Z1 + y1 * Z1) * (x2 * Z2 + y2 * Z2) - x1 * Z1 * (x2 * Z2) - y1 * Z1 * (y2 * Z2) = Z1 * Z2 * (x1 * y2 + y1 * x2) := by clear nn n1 n2 dp dm sx sy hx hy hz e0 e1; grind
  have e3 : y1 * Z1 * (y2 * Z2) - x1 * Z1 * (x2 * Z2) = Z1 * Z2 * (y1 * y2 - x1 * x2) := by clear nn n1 n2 dp dm sx sy hx hy hz e0 e1 e2; grind
  rw [e0, e2, ← sx] at hx
  rw [e1, e3, ← sy] at hy
  rw [e0, e1] at hz
  clear e0 e1 e2 e3 sx sy n1 n2
  generalize 1 - d * x1 * x2 * y1 * y2 = m at *
  generalize 1 + d * x1 * x2 * y1 * y2 = q at *
  generalize Z1 * Z2 = w at *
  refine ⟨?_, ?_, ?_⟩
  · rw [hz]; exact isF_pp.mul_ne (isF_pp.mul_ne (isF_pp.mul_ne nn nn) dm) (isF_pp.mul_ne (isF_pp.mul_ne nn nn) dp)
  · rw [hz, hx]; clear hx hy hz dp dm nn; grind
  · rw [hz, hy]; clear hx hy hz dp dm nn; grind
/-- Whether two coordinates are those of a point, as the reference reckons it. -/
def curvN (a : Nat) : Nat := negp (39081 * a % pp)
def onB (x y : Nat) : Bool := decide ((x * x % pp + y * y % pp) % pp = (1 + curvN (x * x % pp * (y * y % pp) % pp)) % pp)
theorem el_curvN (a : Nat) : el (curvN a) = -(el 39081 * el a) := by rw [curvN, el_neg, el_mod, el_mul]
theorem onB_iff {x y : Nat} : onB x y = true ↔ On (el dP) (el x) (el y) := by
  unfold onB
  rw [decide_eq_true_iff, ← el_eq, el_add, el_add, el_curvN]
  simp only [el_mod, el_mul, el_one]
  have k39 : el 39081 = -el dP := by rw [el_dP]; generalize el 39081 = c; grind
  rw [k39]
  unfold On
  generalize el dP = d
  generalize el x = a
  generalize el y = b
  have e : 1 + -(-d * (a * a * (b * b))) = 1 + d * (a * a) * (b * b) := by clear k39; grind
  rw [e]
theorem onB_false {x y : Nat} (h : ¬ On (el dP) (el x) (el y)) : onB x y = false := by
  cases hb : onB x y
  · rfl
  · exact absurd (onB_iff.1 hb) h
def onAll (l : List Nat) (n : Nat) : Bool := decide (∀ j, j < n → onB (l.getD (2 * j) 0) (l.getD (2 * j + 1) 0) = true)
def isB (X Y Z x y : Nat) : Bool := decide (x * Z % pp = X % pp) && decide (y * Z % pp = Y % pp)
theorem isB_rep {x y : Nat} {X Y Z : Nat} (h : Rep (el x) (el y) (el X) (el Y) (el Z)) : x * Z % pp = X % pp ∧ y * Z % pp = Y % pp :=
  ⟨el_eq.1 ((el_mul _ _).trans h.hx), el_eq.1 ((el_mul _ _).trans h.hy)⟩
theorem curvN_lt (a : Nat) : curvN a < RR := negp_lt _
def plA (z1 z2 : Nat) : Nat := z1 * z2 % pp
def plE (x1 y1 x2 y2 : Nat) : Nat := curvN (x1 * x2 % pp * (y1 * y2 % pp) % pp)
def plF (x1 y1 z1 x2 y2 z2 : Nat) : Nat := (plA z1 z2 * plA z1 z2 % pp + negp (plE x1 y1 x2 y2)) % pp
def plG (x1 y1 z1 x2 y2 z2 : Nat) : Nat := (plA z1 z2 * plA z1 z2 % pp + plE x1 y1 x2 y2) % pp
def plH (x1 y1 x2 y2 : Nat) : Nat := (((x1 + y1) % pp * ((x2 + y2) % pp) % pp + negp (x1 * x2 % pp)) % pp + negp (y1 * y2 % pp)) % pp
def plX (x1 y1 z1 x2 y2 z2 : Nat) : Nat := plA z1 z2 * (plF x1 y1 z1 x2 y2 z2 * plH x1 y1 x2 y2 % pp) % pp
def plY (x1 y1 z1 x2 y2 z2 : Nat) : Nat := plA z1 z2 * (plG x1 y1 z1 x2 y2 z2 * ((y1 * y2 % pp + negp (x1 * x2 % pp)) % pp) % pp) % pp
def plZ (x1 y1 z1 x2 y2 z2 : Nat) : Nat := plF x1 y1 z1 x2 y2 z2 * plG x1 y1 z1 x2 y2 z2 % pp
theorem plA_lt (z1 z2 : Nat) : plA z1 z2 < RR := modp_lt _
theorem plE_lt (x1 y1 x2 y2 : Nat) : plE x1 y1 x2 y2 < RR := curvN_lt _
theorem plF_lt (x1 y1 z1 x2 y2 z2 : Nat) : plF x1 y1 z1 x2 y2 z2 < RR := modp_lt _
theorem plG_lt (x1 y1 z1 x2 y2 z2 : Nat) : plG x1 y1 z1 x2 y2 z2 < RR := modp_lt _
theorem plH_lt (x1 y1 x2 y2 : Nat) : plH x1 y1 x2 y2 < RR := modp_lt _
theorem plX_lt (x1 y1 z1 x2 y2 z2 : Nat) : plX x1 y1 z1 x2 y2 z2 < RR := modp_lt _
theorem plY_lt (x1 y1 z1 x2 y2 z2 : Nat) : plY x1 y1 z1 x2 y2 z2 < RR := modp_lt _
theorem plZ_lt (x1 y1 z1 x2 y2 z2 : Nat) : plZ x1 y1 z1 x2 y2 z2 < RR := modp_lt _
theorem pl_el (x1 y1 z1 x2 y2 z2 : Nat) : PlusEl (el x1) (el y1) (el z1) (el x2) (el y2) (el z2) (el (plX x1 y1 z1 x2 y2 z2)) (el (plY x1 y1 z1 x2 y2 z2)) (el (plZ x1 y1 z1 x2 y2 z2)) := by
  constructor
  · simp only [plX, plF, plH, plE, plA, el_mod, el_mul, el_add, el_neg, el_curvN]
    generalize el 39081 = c, el x1 = x1, el y1 = y1, el z1 = z1, el x2 = x2, el y2 = y2, el z2 = z2
    grind
  · simp only [plY, plG, plE, plA, el_mod, el_mul, el_add, el_neg, el_curvN]
    generalize el 39081 = c, el x1 = x1, el y1 = y1, el z1 = z1, el x2 = x2, el y2 = y2, el z2 = z2
    grind
  · simp only [plZ, plF, plG, plE, plA, el_mod, el_mul, el_add, el_neg, el_curvN]
    generalize el 39081 = c, el x1 = x1, el y1 = y1, el z1 = z1, el x2 = x2, el y2 = y2, el z2 = z2
    grind
theorem el_inj {a b : Nat} (ha : a < pp) (hb : b < pp) (h : el a = el b) : a = b := by
  have := el_eq.1 h
  rwa [Nat.mod_eq_of_lt ha, Nat.mod_eq_of_lt hb] at this
theorem curved_ct {M : Mem} {a : Nat} (ha : a < RR) : Ct Tryz.prog 34 #[.agg (N a).toArray] M (Det (.agg (N (curvN a)).toArray) M) := by
  refine ct_of (vs := [.agg (N a).toArray]) Tryz.func34 rfl Tryz.ntmps34 rfl fun w0 => ?_
  refine at_seq ?_
  refine at_region ?_
  refine at_n rfl rfl (opr_box rfl rfl rfl) ?_
  intro g0
  refine at_n rfl rfl (opr_alloc rfl zero31 rfl) ?_
  intro g1
  refine at_nil ?_
  refine at_then ?_
  refine at_seq ?_
  refine at_draw (by kernel_rfl) (by kernel_rfl) (by kernel_rfl) (List.cons_ne_nil _ _) ?_
  refine dr_op rfl rfl (opr_call rfl rfl rfl Tryz.func33 (by kernel_rfl) rfl (small_ct (c := 39081) (by decide))) ?_
  refine dr_op rfl rfl (opr_load (i := 1) rfl rfl rfl Tryz.underlying31 rfl size31 (N_length _) (N_at _)) ?_
  refine dr_op rfl rfl (opr_call rfl rfl rfl Tryz.func24 (by kernel_rfl) rfl (sMul_ct (by decide) ha)) ?_
  refine dr_op rfl rfl (opr_call rfl rfl rfl Tryz.func63 (by kernel_rfl) rfl (sNeg_ct (modp_lt _))) ?_
  refine dr_last rfl rfl (opr_store (i := 0) rfl rfl rfl rfl rfl size31 (N_length _) (by rw [N_length]; decide) (N_flat _) N_over) ?_
  refine at_then ?_
  refine at_ret ?_
  refine done_of (res1 Tryz.results34 (res_cell (i := 0) rfl rfl Tryz.underlying31 rfl size31 (N_length _) (N_at _))) ⟨rfl, rfl⟩ (by repeat (first | exact List.Sublist.refl _ | apply List.Sublist.cons))
theorem isPoint_ct {M : Mem} {x y : Nat} (hx : x < RR) (hy : y < RR) : Ct Tryz.prog 22 #[.agg (E x).toArray, .agg (E y).toArray] M (Det (.bool (onB x y)) M) := by
  refine ct_of (vs := [.agg (E x).toArray, .agg (E y).toArray]) Tryz.func22 rfl Tryz.ntmps22 rfl fun w0 => ?_
  refine at_seq ?_
  refine at_region ?_
  refine at_n rfl rfl (opr_box (cs := EE [x]) rfl rfl (E_box _)) ?_
  intro g0
  refine at_n rfl rfl (opr_box (cs := EE [y]) rfl rfl (E_box _)) ?_
  intro g1
  refine at_d rfl rfl (opr_assign rfl rfl) ?_
  refine at_nil ?_
  refine at_then ?_
  refine at_seq ?_
  refine at_drawG (B := [⟨g1, 22, EE [y]⟩, ⟨g0, 22, EE [x]⟩]) (E := [⟨.pure [1], 0, [], .v (.agg (E (x)).toArray)⟩, ⟨.pure [], 0, [], .v (.agg (N (x)).toArray)⟩, ⟨.pure [1], 0, [], .v (.agg (E (x)).toArray)⟩, ⟨.pure [], 0, [], .v (.agg (N (x)).toArray)⟩, ⟨.pure [], 0, [], .v (.agg (N ((x * x % pp))).toArray)⟩, ⟨.pure [0], 0, [], .v (.agg (E (y)).toArray)⟩, ⟨.pure [], 0, [], .v (.agg (N (y)).toArray)⟩, ⟨.pure [0], 0, [], .v (.agg (E (y)).toArray)⟩, ⟨.pure [], 0, [], .v (.agg (N (y)).toArray)⟩, ⟨.pure [], 0, [], .v (.agg (N ((y * y % pp))).toArray)⟩, ⟨.alloc, 31, N (0), .p 10 0⟩, ⟨.alloc, 31, N (0), .p 11 0⟩, ⟨.storeA 10, 0, N ((x * x % pp)), .v undef⟩, ⟨.storeA 11, 0, N ((y * y % pp)), .v undef⟩]) (by kernel_rfl) (by kernel_rfl) (by kernel_rfl) (fun γ0 => ?_)
  refine gs_pure rfl rfl (fun M' sB sT => ?_) ?_
  · obtain ⟨iB1, hB1⟩ := sB 1 _ rfl rfl; exact opr_load (i := iB1) rfl rfl hB1 Tryz.underlying22 rfl size22 (E_length _) (EE_at (k := 0) rfl rfl rfl)
  refine gs_pure rfl rfl (fun M' sB sT => ?_) ?_
  · exact opr_call rfl rfl rfl Tryz.func9 (by kernel_rfl) rfl (of_ct _)
  refine gs_pure rfl rfl (fun M' sB sT => ?_) ?_
  · obtain ⟨iB1, hB1⟩ := sB 1 _ rfl rfl; exact opr_load (i := iB1) rfl rfl hB1 Tryz.underlying22 rfl size22 (E_length _) (EE_at (k := 0) rfl rfl rfl)
  refine gs_pure rfl rfl (fun M' sB sT => ?_) ?_
  · exact opr_call rfl rfl rfl Tryz.func9 (by kernel_rfl) rfl (of_ct _)
  refine gs_pure rfl rfl (fun M' sB sT => ?_) ?_
  · exact opr_call rfl rfl rfl Tryz.func24 (by kernel_rfl) rfl (sMul_ct hx hx)
  refine gs_pure rfl rfl (fun M' sB sT => ?_) ?_
  · obtain ⟨iB0, hB0⟩ := sB 0 _ rfl rfl; exact opr_load (i := iB0) rfl rfl hB0 Tryz.underlying22 rfl size22 (E_length _) (EE_at (k := 0) rfl rfl rfl)
  refine gs_pure rfl rfl (fun M' sB sT => ?_) ?_
  · exact opr_call rfl rfl rfl Tryz.func9 (by kernel_rfl) rfl (of_ct _)
  refine gs_pure rfl rfl (fun M' sB sT => ?_) ?_
  · obtain ⟨iB0, hB0⟩ := sB 0 _ rfl rfl; exact opr_load (i := iB0) rfl rfl hB0 Tryz.underlying22 rfl size22 (E_length _) (EE_at (k := 0) rfl rfl rfl)
  refine gs_pure rfl rfl (fun M' sB sT => ?_) ?_
  · exact opr_call rfl rfl rfl Tryz.func9 (by kernel_rfl) rfl (of_ct _)
  refine gs_pure rfl rfl (fun M' sB sT => ?_) ?_
  · exact opr_call rfl rfl rfl Tryz.func24 (by kernel_rfl) rfl (sMul_ct hy hy)
  refine gs_alloc rfl rfl (fun M' => opr_alloc rfl zero31 rfl) ?_
  refine gs_alloc rfl rfl (fun M' => opr_alloc rfl zero31 rfl) ?_
  refine gs_storeA rfl rfl rfl rfl rfl (fun M' j hj => opr_store (i := j) rfl rfl rfl rfl hj size31 (N_length _) (by rw [N_length]; decide) (N_flat _) N_over) ?_
  refine gs_storeA rfl rfl rfl rfl rfl (fun M' j hj => opr_store (i := j) rfl rfl rfl rfl hj size31 (N_length _) (by rw [N_length]; decide) (N_flat _) N_over) ?_
  refine gs_nil ?_
  refine (show At _ _ (⟨(γ0 11), 31, N ((y * y % pp))⟩ :: ⟨(γ0 10), 31, N ((x * x % pp))⟩ :: ⟨g1, 22, EE [y]⟩ :: ⟨g0, 22, EE [x]⟩ :: _) _ from ?_)
  refine at_then ?_
  refine at_seq ?_
  refine at_drawQ (by kernel_rfl) (by kernel_rfl) (List.cons_ne_nil _ _) ?_
  refine dr_op rfl rfl (opr_load (i := 1) rfl rfl rfl Tryz.underlying31 rfl size31 (N_length _) (N_at _)) ?_
  refine dr_op rfl rfl (opr_load (i := 0) rfl rfl rfl Tryz.underlying31 rfl size31 (N_length _) (N_at _)) ?_
  refine dr_op rfl rfl (opr_call rfl rfl rfl Tryz.func36 (by kernel_rfl) rfl (sAdd_ct (modp_lt _) (modp_lt _))) ?_
  refine dr_op rfl rfl (opr_call rfl rfl rfl Tryz.func33 (by kernel_rfl) rfl (small_ct (c := 1) (by decide))) ?_
  refine dr_op rfl rfl (opr_load (i := 1) rfl rfl rfl Tryz.underlying31 rfl size31 (N_length _) (N_at _)) ?_
  refine dr_op rfl rfl (opr_load (i := 0) rfl rfl rfl Tryz.underlying31 rfl size31 (N_length _) (N_at _)) ?_
  refine dr_op rfl rfl (opr_call rfl rfl rfl Tryz.func24 (by kernel_rfl) rfl (sMul_ct (modp_lt _) (modp_lt _))) ?_
  refine dr_op rfl rfl (opr_call rfl rfl rfl Tryz.func34 (by kernel_rfl) rfl (curved_ct (modp_lt _))) ?_
  refine dr_op rfl rfl (opr_call rfl rfl rfl Tryz.func36 (by kernel_rfl) rfl (sAdd_ct RR_one (curvN_lt _))) ?_
  refine dr_op rfl rfl (opr_eqlNb (t := onB x y) rfl rfl rfl Tryz.underlying31 Tryz.underlying29 size29 (by kernel_rfl) (modp_lt _) (modp_lt _) rfl) ?_
  refine dr_last rfl rfl (opr_assign rfl rfl) ?_
  refine ⟨rfl, ?_⟩
  refine at_then ?_
  refine at_ret ?_
  refine done_of (res1 Tryz.results22 (res_tmp rfl)) ⟨rfl, rfl⟩ (by repeat (first | exact List.Sublist.refl _ | apply List.Sublist.cons))
theorem sAt_ct {M : Mem} {x y : Nat} : Ct Tryz.prog 18 #[.agg (E x).toArray, .agg (E y).toArray] M (Det (.agg (NN [x, y, 1]).toArray) M) := by
  refine ct_of (vs := [.agg (E x).toArray, .agg (E y).toArray]) Tryz.func18 rfl Tryz.ntmps18 rfl fun w0 => ?_
  refine at_seq ?_
  refine at_region ?_
  refine at_n rfl rfl (opr_box (cs := EE [x]) rfl rfl (E_box _)) ?_
  intro g0
  refine at_n rfl rfl (opr_box (cs := EE [y]) rfl rfl (E_box _)) ?_
  intro g1
  refine at_n rfl rfl (opr_alloc rfl zero33 rfl) ?_
  intro g2
  refine at_nil ?_
  refine at_then ?_
  refine at_seq ?_
  refine at_draw (by kernel_rfl) (by kernel_rfl) (by kernel_rfl) (List.cons_ne_nil _ _) ?_
  refine dr_op rfl rfl (opr_load (i := 2) rfl rfl rfl Tryz.underlying22 rfl size22 (E_length _) (EE_at (k := 0) rfl rfl rfl)) ?_
  refine dr_op rfl rfl (opr_call rfl rfl rfl Tryz.func9 (by kernel_rfl) rfl (of_ct _)) ?_
  refine dr_op rfl rfl (opr_load (i := 1) rfl rfl rfl Tryz.underlying22 rfl size22 (E_length _) (EE_at (k := 0) rfl rfl rfl)) ?_
  refine dr_op rfl rfl (opr_call rfl rfl rfl Tryz.func9 (by kernel_rfl) rfl (of_ct _)) ?_
  refine dr_op rfl rfl (opr_call rfl rfl rfl Tryz.func33 (by kernel_rfl) rfl (small_ct (c := 1) (by decide))) ?_
  refine dr_op rfl rfl (opr_buildE (ds := NN [x, y, 1]) rfl rfl (builtp33 [(0, x), (1, y), (2, 1)] rfl) rfl) ?_
  refine dr_last rfl rfl (opr_store (i := 0) rfl rfl rfl rfl rfl size33 (NN_length _) (by rw [NN_length]; exact Nat.le_of_ble_eq_true rfl) (NN_flat _) (NN_over rfl)) ?_
  refine at_then ?_
  refine at_ret ?_
  refine done_of (res1 Tryz.results18 (res_cell (i := 0) rfl rfl Tryz.underlying33 rfl size33 (NN_length _) (NN_all rfl))) ⟨rfl, rfl⟩ (by repeat (first | exact List.Sublist.refl _ | apply List.Sublist.cons))
theorem at_ct {M : Mem} {x y : Nat} : Ct Tryz.prog 7 #[.agg (EE [x, y]).toArray] M (Det (.agg (NN [x, y, 1]).toArray) M) := by
  refine ct_of (vs := [.agg (EE [x, y]).toArray]) Tryz.func7 rfl Tryz.ntmps7 rfl fun w0 => ?_
  refine at_seq ?_
  refine at_region ?_
  refine at_n rfl rfl (opr_box rfl rfl rfl) ?_
  intro g0
  refine at_n rfl rfl (opr_alloc rfl zero33 rfl) ?_
  intro g1
  refine at_nil ?_
  refine at_then ?_
  refine at_seq ?_
  refine at_region ?_
  refine at_d rfl rfl (opr_fieldAddr rfl rfl Tryz.underlying24 rfl size22 rfl rfl) ?_
  refine at_d rfl rfl (opr_load (i := 1) rfl rfl rfl Tryz.underlying22 rfl size22 (E_length _) (EE_at (k := 0) rfl rfl rfl)) ?_
  refine at_d rfl rfl (opr_fieldAddr rfl rfl Tryz.underlying24 rfl size22 rfl rfl) ?_
  refine at_d rfl rfl (opr_load (i := 1) rfl rfl rfl Tryz.underlying22 rfl size22 (E_length _) (EE_at (k := 1) rfl rfl rfl)) ?_
  refine at_d rfl rfl (opr_call rfl rfl rfl Tryz.func18 (by kernel_rfl) rfl (sAt_ct)) ?_
  refine at_d rfl rfl (opr_store (i := 0) rfl rfl rfl rfl rfl size33 (NN_length _) (by rw [NN_length]; exact Nat.le_of_ble_eq_true rfl) (NN_flat _) (NN_over rfl)) ?_
  refine at_nil ?_
  refine at_then ?_
  refine at_ret ?_
  refine done_of (res1 Tryz.results7 (res_cell (i := 0) rfl rfl Tryz.underlying33 rfl size33 (NN_length _) (NN_all rfl))) ⟨rfl, rfl⟩ (by repeat (first | exact List.Sublist.refl _ | apply List.Sublist.cons))
theorem sZero_ct {M : Mem} : Ct Tryz.prog 19 #[] M (Det (.agg (NN [0, 1, 1]).toArray) M) := by
  refine ct_of (vs := []) Tryz.func19 rfl Tryz.ntmps19 rfl fun w0 => ?_
  refine at_seq ?_
  refine at_region ?_
  refine at_n rfl rfl (opr_alloc rfl zero33 rfl) ?_
  intro g0
  refine at_nil ?_
  refine at_then ?_
  refine at_seq ?_
  refine at_region ?_
  refine at_d rfl rfl (opr_buildE (ds := N 0) rfl rfl builtn31 rfl) ?_
  refine at_d rfl rfl (opr_call rfl rfl rfl Tryz.func33 (by kernel_rfl) rfl (small_ct (c := 1) (by decide))) ?_
  refine at_d rfl rfl (opr_call rfl rfl rfl Tryz.func33 (by kernel_rfl) rfl (small_ct (c := 1) (by decide))) ?_
  refine at_d rfl rfl (opr_buildE (ds := NN [0, 1, 1]) rfl rfl (builtp33 [(0, 0), (1, 1), (2, 1)] rfl) rfl) ?_
  refine at_d rfl rfl (opr_store (i := 0) rfl rfl rfl rfl rfl size33 (NN_length _) (by rw [NN_length]; exact Nat.le_of_ble_eq_true rfl) (NN_flat _) (NN_over rfl)) ?_
  refine at_nil ?_
  refine at_then ?_
  refine at_ret ?_
  refine done_of (res1 Tryz.results19 (res_cell (i := 0) rfl rfl Tryz.underlying33 rfl size33 (NN_length _) (NN_all rfl))) ⟨rfl, rfl⟩ (by repeat (first | exact List.Sublist.refl _ | apply List.Sublist.cons))
theorem sIsTT_ct {M : Mem} {X Y Z x y : Nat} (hX : X < RR) (hY : Y < RR) (hZ : Z < RR) (hx : x < RR) (hy : y < RR) (h1 : x * Z % pp = X % pp) (h2 : y * Z % pp = Y % pp) : Ct Tryz.prog 12 #[.agg (NN [X, Y, Z]).toArray, .agg (E x).toArray, .agg (E y).toArray] M (Det (.bool true) M) := by
  refine ct_of (vs := [.agg (NN [X, Y, Z]).toArray, .agg (E x).toArray, .agg (E y).toArray]) Tryz.func12 rfl Tryz.ntmps12 rfl fun w0 => ?_
  refine at_seq ?_
  refine at_region ?_
  refine at_n rfl rfl (opr_box rfl rfl rfl) ?_
  intro g0
  refine at_n rfl rfl (opr_box (cs := EE [x]) rfl rfl (E_box _)) ?_
  intro g1
  refine at_n rfl rfl (opr_box (cs := EE [y]) rfl rfl (E_box _)) ?_
  intro g2
  refine at_d rfl rfl (opr_assign rfl rfl) ?_
  refine at_nil ?_
  refine at_then ?_
  refine at_seq ?_
  refine at_drawQ (by kernel_rfl) (by kernel_rfl) (List.cons_ne_nil _ _) ?_
  refine dr_op rfl rfl (opr_load (i := 1) rfl rfl rfl Tryz.underlying22 rfl size22 (E_length _) (EE_at (k := 0) rfl rfl rfl)) ?_
  refine dr_op rfl rfl (opr_call rfl rfl rfl Tryz.func9 (by kernel_rfl) rfl (of_ct _)) ?_
  refine dr_op rfl rfl (opr_fieldAddr rfl rfl Tryz.underlying33 rfl size31 rfl rfl) ?_
  refine dr_op rfl rfl (opr_load (i := 2) rfl rfl rfl Tryz.underlying31 rfl size31 (N_length _) (NN_at (k := 2) rfl rfl rfl)) ?_
  refine dr_op rfl rfl (opr_call rfl rfl rfl Tryz.func24 (by kernel_rfl) rfl (sMul_ct hx hZ)) ?_
  refine dr_op rfl rfl (opr_fieldAddr rfl rfl Tryz.underlying33 rfl size31 rfl rfl) ?_
  refine dr_op rfl rfl (opr_load (i := 2) rfl rfl rfl Tryz.underlying31 rfl size31 (N_length _) (NN_at (k := 0) rfl rfl rfl)) ?_
  refine dr_op rfl rfl (opr_call rfl rfl rfl Tryz.func25 (by kernel_rfl) rfl (mod_ct hX)) ?_
  refine dr_op rfl rfl (opr_eqlNb (t := true) rfl rfl rfl Tryz.underlying31 Tryz.underlying29 size29 (by kernel_rfl) (modp_lt _) (modp_lt _) (decide_eq_true h1)) ?_
  refine dr_op rfl rfl (opr_move rfl rfl) ?_
  refine dr_op rfl rfl (opr_load (i := 0) rfl rfl rfl Tryz.underlying22 rfl size22 (E_length _) (EE_at (k := 0) rfl rfl rfl)) ?_
  refine dr_op rfl rfl (opr_call rfl rfl rfl Tryz.func9 (by kernel_rfl) rfl (of_ct _)) ?_
  refine dr_op rfl rfl (opr_fieldAddr rfl rfl Tryz.underlying33 rfl size31 rfl rfl) ?_
  refine dr_op rfl rfl (opr_load (i := 2) rfl rfl rfl Tryz.underlying31 rfl size31 (N_length _) (NN_at (k := 2) rfl rfl rfl)) ?_
  refine dr_op rfl rfl (opr_call rfl rfl rfl Tryz.func24 (by kernel_rfl) rfl (sMul_ct hy hZ)) ?_
  refine dr_op rfl rfl (opr_fieldAddr rfl rfl Tryz.underlying33 rfl size31 rfl rfl) ?_
  refine dr_op rfl rfl (opr_load (i := 2) rfl rfl rfl Tryz.underlying31 rfl size31 (N_length _) (NN_at (k := 1) rfl rfl rfl)) ?_
  refine dr_op rfl rfl (opr_call rfl rfl rfl Tryz.func25 (by kernel_rfl) rfl (mod_ct hY)) ?_
  refine dr_op rfl rfl (opr_eqlNb (t := true) rfl rfl rfl Tryz.underlying31 Tryz.underlying29 size29 (by kernel_rfl) (modp_lt _) (modp_lt _) (decide_eq_true h2)) ?_
  refine dr_op rfl rfl (opr_pickT rfl rfl rfl) ?_
  refine dr_last rfl rfl (opr_assign rfl rfl) ?_
  refine ⟨rfl, ?_⟩
  refine at_then ?_
  refine at_ret ?_
  refine done_of (res1 Tryz.results12 (res_tmp rfl)) ⟨rfl, rfl⟩ (by repeat (first | exact List.Sublist.refl _ | apply List.Sublist.cons))
theorem sIsTF_ct {M : Mem} {X Y Z x y : Nat} (hX : X < RR) (hY : Y < RR) (hZ : Z < RR) (hx : x < RR) (hy : y < RR) (h1 : x * Z % pp = X % pp) (h2 : ¬ y * Z % pp = Y % pp) : Ct Tryz.prog 12 #[.agg (NN [X, Y, Z]).toArray, .agg (E x).toArray, .agg (E y).toArray] M (Det (.bool false) M) := by
  refine ct_of (vs := [.agg (NN [X, Y, Z]).toArray, .agg (E x).toArray, .agg (E y).toArray]) Tryz.func12 rfl Tryz.ntmps12 rfl fun w0 => ?_
  refine at_seq ?_
  refine at_region ?_
  refine at_n rfl rfl (opr_box rfl rfl rfl) ?_
  intro g0
  refine at_n rfl rfl (opr_box (cs := EE [x]) rfl rfl (E_box _)) ?_
  intro g1
  refine at_n rfl rfl (opr_box (cs := EE [y]) rfl rfl (E_box _)) ?_
  intro g2
  refine at_d rfl rfl (opr_assign rfl rfl) ?_
  refine at_nil ?_
  refine at_then ?_
  refine at_seq ?_
  refine at_drawQ (by kernel_rfl) (by kernel_rfl) (List.cons_ne_nil _ _) ?_
  refine dr_op rfl rfl (opr_load (i := 1) rfl rfl rfl Tryz.underlying22 rfl size22 (E_length _) (EE_at (k := 0) rfl rfl rfl)) ?_
  refine dr_op rfl rfl (opr_call rfl rfl rfl Tryz.func9 (by kernel_rfl) rfl (of_ct _)) ?_
  refine dr_op rfl rfl (opr_fieldAddr rfl rfl Tryz.underlying33 rfl size31 rfl rfl) ?_
  refine dr_op rfl rfl (opr_load (i := 2) rfl rfl rfl Tryz.underlying31 rfl size31 (N_length _) (NN_at (k := 2) rfl rfl rfl)) ?_
  refine dr_op rfl rfl (opr_call rfl rfl rfl Tryz.func24 (by kernel_rfl) rfl (sMul_ct hx hZ)) ?_
  refine dr_op rfl rfl (opr_fieldAddr rfl rfl Tryz.underlying33 rfl size31 rfl rfl) ?_
  refine dr_op rfl rfl (opr_load (i := 2) rfl rfl rfl Tryz.underlying31 rfl size31 (N_length _) (NN_at (k := 0) rfl rfl rfl)) ?_
  refine dr_op rfl rfl (opr_call rfl rfl rfl Tryz.func25 (by kernel_rfl) rfl (mod_ct hX)) ?_
  refine dr_op rfl rfl (opr_eqlNb (t := true) rfl rfl rfl Tryz.underlying31 Tryz.underlying29 size29 (by kernel_rfl) (modp_lt _) (modp_lt _) (decide_eq_true h1)) ?_
  refine dr_op rfl rfl (opr_move rfl rfl) ?_
  refine dr_op rfl rfl (opr_load (i := 0) rfl rfl rfl Tryz.underlying22 rfl size22 (E_length _) (EE_at (k := 0) rfl rfl rfl)) ?_
  refine dr_op rfl rfl (opr_call rfl rfl rfl Tryz.func9 (by kernel_rfl) rfl (of_ct _)) ?_
  refine dr_op rfl rfl (opr_fieldAddr rfl rfl Tryz.underlying33 rfl size31 rfl rfl) ?_
  refine dr_op rfl rfl (opr_load (i := 2) rfl rfl rfl Tryz.underlying31 rfl size31 (N_length _) (NN_at (k := 2) rfl rfl rfl)) ?_
  refine dr_op rfl rfl (opr_call rfl rfl rfl Tryz.func24 (by kernel_rfl) rfl (sMul_ct hy hZ)) ?_
  refine dr_op rfl rfl (opr_fieldAddr rfl rfl Tryz.underlying33 rfl size31 rfl rfl) ?_
  refine dr_op rfl rfl (opr_load (i := 2) rfl rfl rfl Tryz.underlying31 rfl size31 (N_length _) (NN_at (k := 1) rfl rfl rfl)) ?_
  refine dr_op rfl rfl (opr_call rfl rfl rfl Tryz.func25 (by kernel_rfl) rfl (mod_ct hY)) ?_
  refine dr_op rfl rfl (opr_eqlNb (t := false) rfl rfl rfl Tryz.underlying31 Tryz.underlying29 size29 (by kernel_rfl) (modp_lt _) (modp_lt _) (decide_eq_false h2)) ?_
  refine dr_op rfl rfl (opr_pickT rfl rfl rfl) ?_
  refine dr_last rfl rfl (opr_assign rfl rfl) ?_
  refine ⟨rfl, ?_⟩
  refine at_then ?_
  refine at_ret ?_
  refine done_of (res1 Tryz.results12 (res_tmp rfl)) ⟨rfl, rfl⟩ (by repeat (first | exact List.Sublist.refl _ | apply List.Sublist.cons))
theorem sIsF_ct {M : Mem} {X Y Z x y : Nat} (hX : X < RR) (hY : Y < RR) (hZ : Z < RR) (hx : x < RR) (hy : y < RR) (h1 : ¬ x * Z % pp = X % pp) : Ct Tryz.prog 12 #[.agg (NN [X, Y, Z]).toArray, .agg (E x).toArray, .agg (E y).toArray] M (Det (.bool false) M) := by
  refine ct_of (vs := [.agg (NN [X, Y, Z]).toArray, .agg (E x).toArray, .agg (E y).toArray]) Tryz.func12 rfl Tryz.ntmps12 rfl fun w0 => ?_
  refine at_seq ?_
  refine at_region ?_
  refine at_n rfl rfl (opr_box rfl rfl rfl) ?_
  intro g0
  refine at_n rfl rfl (opr_box (cs := EE [x]) rfl rfl (E_box _)) ?_
  intro g1
  refine at_n rfl rfl (opr_box (cs := EE [y]) rfl rfl (E_box _)) ?_
  intro g2
  refine at_d rfl rfl (opr_assign rfl rfl) ?_
  refine at_nil ?_
  refine at_then ?_
  refine at_seq ?_
  refine at_drawQ (by kernel_rfl) (by kernel_rfl) (List.cons_ne_nil _ _) ?_
  refine dr_op rfl rfl (opr_load (i := 1) rfl rfl rfl Tryz.underlying22 rfl size22 (E_length _) (EE_at (k := 0) rfl rfl rfl)) ?_
  refine dr_op rfl rfl (opr_call rfl rfl rfl Tryz.func9 (by kernel_rfl) rfl (of_ct _)) ?_
  refine dr_op rfl rfl (opr_fieldAddr rfl rfl Tryz.underlying33 rfl size31 rfl rfl) ?_
  refine dr_op rfl rfl (opr_load (i := 2) rfl rfl rfl Tryz.underlying31 rfl size31 (N_length _) (NN_at (k := 2) rfl rfl rfl)) ?_
  refine dr_op rfl rfl (opr_call rfl rfl rfl Tryz.func24 (by kernel_rfl) rfl (sMul_ct hx hZ)) ?_
  refine dr_op rfl rfl (opr_fieldAddr rfl rfl Tryz.underlying33 rfl size31 rfl rfl) ?_
  refine dr_op rfl rfl (opr_load (i := 2) rfl rfl rfl Tryz.underlying31 rfl size31 (N_length _) (NN_at (k := 0) rfl rfl rfl)) ?_
  refine dr_op rfl rfl (opr_call rfl rfl rfl Tryz.func25 (by kernel_rfl) rfl (mod_ct hX)) ?_
  refine dr_op rfl rfl (opr_eqlNb (t := false) rfl rfl rfl Tryz.underlying31 Tryz.underlying29 size29 (by kernel_rfl) (modp_lt _) (modp_lt _) (decide_eq_false h1)) ?_
  refine dr_op rfl rfl (opr_move rfl rfl) ?_
  refine dr_skip rfl rfl ?_
  refine dr_skip rfl rfl ?_
  refine dr_skip rfl rfl ?_
  refine dr_skip rfl rfl ?_
  refine dr_skip rfl rfl ?_
  refine dr_skip rfl rfl ?_
  refine dr_skip rfl rfl ?_
  refine dr_skip rfl rfl ?_
  refine dr_skip rfl rfl ?_
  refine dr_op rfl rfl (opr_pickN rfl rfl rfl) ?_
  refine dr_last rfl rfl (opr_assign rfl rfl) ?_
  refine ⟨rfl, ?_⟩
  refine at_then ?_
  refine at_ret ?_
  refine done_of (res1 Tryz.results12 (res_tmp rfl)) ⟨rfl, rfl⟩ (by repeat (first | exact List.Sublist.refl _ | apply List.Sublist.cons))
theorem sIs_ct {M : Mem} {X Y Z x y : Nat} (hX : X < RR) (hY : Y < RR) (hZ : Z < RR) (hx : x < RR) (hy : y < RR) : Ct Tryz.prog 12 #[.agg (NN [X, Y, Z]).toArray, .agg (E x).toArray, .agg (E y).toArray] M (Det (.bool (isB X Y Z x y)) M) := by
  unfold isB
  by_cases h1 : x * Z % pp = X % pp
  · by_cases h2 : y * Z % pp = Y % pp
    · rw [decide_eq_true h1, decide_eq_true h2]; exact sIsTT_ct hX hY hZ hx hy h1 h2
    · rw [decide_eq_true h1, decide_eq_false h2]; exact sIsTF_ct hX hY hZ hx hy h1 h2
  · rw [decide_eq_false h1]; exact sIsF_ct hX hY hZ hx hy h1
theorem sPlus_ct {M : Mem} {x1 y1 z1 x2 y2 z2 : Nat} (hx1 : x1 < RR) (hy1 : y1 < RR) (hz1 : z1 < RR) (hx2 : x2 < RR) (hy2 : y2 < RR) (hz2 : z2 < RR) : Ct Tryz.prog 20 #[.agg (NN [x1, y1, z1]).toArray, .agg (NN [x2, y2, z2]).toArray] M (Det (.agg (NN [plX x1 y1 z1 x2 y2 z2, plY x1 y1 z1 x2 y2 z2, plZ x1 y1 z1 x2 y2 z2]).toArray) M) := by
  refine ct_of (vs := [.agg (NN [x1, y1, z1]).toArray, .agg (NN [x2, y2, z2]).toArray]) Tryz.func20 rfl Tryz.ntmps20 rfl fun w0 => ?_
  refine at_seq ?_
  refine at_region ?_
  refine at_n rfl rfl (opr_box rfl rfl rfl) ?_
  intro g0
  refine at_n rfl rfl (opr_box rfl rfl rfl) ?_
  intro g1
  refine at_n rfl rfl (opr_alloc rfl zero33 rfl) ?_
  intro g2
  refine at_nil ?_
  refine at_then ?_
  refine at_seq ?_
  refine at_region ?_
  refine at_d rfl rfl (opr_fieldAddr rfl rfl Tryz.underlying33 rfl size31 rfl rfl) ?_
  refine at_d rfl rfl (opr_load (i := 2) rfl rfl rfl Tryz.underlying31 rfl size31 (N_length _) (NN_at (k := 2) rfl rfl rfl)) ?_
  refine at_d rfl rfl (opr_fieldAddr rfl rfl Tryz.underlying33 rfl size31 rfl rfl) ?_
  refine at_d rfl rfl (opr_load (i := 1) rfl rfl rfl Tryz.underlying31 rfl size31 (N_length _) (NN_at (k := 2) rfl rfl rfl)) ?_
  refine at_d rfl rfl (opr_call rfl rfl rfl Tryz.func24 (by kernel_rfl) rfl (sMul_ct hz1 hz2)) ?_
  refine at_n rfl rfl (opr_alloc rfl zero31 rfl) ?_
  intro g3
  refine at_d rfl rfl (opr_store (i := 0) rfl rfl rfl rfl rfl size31 (N_length _) (by rw [N_length]; decide) (N_flat _) N_over) ?_
  refine at_nil ?_
  refine (show At _ _ (⟨g3, 31, N ((plA z1 z2))⟩ :: ⟨g2, 33, NN [0, 0, 0]⟩ :: ⟨g1, 33, NN [x2, y2, z2]⟩ :: ⟨g0, 33, NN [x1, y1, z1]⟩ :: _) _ from ?_)
  refine at_then ?_
  refine at_seq ?_
  refine at_region ?_
  refine at_d rfl rfl (opr_load (i := 0) rfl rfl rfl Tryz.underlying31 rfl size31 (N_length _) (N_at _)) ?_
  refine at_d rfl rfl (opr_load (i := 0) rfl rfl rfl Tryz.underlying31 rfl size31 (N_length _) (N_at _)) ?_
  refine at_d rfl rfl (opr_call rfl rfl rfl Tryz.func24 (by kernel_rfl) rfl (sMul_ct (plA_lt _ _) (plA_lt _ _))) ?_
  refine at_n rfl rfl (opr_alloc rfl zero31 rfl) ?_
  intro g4
  refine at_d rfl rfl (opr_store (i := 0) rfl rfl rfl rfl rfl size31 (N_length _) (by rw [N_length]; decide) (N_flat _) N_over) ?_
  refine at_nil ?_
  refine at_then ?_
  refine at_seq ?_
  refine at_drawG (B := [⟨g4, 31, N (((plA z1 z2) * (plA z1 z2) % pp))⟩, ⟨g3, 31, N ((plA z1 z2))⟩, ⟨g2, 33, NN [0, 0, 0]⟩, ⟨g1, 33, NN [x2, y2, z2]⟩, ⟨g0, 33, NN [x1, y1, z1]⟩]) (E := [⟨.pure [], 0, [], .v (.pointer (some ⟨g0, 0, none⟩))⟩, ⟨.pure [4], 0, [], .v (.agg (N (x1)).toArray)⟩, ⟨.pure [], 0, [], .v (.pointer (some ⟨g1, 0, none⟩))⟩, ⟨.pure [3], 0, [], .v (.agg (N (x2)).toArray)⟩, ⟨.pure [], 0, [], .v (.agg (N ((x1 * x2 % pp))).toArray)⟩, ⟨.pure [], 0, [], .v (.pointer (some ⟨g0, 28, none⟩))⟩, ⟨.pure [4], 0, [], .v (.agg (N (y1)).toArray)⟩, ⟨.pure [], 0, [], .v (.pointer (some ⟨g1, 28, none⟩))⟩, ⟨.pure [3], 0, [], .v (.agg (N (y2)).toArray)⟩, ⟨.pure [], 0, [], .v (.agg (N ((y1 * y2 % pp))).toArray)⟩, ⟨.alloc, 31, N (0), .p 10 0⟩, ⟨.alloc, 31, N (0), .p 11 0⟩, ⟨.storeA 10, 0, N ((x1 * x2 % pp)), .v undef⟩, ⟨.storeA 11, 0, N ((y1 * y2 % pp)), .v undef⟩]) (by kernel_rfl) (by kernel_rfl) (by kernel_rfl) (fun γ0 => ?_)
  refine gs_pure rfl rfl (fun M' sB sT => ?_) ?_
  · exact opr_fieldAddr rfl rfl Tryz.underlying33 rfl size31 rfl rfl
  refine gs_pure rfl rfl (fun M' sB sT => ?_) ?_
  · obtain ⟨iB4, hB4⟩ := sB 4 _ rfl rfl; exact opr_load (i := iB4) rfl rfl hB4 Tryz.underlying31 rfl size31 (N_length _) (NN_at (k := 0) rfl rfl rfl)
  refine gs_pure rfl rfl (fun M' sB sT => ?_) ?_
  · exact opr_fieldAddr rfl rfl Tryz.underlying33 rfl size31 rfl rfl
  refine gs_pure rfl rfl (fun M' sB sT => ?_) ?_
  · obtain ⟨iB3, hB3⟩ := sB 3 _ rfl rfl; exact opr_load (i := iB3) rfl rfl hB3 Tryz.underlying31 rfl size31 (N_length _) (NN_at (k := 0) rfl rfl rfl)
  refine gs_pure rfl rfl (fun M' sB sT => ?_) ?_
  · exact opr_call rfl rfl rfl Tryz.func24 (by kernel_rfl) rfl (sMul_ct hx1 hx2)
  refine gs_pure rfl rfl (fun M' sB sT => ?_) ?_
  · exact opr_fieldAddr rfl rfl Tryz.underlying33 rfl size31 rfl rfl
  refine gs_pure rfl rfl (fun M' sB sT => ?_) ?_
  · obtain ⟨iB4, hB4⟩ := sB 4 _ rfl rfl; exact opr_load (i := iB4) rfl rfl hB4 Tryz.underlying31 rfl size31 (N_length _) (NN_at (k := 1) rfl rfl rfl)
  refine gs_pure rfl rfl (fun M' sB sT => ?_) ?_
  · exact opr_fieldAddr rfl rfl Tryz.underlying33 rfl size31 rfl rfl
  refine gs_pure rfl rfl (fun M' sB sT => ?_) ?_
  · obtain ⟨iB3, hB3⟩ := sB 3 _ rfl rfl; exact opr_load (i := iB3) rfl rfl hB3 Tryz.underlying31 rfl size31 (N_length _) (NN_at (k := 1) rfl rfl rfl)
  refine gs_pure rfl rfl (fun M' sB sT => ?_) ?_
  · exact opr_call rfl rfl rfl Tryz.func24 (by kernel_rfl) rfl (sMul_ct hy1 hy2)
  refine gs_alloc rfl rfl (fun M' => opr_alloc rfl zero31 rfl) ?_
  refine gs_alloc rfl rfl (fun M' => opr_alloc rfl zero31 rfl) ?_
  refine gs_storeA rfl rfl rfl rfl rfl (fun M' j hj => opr_store (i := j) rfl rfl rfl rfl hj size31 (N_length _) (by rw [N_length]; decide) (N_flat _) N_over) ?_
  refine gs_storeA rfl rfl rfl rfl rfl (fun M' j hj => opr_store (i := j) rfl rfl rfl rfl hj size31 (N_length _) (by rw [N_length]; decide) (N_flat _) N_over) ?_
  refine gs_nil ?_
  refine (show At _ _ (⟨(γ0 11), 31, N ((y1 * y2 % pp))⟩ :: ⟨(γ0 10), 31, N ((x1 * x2 % pp))⟩ :: ⟨g4, 31, N (((plA z1 z2) * (plA z1 z2) % pp))⟩ :: ⟨g3, 31, N ((plA z1 z2))⟩ :: ⟨g2, 33, NN [0, 0, 0]⟩ :: ⟨g1, 33, NN [x2, y2, z2]⟩ :: ⟨g0, 33, NN [x1, y1, z1]⟩ :: _) _ from ?_)
  refine at_then ?_
  refine at_seq ?_
  refine at_region ?_
  refine at_d rfl rfl (opr_load (i := 1) rfl rfl rfl Tryz.underlying31 rfl size31 (N_length _) (N_at _)) ?_
  refine at_d rfl rfl (opr_load (i := 0) rfl rfl rfl Tryz.underlying31 rfl size31 (N_length _) (N_at _)) ?_
  refine at_d rfl rfl (opr_call rfl rfl rfl Tryz.func24 (by kernel_rfl) rfl (sMul_ct (modp_lt _) (modp_lt _))) ?_
  refine at_d rfl rfl (opr_call rfl rfl rfl Tryz.func34 (by kernel_rfl) rfl (curved_ct (modp_lt _))) ?_
  refine at_n rfl rfl (opr_alloc rfl zero31 rfl) ?_
  intro g5
  refine at_d rfl rfl (opr_store (i := 0) rfl rfl rfl rfl rfl size31 (N_length _) (by rw [N_length]; decide) (N_flat _) N_over) ?_
  refine at_nil ?_
  refine (show At _ _ (⟨g5, 31, N ((plE x1 y1 x2 y2))⟩ :: ⟨(γ0 11), 31, N ((y1 * y2 % pp))⟩ :: ⟨(γ0 10), 31, N ((x1 * x2 % pp))⟩ :: ⟨g4, 31, N (((plA z1 z2) * (plA z1 z2) % pp))⟩ :: ⟨g3, 31, N ((plA z1 z2))⟩ :: ⟨g2, 33, NN [0, 0, 0]⟩ :: ⟨g1, 33, NN [x2, y2, z2]⟩ :: ⟨g0, 33, NN [x1, y1, z1]⟩ :: _) _ from ?_)
  refine at_then ?_
  refine at_seq ?_
  refine at_drawG (B := [⟨g5, 31, N ((plE x1 y1 x2 y2))⟩, ⟨(γ0 11), 31, N ((y1 * y2 % pp))⟩, ⟨(γ0 10), 31, N ((x1 * x2 % pp))⟩, ⟨g4, 31, N (((plA z1 z2) * (plA z1 z2) % pp))⟩, ⟨g3, 31, N ((plA z1 z2))⟩, ⟨g2, 33, NN [0, 0, 0]⟩, ⟨g1, 33, NN [x2, y2, z2]⟩, ⟨g0, 33, NN [x1, y1, z1]⟩]) (E := [⟨.pure [3], 0, [], .v (.agg (N (((plA z1 z2) * (plA z1 z2) % pp))).toArray)⟩, ⟨.pure [0], 0, [], .v (.agg (N ((plE x1 y1 x2 y2))).toArray)⟩, ⟨.pure [], 0, [], .v (.agg (N (((((plA z1 z2) * (plA z1 z2) % pp) + negp (plE x1 y1 x2 y2)) % pp))).toArray)⟩, ⟨.pure [3], 0, [], .v (.agg (N (((plA z1 z2) * (plA z1 z2) % pp))).toArray)⟩, ⟨.pure [0], 0, [], .v (.agg (N ((plE x1 y1 x2 y2))).toArray)⟩, ⟨.pure [], 0, [], .v (.agg (N (((((plA z1 z2) * (plA z1 z2) % pp) + (plE x1 y1 x2 y2)) % pp))).toArray)⟩, ⟨.alloc, 31, N (0), .p 6 0⟩, ⟨.alloc, 31, N (0), .p 7 0⟩, ⟨.storeA 6, 0, N (((((plA z1 z2) * (plA z1 z2) % pp) + negp (plE x1 y1 x2 y2)) % pp)), .v undef⟩, ⟨.storeA 7, 0, N (((((plA z1 z2) * (plA z1 z2) % pp) + (plE x1 y1 x2 y2)) % pp)), .v undef⟩]) (by kernel_rfl) (by kernel_rfl) (by kernel_rfl) (fun γ1 => ?_)
  refine gs_pure rfl rfl (fun M' sB sT => ?_) ?_
  · obtain ⟨iB3, hB3⟩ := sB 3 _ rfl rfl; exact opr_load (i := iB3) rfl rfl hB3 Tryz.underlying31 rfl size31 (N_length _) (N_at _)
  refine gs_pure rfl rfl (fun M' sB sT => ?_) ?_
  · obtain ⟨iB0, hB0⟩ := sB 0 _ rfl rfl; exact opr_load (i := iB0) rfl rfl hB0 Tryz.underlying31 rfl size31 (N_length _) (N_at _)
  refine gs_pure rfl rfl (fun M' sB sT => ?_) ?_
  · exact opr_call rfl rfl rfl Tryz.func35 (by kernel_rfl) rfl (sSub_ct (modp_lt _) (plE_lt _ _ _ _))
  refine gs_pure rfl rfl (fun M' sB sT => ?_) ?_
  · obtain ⟨iB3, hB3⟩ := sB 3 _ rfl rfl; exact opr_load (i := iB3) rfl rfl hB3 Tryz.underlying31 rfl size31 (N_length _) (N_at _)
  refine gs_pure rfl rfl (fun M' sB sT => ?_) ?_
  · obtain ⟨iB0, hB0⟩ := sB 0 _ rfl rfl; exact opr_load (i := iB0) rfl rfl hB0 Tryz.underlying31 rfl size31 (N_length _) (N_at _)
  refine gs_pure rfl rfl (fun M' sB sT => ?_) ?_
  · exact opr_call rfl rfl rfl Tryz.func36 (by kernel_rfl) rfl (sAdd_ct (modp_lt _) (plE_lt _ _ _ _))
  refine gs_alloc rfl rfl (fun M' => opr_alloc rfl zero31 rfl) ?_
  refine gs_alloc rfl rfl (fun M' => opr_alloc rfl zero31 rfl) ?_
  refine gs_storeA rfl rfl rfl rfl rfl (fun M' j hj => opr_store (i := j) rfl rfl rfl rfl hj size31 (N_length _) (by rw [N_length]; decide) (N_flat _) N_over) ?_
  refine gs_storeA rfl rfl rfl rfl rfl (fun M' j hj => opr_store (i := j) rfl rfl rfl rfl hj size31 (N_length _) (by rw [N_length]; decide) (N_flat _) N_over) ?_
  refine gs_nil ?_
  refine (show At _ _ (⟨(γ1 7), 31, N (((((plA z1 z2) * (plA z1 z2) % pp) + (plE x1 y1 x2 y2)) % pp))⟩ :: ⟨(γ1 6), 31, N (((((plA z1 z2) * (plA z1 z2) % pp) + negp (plE x1 y1 x2 y2)) % pp))⟩ :: ⟨g5, 31, N ((plE x1 y1 x2 y2))⟩ :: ⟨(γ0 11), 31, N ((y1 * y2 % pp))⟩ :: ⟨(γ0 10), 31, N ((x1 * x2 % pp))⟩ :: ⟨g4, 31, N (((plA z1 z2) * (plA z1 z2) % pp))⟩ :: ⟨g3, 31, N ((plA z1 z2))⟩ :: ⟨g2, 33, NN [0, 0, 0]⟩ :: ⟨g1, 33, NN [x2, y2, z2]⟩ :: ⟨g0, 33, NN [x1, y1, z1]⟩ :: _) _ from ?_)
  refine (show At _ _ (⟨(γ1 7), 31, N (((((plA z1 z2) * (plA z1 z2) % pp) + (plE x1 y1 x2 y2)) % pp))⟩ :: ⟨(γ1 6), 31, N ((plF x1 y1 z1 x2 y2 z2))⟩ :: ⟨g5, 31, N ((plE x1 y1 x2 y2))⟩ :: ⟨(γ0 11), 31, N ((y1 * y2 % pp))⟩ :: ⟨(γ0 10), 31, N ((x1 * x2 % pp))⟩ :: ⟨g4, 31, N (((plA z1 z2) * (plA z1 z2) % pp))⟩ :: ⟨g3, 31, N ((plA z1 z2))⟩ :: ⟨g2, 33, NN [0, 0, 0]⟩ :: ⟨g1, 33, NN [x2, y2, z2]⟩ :: ⟨g0, 33, NN [x1, y1, z1]⟩ :: _) _ from ?_)
  refine (show At _ _ (⟨(γ1 7), 31, N ((plG x1 y1 z1 x2 y2 z2))⟩ :: ⟨(γ1 6), 31, N ((plF x1 y1 z1 x2 y2 z2))⟩ :: ⟨g5, 31, N ((plE x1 y1 x2 y2))⟩ :: ⟨(γ0 11), 31, N ((y1 * y2 % pp))⟩ :: ⟨(γ0 10), 31, N ((x1 * x2 % pp))⟩ :: ⟨g4, 31, N (((plA z1 z2) * (plA z1 z2) % pp))⟩ :: ⟨g3, 31, N ((plA z1 z2))⟩ :: ⟨g2, 33, NN [0, 0, 0]⟩ :: ⟨g1, 33, NN [x2, y2, z2]⟩ :: ⟨g0, 33, NN [x1, y1, z1]⟩ :: _) _ from ?_)
  refine at_then ?_
  refine at_seq ?_
  refine at_drawG (B := [⟨(γ1 7), 31, N ((plG x1 y1 z1 x2 y2 z2))⟩, ⟨(γ1 6), 31, N ((plF x1 y1 z1 x2 y2 z2))⟩, ⟨g5, 31, N ((plE x1 y1 x2 y2))⟩, ⟨(γ0 11), 31, N ((y1 * y2 % pp))⟩, ⟨(γ0 10), 31, N ((x1 * x2 % pp))⟩, ⟨g4, 31, N (((plA z1 z2) * (plA z1 z2) % pp))⟩, ⟨g3, 31, N ((plA z1 z2))⟩, ⟨g2, 33, NN [0, 0, 0]⟩, ⟨g1, 33, NN [x2, y2, z2]⟩, ⟨g0, 33, NN [x1, y1, z1]⟩]) (E := [⟨.pure [], 0, [], .v (.pointer (some ⟨g0, 0, none⟩))⟩, ⟨.pure [9], 0, [], .v (.agg (N (x1)).toArray)⟩, ⟨.pure [], 0, [], .v (.pointer (some ⟨g0, 28, none⟩))⟩, ⟨.pure [9], 0, [], .v (.agg (N (y1)).toArray)⟩, ⟨.pure [], 0, [], .v (.agg (N (((x1 + y1) % pp))).toArray)⟩, ⟨.pure [], 0, [], .v (.pointer (some ⟨g1, 0, none⟩))⟩, ⟨.pure [8], 0, [], .v (.agg (N (x2)).toArray)⟩, ⟨.pure [], 0, [], .v (.pointer (some ⟨g1, 28, none⟩))⟩, ⟨.pure [8], 0, [], .v (.agg (N (y2)).toArray)⟩, ⟨.pure [], 0, [], .v (.agg (N (((x2 + y2) % pp))).toArray)⟩, ⟨.pure [], 0, [], .v (.agg (N ((((x1 + y1) % pp) * ((x2 + y2) % pp) % pp))).toArray)⟩, ⟨.pure [4], 0, [], .v (.agg (N ((x1 * x2 % pp))).toArray)⟩, ⟨.pure [], 0, [], .v (.agg (N ((((((x1 + y1) % pp) * ((x2 + y2) % pp) % pp) + negp (x1 * x2 % pp)) % pp))).toArray)⟩, ⟨.pure [3], 0, [], .v (.agg (N ((y1 * y2 % pp))).toArray)⟩, ⟨.pure [], 0, [], .v (.agg (N ((((((((x1 + y1) % pp) * ((x2 + y2) % pp) % pp) + negp (x1 * x2 % pp)) % pp) + negp (y1 * y2 % pp)) % pp))).toArray)⟩, ⟨.alloc, 31, N (0), .p 15 0⟩, ⟨.storeA 15, 0, N ((((((((x1 + y1) % pp) * ((x2 + y2) % pp) % pp) + negp (x1 * x2 % pp)) % pp) + negp (y1 * y2 % pp)) % pp)), .v undef⟩]) (by kernel_rfl) (by kernel_rfl) (by kernel_rfl) (fun γ2 => ?_)
  refine gs_pure rfl rfl (fun M' sB sT => ?_) ?_
  · exact opr_fieldAddr rfl rfl Tryz.underlying33 rfl size31 rfl rfl
  refine gs_pure rfl rfl (fun M' sB sT => ?_) ?_
  · obtain ⟨iB9, hB9⟩ := sB 9 _ rfl rfl; exact opr_load (i := iB9) rfl rfl hB9 Tryz.underlying31 rfl size31 (N_length _) (NN_at (k := 0) rfl rfl rfl)
  refine gs_pure rfl rfl (fun M' sB sT => ?_) ?_
  · exact opr_fieldAddr rfl rfl Tryz.underlying33 rfl size31 rfl rfl
  refine gs_pure rfl rfl (fun M' sB sT => ?_) ?_
  · obtain ⟨iB9, hB9⟩ := sB 9 _ rfl rfl; exact opr_load (i := iB9) rfl rfl hB9 Tryz.underlying31 rfl size31 (N_length _) (NN_at (k := 1) rfl rfl rfl)
  refine gs_pure rfl rfl (fun M' sB sT => ?_) ?_
  · exact opr_call rfl rfl rfl Tryz.func36 (by kernel_rfl) rfl (sAdd_ct hx1 hy1)
  refine gs_pure rfl rfl (fun M' sB sT => ?_) ?_
  · exact opr_fieldAddr rfl rfl Tryz.underlying33 rfl size31 rfl rfl
  refine gs_pure rfl rfl (fun M' sB sT => ?_) ?_
  · obtain ⟨iB8, hB8⟩ := sB 8 _ rfl rfl; exact opr_load (i := iB8) rfl rfl hB8 Tryz.underlying31 rfl size31 (N_length _) (NN_at (k := 0) rfl rfl rfl)
  refine gs_pure rfl rfl (fun M' sB sT => ?_) ?_
  · exact opr_fieldAddr rfl rfl Tryz.underlying33 rfl size31 rfl rfl
  refine gs_pure rfl rfl (fun M' sB sT => ?_) ?_
  · obtain ⟨iB8, hB8⟩ := sB 8 _ rfl rfl; exact opr_load (i := iB8) rfl rfl hB8 Tryz.underlying31 rfl size31 (N_length _) (NN_at (k := 1) rfl rfl rfl)
  refine gs_pure rfl rfl (fun M' sB sT => ?_) ?_
  · exact opr_call rfl rfl rfl Tryz.func36 (by kernel_rfl) rfl (sAdd_ct hx2 hy2)
  refine gs_pure rfl rfl (fun M' sB sT => ?_) ?_
  · exact opr_call rfl rfl rfl Tryz.func24 (by kernel_rfl) rfl (sMul_ct (modp_lt _) (modp_lt _))
  refine gs_pure rfl rfl (fun M' sB sT => ?_) ?_
  · obtain ⟨iB4, hB4⟩ := sB 4 _ rfl rfl; exact opr_load (i := iB4) rfl rfl hB4 Tryz.underlying31 rfl size31 (N_length _) (N_at _)
  refine gs_pure rfl rfl (fun M' sB sT => ?_) ?_
  · exact opr_call rfl rfl rfl Tryz.func35 (by kernel_rfl) rfl (sSub_ct (modp_lt _) (modp_lt _))
  refine gs_pure rfl rfl (fun M' sB sT => ?_) ?_
  · obtain ⟨iB3, hB3⟩ := sB 3 _ rfl rfl; exact opr_load (i := iB3) rfl rfl hB3 Tryz.underlying31 rfl size31 (N_length _) (N_at _)
  refine gs_pure rfl rfl (fun M' sB sT => ?_) ?_
  · exact opr_call rfl rfl rfl Tryz.func35 (by kernel_rfl) rfl (sSub_ct (modp_lt _) (modp_lt _))
  refine gs_alloc rfl rfl (fun M' => opr_alloc rfl zero31 rfl) ?_
  refine gs_storeA rfl rfl rfl rfl rfl (fun M' j hj => opr_store (i := j) rfl rfl rfl rfl hj size31 (N_length _) (by rw [N_length]; decide) (N_flat _) N_over) ?_
  refine gs_nil ?_
  refine (show At _ _ (⟨(γ2 15), 31, N ((((((((x1 + y1) % pp) * ((x2 + y2) % pp) % pp) + negp (x1 * x2 % pp)) % pp) + negp (y1 * y2 % pp)) % pp))⟩ :: ⟨(γ1 7), 31, N ((plG x1 y1 z1 x2 y2 z2))⟩ :: ⟨(γ1 6), 31, N ((plF x1 y1 z1 x2 y2 z2))⟩ :: ⟨g5, 31, N ((plE x1 y1 x2 y2))⟩ :: ⟨(γ0 11), 31, N ((y1 * y2 % pp))⟩ :: ⟨(γ0 10), 31, N ((x1 * x2 % pp))⟩ :: ⟨g4, 31, N (((plA z1 z2) * (plA z1 z2) % pp))⟩ :: ⟨g3, 31, N ((plA z1 z2))⟩ :: ⟨g2, 33, NN [0, 0, 0]⟩ :: ⟨g1, 33, NN [x2, y2, z2]⟩ :: ⟨g0, 33, NN [x1, y1, z1]⟩ :: _) _ from ?_)
  refine (show At _ _ (⟨(γ2 15), 31, N ((plH x1 y1 x2 y2))⟩ :: ⟨(γ1 7), 31, N ((plG x1 y1 z1 x2 y2 z2))⟩ :: ⟨(γ1 6), 31, N ((plF x1 y1 z1 x2 y2 z2))⟩ :: ⟨g5, 31, N ((plE x1 y1 x2 y2))⟩ :: ⟨(γ0 11), 31, N ((y1 * y2 % pp))⟩ :: ⟨(γ0 10), 31, N ((x1 * x2 % pp))⟩ :: ⟨g4, 31, N (((plA z1 z2) * (plA z1 z2) % pp))⟩ :: ⟨g3, 31, N ((plA z1 z2))⟩ :: ⟨g2, 33, NN [0, 0, 0]⟩ :: ⟨g1, 33, NN [x2, y2, z2]⟩ :: ⟨g0, 33, NN [x1, y1, z1]⟩ :: _) _ from ?_)
  refine at_then ?_
  refine at_seq ?_
  refine at_draw (by kernel_rfl) (by kernel_rfl) (by kernel_rfl) (List.cons_ne_nil _ _) ?_
  refine dr_op rfl rfl (opr_load (i := 7) rfl rfl rfl Tryz.underlying31 rfl size31 (N_length _) (N_at _)) ?_
  refine dr_op rfl rfl (opr_load (i := 2) rfl rfl rfl Tryz.underlying31 rfl size31 (N_length _) (N_at _)) ?_
  refine dr_op rfl rfl (opr_load (i := 0) rfl rfl rfl Tryz.underlying31 rfl size31 (N_length _) (N_at _)) ?_
  refine dr_op rfl rfl (opr_call rfl rfl rfl Tryz.func24 (by kernel_rfl) rfl (sMul_ct (plF_lt _ _ _ _ _ _) (plH_lt _ _ _ _))) ?_
  refine dr_op rfl rfl (opr_call rfl rfl rfl Tryz.func24 (by kernel_rfl) rfl (sMul_ct (plA_lt _ _) (modp_lt _))) ?_
  refine dr_op rfl rfl (opr_load (i := 7) rfl rfl rfl Tryz.underlying31 rfl size31 (N_length _) (N_at _)) ?_
  refine dr_op rfl rfl (opr_load (i := 1) rfl rfl rfl Tryz.underlying31 rfl size31 (N_length _) (N_at _)) ?_
  refine dr_op rfl rfl (opr_load (i := 4) rfl rfl rfl Tryz.underlying31 rfl size31 (N_length _) (N_at _)) ?_
  refine dr_op rfl rfl (opr_load (i := 5) rfl rfl rfl Tryz.underlying31 rfl size31 (N_length _) (N_at _)) ?_
  refine dr_op rfl rfl (opr_call rfl rfl rfl Tryz.func35 (by kernel_rfl) rfl (sSub_ct (modp_lt _) (modp_lt _))) ?_
  refine dr_op rfl rfl (opr_call rfl rfl rfl Tryz.func24 (by kernel_rfl) rfl (sMul_ct (plG_lt _ _ _ _ _ _) (modp_lt _))) ?_
  refine dr_op rfl rfl (opr_call rfl rfl rfl Tryz.func24 (by kernel_rfl) rfl (sMul_ct (plA_lt _ _) (modp_lt _))) ?_
  refine dr_op rfl rfl (opr_load (i := 2) rfl rfl rfl Tryz.underlying31 rfl size31 (N_length _) (N_at _)) ?_
  refine dr_op rfl rfl (opr_load (i := 1) rfl rfl rfl Tryz.underlying31 rfl size31 (N_length _) (N_at _)) ?_
  refine dr_op rfl rfl (opr_call rfl rfl rfl Tryz.func24 (by kernel_rfl) rfl (sMul_ct (plF_lt _ _ _ _ _ _) (plG_lt _ _ _ _ _ _))) ?_
  refine dr_op rfl rfl (opr_buildE (ds := NN [((plA z1 z2) * ((plF x1 y1 z1 x2 y2 z2) * (plH x1 y1 x2 y2) % pp) % pp), ((plA z1 z2) * ((plG x1 y1 z1 x2 y2 z2) * (((y1 * y2 % pp) + negp (x1 * x2 % pp)) % pp) % pp) % pp), ((plF x1 y1 z1 x2 y2 z2) * (plG x1 y1 z1 x2 y2 z2) % pp)]) rfl rfl (builtp33 [(0, ((plA z1 z2) * ((plF x1 y1 z1 x2 y2 z2) * (plH x1 y1 x2 y2) % pp) % pp)), (1, ((plA z1 z2) * ((plG x1 y1 z1 x2 y2 z2) * (((y1 * y2 % pp) + negp (x1 * x2 % pp)) % pp) % pp) % pp)), (2, ((plF x1 y1 z1 x2 y2 z2) * (plG x1 y1 z1 x2 y2 z2) % pp))] rfl) rfl) ?_
  refine dr_last rfl rfl (opr_store (i := 8) rfl rfl rfl rfl rfl size33 (NN_length _) (by rw [NN_length]; exact Nat.le_of_ble_eq_true rfl) (NN_flat _) (NN_over rfl)) ?_
  refine at_then ?_
  refine at_ret ?_
  refine done_of (res1 Tryz.results20 (res_cell (i := 8) rfl rfl Tryz.underlying33 rfl size33 (NN_length _) (NN_all rfl))) ⟨rfl, rfl⟩ (by repeat (first | exact List.Sublist.refl _ | apply List.Sublist.cons))
theorem lessT_ct {M : Mem} {a b : Nat} (ha : a < RR) (hb : b < RR) (h : a < b) : Ct Tryz.prog 16 #[.agg (N a).toArray, .agg (N b).toArray] M (Det (.bool true) M) := by
  have k := less_ct (M := M) (a := a) (b := b) (RR_pow ▸ ha) (RR_pow ▸ hb)
  rw [decide_eq_true h] at k
  exact k
theorem told_ct {M : Mem} {X Y Z x y : Nat} (hX : X < RR) (hY : Y < RR) (hZ : Z < RR) (hx : x < pp) (hy : y < pp) (hR : Rep (el x) (el y) (el X) (el Y) (el Z)) : Ct Tryz.prog 6 #[.agg (EE [x, y]).toArray, .bool true, .agg (NN [X, Y, Z]).toArray] M (Det (.bool true) M) := by
  refine ct_of (vs := [.agg (EE [x, y]).toArray, .bool true, .agg (NN [X, Y, Z]).toArray]) Tryz.func6 rfl Tryz.ntmps6 rfl fun w0 => ?_
  refine at_seq ?_
  refine at_region ?_
  refine at_n rfl rfl (opr_box rfl rfl rfl) ?_
  intro g0
  refine at_n rfl rfl (opr_box rfl rfl rfl) ?_
  intro g1
  refine at_d rfl rfl (opr_assign rfl rfl) ?_
  refine at_nil ?_
  refine at_then ?_
  refine at_seq ?_
  refine at_region ?_
  refine at_d rfl rfl (opr_move rfl rfl) ?_
  refine at_d rfl rfl (opr_move rfl rfl) ?_
  refine at_d rfl rfl (opr_load (i := 0) rfl rfl rfl Tryz.underlying33 rfl size33 (NN_length _) (NN_all rfl)) ?_
  refine at_d rfl rfl (opr_fieldAddr rfl rfl Tryz.underlying24 rfl size22 rfl rfl) ?_
  refine at_d rfl rfl (opr_load (i := 1) rfl rfl rfl Tryz.underlying22 rfl size22 (E_length _) (EE_at (k := 0) rfl rfl rfl)) ?_
  refine at_d rfl rfl (opr_fieldAddr rfl rfl Tryz.underlying24 rfl size22 rfl rfl) ?_
  refine at_d rfl rfl (opr_load (i := 1) rfl rfl rfl Tryz.underlying22 rfl size22 (E_length _) (EE_at (k := 1) rfl rfl rfl)) ?_
  refine at_d rfl rfl (opr_call rfl rfl rfl Tryz.func12 (by kernel_rfl) rfl (sIsTT_ct hX hY hZ (pp_lt_RR hx) (pp_lt_RR hy) (isB_rep hR).1 (isB_rep hR).2)) ?_
  refine at_d rfl rfl (opr_pickT rfl rfl rfl) ?_
  refine at_d rfl rfl (opr_move rfl rfl) ?_
  refine at_d rfl rfl (opr_fieldAddr rfl rfl Tryz.underlying24 rfl size22 rfl rfl) ?_
  refine at_d rfl rfl (opr_load (i := 1) rfl rfl rfl Tryz.underlying22 rfl size22 (E_length _) (EE_at (k := 0) rfl rfl rfl)) ?_
  refine at_d rfl rfl (opr_call rfl rfl rfl Tryz.func9 (by kernel_rfl) rfl (of_ct _)) ?_
  refine at_d rfl rfl (opr_call rfl rfl rfl Tryz.func17 (by kernel_rfl) rfl (p_ct)) ?_
  refine at_d rfl rfl (opr_call rfl rfl rfl Tryz.func16 (by kernel_rfl) rfl (lessT_ct (pp_lt_RR hx) RR_pp hx)) ?_
  refine at_d rfl rfl (opr_pickT rfl rfl rfl) ?_
  refine at_d rfl rfl (opr_move rfl rfl) ?_
  refine at_d rfl rfl (opr_fieldAddr rfl rfl Tryz.underlying24 rfl size22 rfl rfl) ?_
  refine at_d rfl rfl (opr_load (i := 1) rfl rfl rfl Tryz.underlying22 rfl size22 (E_length _) (EE_at (k := 1) rfl rfl rfl)) ?_
  refine at_d rfl rfl (opr_call rfl rfl rfl Tryz.func9 (by kernel_rfl) rfl (of_ct _)) ?_
  refine at_d rfl rfl (opr_call rfl rfl rfl Tryz.func17 (by kernel_rfl) rfl (p_ct)) ?_
  refine at_d rfl rfl (opr_call rfl rfl rfl Tryz.func16 (by kernel_rfl) rfl (lessT_ct (pp_lt_RR hy) RR_pp hy)) ?_
  refine at_d rfl rfl (opr_pickT rfl rfl rfl) ?_
  refine at_d rfl rfl (opr_assign rfl rfl) ?_
  refine at_nil ?_
  refine at_then ?_
  refine at_ret ?_
  refine done_of (res1 Tryz.results6 (res_tmp rfl)) ⟨rfl, rfl⟩ (by repeat (first | exact List.Sublist.refl _ | apply List.Sublist.cons))
theorem on_ct {M : Mem} {il gl Tl n c : Nat} {l : List Nat} (hl : M[il]? = some ⟨gl, Tl, EE l⟩) (hn : l.length = 2 * n) (hll : ∀ x ∈ l, x < RR) (hn3 : n ≤ 1000) : Ct Tryz.prog 10 #[.slice (some ⟨gl, 0, none⟩) n c] M (Det (.bool (onAll l n)) M) := by
  refine ct_of (vs := [.slice (some ⟨gl, 0, none⟩) n c]) Tryz.func10 rfl Tryz.ntmps10 rfl fun w0 => ?_
  refine at_seq ?_
  refine at_region ?_
  refine at_d rfl rfl (opr_assign rfl rfl) ?_
  refine at_nil ?_
  refine at_then ?_
  refine at_seq ?_
  refine at_seq ?_
  refine at_region ?_
  refine at_d rfl rfl (opr_move rfl rfl) ?_
  refine at_d rfl rfl (opr_lenS rfl rfl Tryz.underlying38) ?_
  refine at_d rfl rfl (opr_move rfl rfl) ?_
  refine at_nil ?_
  refine at_then ?_
  refine at_block ?_
  refine at_loop (fun (x : Nat) => [(5, .slice (some ⟨gl, 0, none⟩) n c), (6, .int .i64 (n : Int)), (7, .int .i64 (x : Int))]) (fun (x : Nat) => M) (fun (x : Nat) => n - x) (fun (x : Nat) => x ≤ n ∧ ∀ j, j < x → onB (l.getD (2 * j) 0) (l.getD (2 * j + 1) 0) = true) 0 ⟨Nat.zero_le _, fun j hj => absurd hj (Nat.not_lt_zero _)⟩ (allIn ⟨rfl, rfl, rfl, trivial⟩) (List.Sublist.refl _) ?_
  rintro k ⟨hk, hk2⟩
  dsimp only
  refine at_seq ?_
  refine at_region ?_
  refine at_d rfl rfl (opr_lss (a := k) (b := n) rfl rfl rfl) ?_
  refine at_nil ?_
  refine at_then ?_
  refine at_seq ?_
  refine at_cond rfl (fun ht => ?_) (fun ht => ?_)
  ·
    have hlt : k < n := of_decide_eq_true ht
    refine at_skip ?_
    refine at_then ?_
    refine at_seq ?_
    refine at_block ?_
    refine at_seq ?_
    refine at_region ?_
    refine at_d rfl rfl (opr_indexAddrS (j := k) (off' := k * 112) rfl rfl rfl Tryz.underlying38 hlt size24 (Nat.zero_add _)) ?_
    refine at_d rfl rfl (opr_load (i := il) rfl rfl hl Tryz.underlying24 rfl size24 (EE_length _) (EE_pair (by omega) (Nat.mul_comm _ _))) ?_
    refine at_n rfl rfl (opr_alloc rfl zero24 rfl) ?_
    intro g0
    refine at_d rfl rfl (opr_store (i := 0) rfl rfl rfl rfl rfl size24 (EE_length _) (by rw [EE_length]; exact Nat.le_of_ble_eq_true rfl) (EE_flat _) (EE_over rfl)) ?_
    refine at_nil ?_
    refine at_then ?_
    refine at_seq ?_
    refine at_region ?_
    refine at_d rfl rfl (opr_fieldAddr rfl rfl Tryz.underlying24 rfl size22 rfl rfl) ?_
    refine at_d rfl rfl (opr_load (i := 0) rfl rfl rfl Tryz.underlying22 rfl size22 (E_length _) (EE_at (k := 0) rfl rfl rfl)) ?_
    refine at_d rfl rfl (opr_fieldAddr rfl rfl Tryz.underlying24 rfl size22 rfl rfl) ?_
    refine at_d rfl rfl (opr_load (i := 0) rfl rfl rfl Tryz.underlying22 rfl size22 (E_length _) (EE_at (k := 1) rfl rfl rfl)) ?_
    refine at_d rfl rfl (opr_call rfl rfl rfl Tryz.func22 (by kernel_rfl) rfl (isPoint_ct (getD_RR hll _) (getD_RR hll _))) ?_
    refine at_d rfl rfl (opr_unOp (u := .bool (!onB (l.getD (2 * k) 0) (l.getD (2 * k + 1) 0))) rfl rfl (fun _ => rfl)) ?_
    refine at_nil ?_
    refine at_then ?_
    refine at_cond rfl (fun ht2 => ?_) (fun ht2 => ?_)
    ·
      refine at_seq ?_
      refine at_region ?_
      refine at_d rfl rfl (opr_assign rfl rfl) ?_
      refine at_nil ?_
      refine at_then ?_
      refine at_ret ?_
      refine at_inBlock_ret ?_
      refine at_then_ret ?_
      refine at_then_ret ?_
      refine at_inBlock_ret ?_
      refine at_then_ret ?_
      have hF : onAll l n = false := decide_eq_false (fun hA => by have := hA k hlt; rw [this] at ht2; exact absurd ht2 (by decide))
      exact done_of (res1 Tryz.results10 (res_tmp rfl)) ⟨by rw [hF], rfl⟩ (by repeat (first | exact List.Sublist.refl _ | apply List.Sublist.cons))
    ·
      refine at_skip ?_
      refine at_inBlock_normal ?_
      refine at_then ?_
      refine at_region ?_
      refine at_d rfl rfl (opr_addI (a := k) (b := 1) rfl rfl rfl (by omega)) ?_
      refine at_d rfl rfl (opr_move rfl rfl) ?_
      refine at_nil ?_
      exact at_round (k + 1) ⟨by omega, fun j hj => by
        by_cases hjk : j = k
        · subst hjk; simpa using ht2
        · exact hk2 j (by omega)⟩ (by omega) (allIn ⟨rfl, rfl, rfl, trivial⟩) (by repeat (first | exact List.Sublist.refl _ | apply List.Sublist.cons))
  ·
    obtain rfl : k = n := by have := of_decide_eq_false ht; omega
    refine at_exit ?_
    refine at_then_exit ?_
    refine at_then_exit ?_
    refine at_inBlock_same ?_
    refine at_then ?_
    refine at_seq ?_
    refine at_region ?_
    refine at_d rfl rfl (opr_assign rfl rfl) ?_
    refine at_nil ?_
    refine at_then ?_
    refine at_ret ?_
    have hF : onAll l k = true := decide_eq_true hk2
    exact done_of (res1 Tryz.results10 (res_tmp rfl)) ⟨by rw [hF], rfl⟩ (by repeat (first | exact List.Sublist.refl _ | apply List.Sublist.cons))
theorem onAll_one {x y : Nat} : (!onAll [x, y] 1) = false → On (el dP) (el x) (el y) := by
  intro h
  have h := of_decide_eq_true (show onAll _ _ = true by simpa using h)
  exact onB_iff.1 (h 0 (by decide))
theorem onAll_two {x y a b : Nat} : (!onAll [x, y, a, b] 2) = false → On (el dP) (el x) (el y) ∧ On (el dP) (el a) (el b) := by
  intro h
  have h := of_decide_eq_true (show onAll _ _ = true by simpa using h)
  exact ⟨onB_iff.1 (h 0 (by decide)), onB_iff.1 (h 1 (by decide))⟩
theorem onAll_three {x y a b c d : Nat} : (!onAll [x, y, a, b, c, d] 3) = false → On (el dP) (el x) (el y) ∧ On (el dP) (el a) (el b) ∧ On (el dP) (el c) (el d) := by
  intro h
  have h := of_decide_eq_true (show onAll _ _ = true by simpa using h)
  exact ⟨onB_iff.1 (h 0 (by decide)), onB_iff.1 (h 1 (by decide)), onB_iff.1 (h 2 (by decide))⟩
theorem onAll_is {x y : Nat} : onAll [x, y] 1 = onB x y := by
  unfold onAll
  cases h : onB x y
  · exact decide_eq_false (fun hA => by have := hA 0 (by decide); exact absurd (h.symm.trans this) (by decide))
  · exact decide_eq_true (fun j hj => by obtain rfl : j = 0 := by omega
                                         exact h)
end Go.Proofs.YtjlhhcdefcofkaaGreatDoor

/- The thin package's points. -/
namespace Go.Proofs.YtjlhhcdefcofkaaGreatDoor
open Go
set_option maxRecDepth 100000

theorem aff_rep {x z : Nat} (hz : el z ≠ 0) : el (x * invp z % pp) * el z = el x := aff_mul hz
theorem aff_one {a : Nat} (ha : a < pp) : a * invp 1 % pp = a := by
  have h := aff_mul (x := a) (z := 1) (by rw [el_one]; exact isF_pp.one)
  rw [el_one] at h
  refine el_inj (aff_lt _ _) ha ?_
  rw [← h]
  generalize el (a * invp 1 % pp) = c
  grind
theorem sum_id {x y xa ya : Fin pp} (s : Sum (el dP) x y 0 1 xa ya) : xa = x ∧ ya = y := by
  obtain ⟨h1, h2⟩ := s
  generalize el dP = d at *
  constructor
  · clear h2; grind
  · clear h1; grind
theorem on_id : On (el dP) (el 0) (el 1) := by
  unfold On
  rw [el_zero, el_one]
  generalize el dP = d
  grind
theorem on_negx {d x y : Fin pp} (h : On d x y) : On d (-x) y := by
  unfold On at *
  have e : (-x) * (-x) = x * x := by clear h; grind
  rw [e]; exact h
theorem aff1 (a : Nat) : el (a * invp 1 % pp) = el a := by
  have h := aff_mul (x := a) (z := 1) (by rw [el_one]; exact isF_pp.one)
  rw [el_one] at h
  rw [← h]
  generalize el (a * invp 1 % pp) = c
  grind
theorem sum_neg {x y xa ya : Fin pp} (h : On (el dP) x y) (s : Sum (el dP) x y (-x) y xa ya) : xa = 0 ∧ ya = 1 := by
  have h1 := den_plus goldC h (on_negx h)
  have h2 := den_minus goldC h (on_negx h)
  obtain ⟨sx, sy⟩ := s
  unfold On at h
  constructor
  · apply isF_pp.cancel h1
    rw [Fin.mul_comm, sx]
    clear sx sy h1 h2 h
    generalize el dP = d
    grind
  · apply isF_pp.cancel h2
    rw [Fin.mul_comm, sy]
    clear sx sy h1 h2
    generalize el dP = d at *
    grind

end Go.Proofs.YtjlhhcdefcofkaaGreatDoor

/- Sums of points, told. -/
namespace Go.Proofs.YtjlhhcdefcofkaaGreatDoor
open Go
set_option maxRecDepth 100000

theorem rep_plus {x1 y1 x2 y2 : Nat} {xa ya : Fin pp} (o1 : On (el dP) (el x1) (el y1)) (o2 : On (el dP) (el x2) (el y2)) (s : Sum (el dP) (el x1) (el y1) (el x2) (el y2) xa ya) : Rep xa ya (el (plX x1 y1 1 x2 y2 1)) (el (plY x1 y1 1 x2 y2 1)) (el (plZ x1 y1 1 x2 y2 1)) :=
  Rep.plus o1 o2 (rep_one _ _) (rep_one _ _) s (pl_el _ _ _ _ _ _)
theorem sum_eq {x1 y1 x2 y2 : Fin pp} {a b c d : Nat} (o1 : On (el dP) x1 y1) (o2 : On (el dP) x2 y2) (ha : a < pp) (hb : b < pp) (hc : c < pp) (hd : d < pp) (s : Sum (el dP) x1 y1 x2 y2 (el a) (el b)) (t : Sum (el dP) x1 y1 x2 y2 (el c) (el d)) : a = c ∧ b = d :=
  ⟨el_inj ha hc (s.uniq goldC o1 o2 t).1, el_inj hb hd (s.uniq goldC o1 o2 t).2⟩

end Go.Proofs.YtjlhhcdefcofkaaGreatDoor
