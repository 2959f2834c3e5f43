/- Points of the reference. -/
import Derived.Test.YtjanppnnioeifaaDoorPtA
import Derived.Test.YtjanppnnioeifaaDoorPtB
namespace Go.Proofs.YtjanppnnioeifaaDoor
open Go
set_option maxRecDepth 100000
theorem size33 : (Tryd.prog.info? 33).map (·.size) = some 84 := by kernel_rfl
theorem zero33 : (Tryd.prog.info? 33).bind (·.zero) = some (.agg (NN [0, 0, 0]).toArray) := by kernel_rfl
theorem builtn31 : Tryd.prog.built 31 [] = some (List.replicate 28 (Value.int .u64 0)).toArray := by kernel_rfl
theorem builtp33 (ps : List (Nat × Nat)) (h : (ps.all fun p => decide (p.1 < 3) && decide ((([(0, 28), (28, 28), (56, 28)] : List (Nat × Nat)).toArray[p.1]? : Option (Nat × Nat)) = some (28 * p.1, 28))) = true) : Tryd.prog.built 33 (ps.map fun p => (p.1, .agg (N p.2).toArray)) = some (NN (ps.foldl (fun l p => l.set p.1 p.2) [0, 0, 0])).toArray := by
  rw [built_str (pl := [(0, 28), (28, 28), (56, 28)]) Tryd.underlying33 zero33 (by kernel_rfl)]
  exact fillNN ps [0, 0, 0] h
/-- The reference's sum of two points, by X, Y, Z. -/
structure PlusEl (x1 y1 z1 x2 y2 z2 x3 y3 z3 : Fin pp) : Prop where
  hx : x3 = z1 * z2 * ((z1 * z2 * (z1 * z2) - -(el 39081 * (x1 * x2 * (y1 * y2)))) * ((x1 + y1) * (x2 + y2) - x1 * x2 - y1 * y2))
  hy : y3 = z1 * z2 * ((z1 * z2 * (z1 * z2) + -(el 39081 * (x1 * x2 * (y1 * y2)))) * (y1 * y2 - x1 * x2))
  hz : z3 = (z1 * z2 * (z1 * z2) - -(el 39081 * (x1 * x2 * (y1 * y2)))) * (z1 * z2 * (z1 * z2) + -(el 39081 * (x1 * x2 * (y1 * y2))))
/-- X : Y : Z stands for the point (x, y). -/
structure Rep (x y X Y Z : Fin pp) : Prop where
  nz : Z ≠ 0
  hx : x * Z = X
  hy : y * Z = Y
theorem rep_one (x y : Fin pp) : Rep x y x y (el 1) := ⟨by rw [el_one]; exact isF_pp.one, by rw [el_one]; grind, by rw [el_one]; grind⟩
theorem Rep.plus {x1 y1 x2 y2 xa ya X1 Y1 Z1 X2 Y2 Z2 x3 y3 z3 : Fin pp} (o1 : On (el dP) x1 y1) (o2 : On (el dP) x2 y2) (r1 : Rep x1 y1 X1 Y1 Z1) (r2 : Rep x2 y2 X2 Y2 Z2) (s : Sum (el dP) x1 y1 x2 y2 xa ya) (h : PlusEl X1 Y1 Z1 X2 Y2 Z2 x3 y3 z3) : Rep xa ya x3 y3 z3 := by
  have dp := den_plus goldC o1 o2
  have dm := den_minus goldC o1 o2
  clear o1 o2
  obtain ⟨n1, hX1, hY1⟩ := r1
  obtain ⟨n2, hX2, hY2⟩ := r2
  obtain ⟨hx, hy, hz⟩ := h
  obtain ⟨sx, sy⟩ := s
  have nn := isF_pp.mul_ne n1 n2
  subst hX1 hY1 hX2 hY2
  have k39 : el 39081 = -el dP := by rw [el_dP]; generalize el 39081 = c; clear nn n1 n2 dp dm sx sy hx hy hz; grind
  rw [k39] at hx hy hz
  clear k39
  generalize el dP = d at *
  have e0 : Z1 * Z2 * (Z1 * Z2) - -(-d * (x1 * Z1 * (x2 * Z2) * (y1 * Z1 * (y2 * Z2)))) = Z1 * Z2 * (Z1 * Z2) * (1 - d * x1 * x2 * y1 * y2) := by clear nn n1 n2 dp dm sx sy hx hy hz; grind
  have e1 : Z1 * Z2 * (Z1 * Z2) + -(-d * (x1 * Z1 * (x2 * Z2) * (y1 * Z1 * (y2 * Z2)))) = Z1 * Z2 * (Z1 * Z2) * (1 + d * x1 * x2 * y1 * y2) := by clear nn n1 n2 dp dm sx sy hx hy hz e0; grind
  have e2 : (x1 * Z1 + y1 * Z1) * (x2 * Z2 + y2 * Z2) - x1 * Z1 * (x2 * Z2) - y1 * Z1 * (y2 * Z2) = Z1 * Z2 * (x1 * y2 + y1 * x2) := by clear nn n1 n2 dp dm sx sy hx hy hz e0 e1; grind
  have e3 : y1 * Z1 * (y2 * Z2) - x1 * Z1 * (x2 * Z2) = Z1 * Z2 * (y1 * y2 - x1 * x2) := by clear nn n1 n2 dp dm sx sy hx hy hz e0 e1 e2; grind
  rw [e0, e2, ← sx] at hx
  rw [e1, e3, ← sy] at hy
  rw [e0, e1] at hz
  clear e0 e1 e2 e3 sx sy n1 n2
  generalize 1 - d * x1 * x2 * y1 * y2 = m at *
  generalize 1 + d * x1 * x2 * y1 * y2 = q at *
  generalize Z1 * Z2 = w at *
  refine ⟨?_, ?_, ?_⟩
  · rw [hz]; exact isF_pp.mul_ne (isF_pp.mul_ne (isF_pp.mul_ne nn nn) dm) (isF_pp.mul_ne (isF_pp.mul_ne nn nn) dp)
  · rw [hz, hx]; clear hx hy hz dp dm nn; grind
  · rw [hz, hy]; clear hx hy hz dp dm nn; grind
/-- Whether two coordinates are those of a point, as the reference reckons it. -/
def curvN (a : Nat) : Nat := negp (39081 * a % pp)
def onB (x y : Nat) : Bool := decide ((x * x % pp + y * y % pp) % pp = (1 + curvN (x * x % pp * (y * y % pp) % pp)) % pp)
theorem el_curvN (a : Nat) : el (curvN a) = -(el 39081 * el a) := by rw [curvN, el_neg, el_mod, el_mul]
theorem onB_iff {x y : Nat} : onB x y = true ↔ On (el dP) (el x) (el y) := by
  unfold onB
  rw [decide_eq_true_iff, ← el_eq, el_add, el_add, el_curvN]
  simp only [el_mod, el_mul, el_one]
  have k39 : el 39081 = -el dP := by rw [el_dP]; generalize el 39081 = c; grind
  rw [k39]
  unfold On
  generalize el dP = d
  generalize el x = a
  generalize el y = b
  have e : 1 + -(-d * (a * a * (b * b))) = 1 + d * (a * a) * (b * b) := by clear k39; grind
  rw [e]
theorem onB_false {x y : Nat} (h : ¬ On (el dP) (el x) (el y)) : onB x y = false := by
  cases hb : onB x y
  · rfl
  · exact absurd (onB_iff.1 hb) h
def onAll (l : List Nat) (n : Nat) : Bool := decide (∀ j, j < n → onB (l.getD (2 * j) 0) (l.getD (2 * j + 1) 0) = true)
def isB (X Y Z x y : Nat) : Bool := decide (x * Z % pp = X % pp) && decide (y * Z % pp = Y % pp)
theorem isB_rep {x y : Nat} {X Y Z : Nat} (h : Rep (el x) (el y) (el X) (el Y) (el Z)) : x * Z % pp = X % pp ∧ y * Z % pp = Y % pp :=
  ⟨el_eq.1 ((el_mul _ _).trans h.hx), el_eq.1 ((el_mul _ _).trans h.hy)⟩
theorem curvN_lt (a : Nat) : curvN a < RR := negp_lt _
def plA (z1 z2 : Nat) : Nat := z1 * z2 % pp
def plE (x1 y1 x2 y2 : Nat) : Nat := curvN (x1 * x2 % pp * (y1 * y2 % pp) % pp)
def plF (x1 y1 z1 x2 y2 z2 : Nat) : Nat := (plA z1 z2 * plA z1 z2 % pp + negp (plE x1 y1 x2 y2)) % pp
def plG (x1 y1 z1 x2 y2 z2 : Nat) : Nat := (plA z1 z2 * plA z1 z2 % pp + plE x1 y1 x2 y2) % pp
def plH (x1 y1 x2 y2 : Nat) : Nat := (((x1 + y1) % pp * ((x2 + y2) % pp) % pp + negp (x1 * x2 % pp)) % pp + negp (y1 * y2 % pp)) % pp
def plX (x1 y1 z1 x2 y2 z2 : Nat) : Nat := plA z1 z2 * (plF x1 y1 z1 x2 y2 z2 * plH x1 y1 x2 y2 % pp) % pp
def plY (x1 y1 z1 x2 y2 z2 : Nat) : Nat := plA z1 z2 * (plG x1 y1 z1 x2 y2 z2 * ((y1 * y2 % pp + negp (x1 * x2 % pp)) % pp) % pp) % pp
def plZ (x1 y1 z1 x2 y2 z2 : Nat) : Nat := plF x1 y1 z1 x2 y2 z2 * plG x1 y1 z1 x2 y2 z2 % pp
theorem plA_lt (z1 z2 : Nat) : plA z1 z2 < RR := modp_lt _
theorem plE_lt (x1 y1 x2 y2 : Nat) : plE x1 y1 x2 y2 < RR := curvN_lt _
theorem plF_lt (x1 y1 z1 x2 y2 z2 : Nat) : plF x1 y1 z1 x2 y2 z2 < RR := modp_lt _
theorem plG_lt (x1 y1 z1 x2 y2 z2 : Nat) : plG x1 y1 z1 x2 y2 z2 < RR := modp_lt _
theorem plH_lt (x1 y1 x2 y2 : Nat) : plH x1 y1 x2 y2 < RR := modp_lt _
theorem plX_lt (x1 y1 z1 x2 y2 z2 : Nat) : plX x1 y1 z1 x2 y2 z2 < RR := modp_lt _
theorem plY_lt (x1 y1 z1 x2 y2 z2 : Nat) : plY x1 y1 z1 x2 y2 z2 < RR := modp_lt _
theorem plZ_lt (x1 y1 z1 x2 y2 z2 : Nat) : plZ x1 y1 z1 x2 y2 z2 < RR := modp_lt _
theorem pl_el (x1 y1 z1 x2 y2 z2 : Nat) : PlusEl (el x1) (el y1) (el z1) (el x2) (el y2) (el z2) (el (plX x1 y1 z1 x2 y2 z2)) (el (plY x1 y1 z1 x2 y2 z2)) (el (plZ x1 y1 z1 x2 y2 z2)) := by
  constructor
  · simp only [plX, plF, plH, plE, plA, el_mod, el_mul, el_add, el_neg, el_curvN]
    generalize el 39081 = c, el x1 = x1, el y1 = y1, el z1 = z1, el x2 = x2, el y2 = y2, el z2 = z2
    grind
  · simp only [plY, plG, plE, plA, el_mod, el_mul, el_add, el_neg, el_curvN]
    generalize el 39081 = c, el x1 = x1, el y1 = y1, el z1 = z1, el x2 = x2, el y2 = y2, el z2 = z2
    grind
  · simp only [plZ, plF, plG, plE, plA, el_mod, el_mul, el_add, el_neg, el_curvN]
    generalize el 39081 = c, el x1 = x1, el y1 = y1, el z1 = z1, el x2 = x2, el y2 = y2, el z2 = z2
    grind
theorem el_inj {a b : Nat} (ha : a < pp) (hb : b < pp) (h : el a = el b) : a = b := by
  have := el_eq.1 h
  rwa [Nat.mod_eq_of_lt ha, Nat.mod_eq_of_lt hb] at this
theorem curved_ct {M : Mem} {a : Nat} (ha : a < RR) : Ct Tryd.prog 52 #[.agg (N a).toArray] M (Det (.agg (N (curvN a)).toArray) M) := by
  refine ct_of (vs := [.agg (N a).toArray]) Tryd.func52 rfl Tryd.ntmps52 rfl fun w0 => ?_
  refine at_seq ?_
  refine at_region ?_
  refine at_n rfl rfl (opr_box rfl rfl rfl) ?_
  intro g0
  refine at_n rfl rfl (opr_alloc rfl zero31 rfl) ?_
  intro g1
  refine at_nil ?_
  refine at_then ?_
  refine at_seq ?_
  refine at_draw (by kernel_rfl) (by kernel_rfl) (by kernel_rfl) (List.cons_ne_nil _ _) ?_
  refine dr_op rfl rfl (opr_call rfl rfl rfl Tryd.func23 (by kernel_rfl) rfl (small_ct (c := 39081) (by decide))) ?_
  refine dr_op rfl rfl (opr_load (i := 1) rfl rfl rfl Tryd.underlying31 rfl size31 (N_length _) (N_at _)) ?_
  refine dr_op rfl rfl (opr_call rfl rfl rfl Tryd.func22 (by kernel_rfl) rfl (sMul_ct (by decide) ha)) ?_
  refine dr_op rfl rfl (opr_call rfl rfl rfl Tryd.func53 (by kernel_rfl) rfl (sNeg_ct (modp_lt _))) ?_
  refine dr_last rfl rfl (opr_store (i := 0) rfl rfl rfl rfl rfl size31 (N_length _) (by rw [N_length]; decide) (N_flat _) N_over) ?_
  refine at_then ?_
  refine at_ret ?_
  refine done_of (res1 Tryd.results52 (res_cell (i := 0) rfl rfl Tryd.underlying31 rfl size31 (N_length _) (N_at _))) ⟨rfl, rfl⟩ (by repeat (first | exact List.Sublist.refl _ | apply List.Sublist.cons))
theorem isPoint_ct {M : Mem} {x y : Nat} (hx : x < RR) (hy : y < RR) : Ct Tryd.prog 33 #[.agg (E x).toArray, .agg (E y).toArray] M (Det (.bool (onB x y)) M) := by
  refine ct_of (vs := [.agg (E x).toArray, .agg (E y).toArray]) Tryd.func33 rfl Tryd.ntmps33 rfl fun w0 => ?_
  refine at_seq ?_
  refine at_region ?_
  refine at_n rfl rfl (opr_box (cs := EE [x]) rfl rfl (E_box _)) ?_
  intro g0
  refine at_n rfl rfl (opr_box (cs := EE [y]) rfl rfl (E_box _)) ?_
  intro g1
  refine at_d rfl rfl (opr_assign rfl rfl) ?_
  refine at_nil ?_
  refine at_then ?_
  refine at_seq ?_
  refine at_drawG (B := [⟨g1, 22, EE [y]⟩, ⟨g0, 22, EE [x]⟩]) (E := [⟨.pure [1], 0, [], .v (.agg (E (x)).toArray)⟩, ⟨.pure [], 0, [], .v (.agg (N (x)).toArray)⟩, ⟨.pure [1], 0, [], .v (.agg (E (x)).toArray)⟩, ⟨.pure [], 0, [], .v (.agg (N (x)).toArray)⟩, ⟨.pure [], 0, [], .v (.agg (N ((x * x % pp))).toArray)⟩, ⟨.pure [0], 0, [], .v (.agg (E (y)).toArray)⟩, ⟨.pure [], 0, [], .v (.agg (N (y)).toArray)⟩, ⟨.pure [0], 0, [], .v (.agg (E (y)).toArray)⟩, ⟨.pure [], 0, [], .v (.agg (N (y)).toArray)⟩, ⟨.pure [], 0, [], .v (.agg (N ((y * y % pp))).toArray)⟩, ⟨.alloc, 31, N (0), .p 10 0⟩, ⟨.alloc, 31, N (0), .p 11 0⟩, ⟨.storeA 10, 0, N ((x * x % pp)), .v undef⟩, ⟨.storeA 11, 0, N ((y * y % pp)), .v undef⟩]) (by kernel_rfl) (by kernel_rfl) (by kernel_rfl) (fun γ0 => ?_)
  refine gs_pure rfl rfl (fun M' sB sT => ?_) ?_
  · obtain ⟨iB1, hB1⟩ := sB 1 _ rfl rfl; exact opr_load (i := iB1) rfl rfl hB1 Tryd.underlying22 rfl size22 (E_length _) (EE_at (k := 0) rfl rfl rfl)
  refine gs_pure rfl rfl (fun M' sB sT => ?_) ?_
  · exact opr_call rfl rfl rfl Tryd.func20 (by kernel_rfl) rfl (of_ct _)
  refine gs_pure rfl rfl (fun M' sB sT => ?_) ?_
  · obtain ⟨iB1, hB1⟩ := sB 1 _ rfl rfl; exact opr_load (i := iB1) rfl rfl hB1 Tryd.underlying22 rfl size22 (E_length _) (EE_at (k := 0) rfl rfl rfl)
  refine gs_pure rfl rfl (fun M' sB sT => ?_) ?_
  · exact opr_call rfl rfl rfl Tryd.func20 (by kernel_rfl) rfl (of_ct _)
  refine gs_pure rfl rfl (fun M' sB sT => ?_) ?_
  · exact opr_call rfl rfl rfl Tryd.func22 (by kernel_rfl) rfl (sMul_ct hx hx)
  refine gs_pure rfl rfl (fun M' sB sT => ?_) ?_
  · obtain ⟨iB0, hB0⟩ := sB 0 _ rfl rfl; exact opr_load (i := iB0) rfl rfl hB0 Tryd.underlying22 rfl size22 (E_length _) (EE_at (k := 0) rfl rfl rfl)
  refine gs_pure rfl rfl (fun M' sB sT => ?_) ?_
  · exact opr_call rfl rfl rfl Tryd.func20 (by kernel_rfl) rfl (of_ct _)
  refine gs_pure rfl rfl (fun M' sB sT => ?_) ?_
  · obtain ⟨iB0, hB0⟩ := sB 0 _ rfl rfl; exact opr_load (i := iB0) rfl rfl hB0 Tryd.underlying22 rfl size22 (E_length _) (EE_at (k := 0) rfl rfl rfl)
  refine gs_pure rfl rfl (fun M' sB sT => ?_) ?_
  · exact opr_call rfl rfl rfl Tryd.func20 (by kernel_rfl) rfl (of_ct _)
  refine gs_pure rfl rfl (fun M' sB sT => ?_) ?_
  · exact opr_call rfl rfl rfl Tryd.func22 (by kernel_rfl) rfl (sMul_ct hy hy)
  refine gs_alloc rfl rfl (fun M' => opr_alloc rfl zero31 rfl) ?_
  refine gs_alloc rfl rfl (fun M' => opr_alloc rfl zero31 rfl) ?_
  refine gs_storeA rfl rfl rfl rfl rfl (fun M' j hj => opr_store (i := j) rfl rfl rfl rfl hj size31 (N_length _) (by rw [N_length]; decide) (N_flat _) N_over) ?_
  refine gs_storeA rfl rfl rfl rfl rfl (fun M' j hj => opr_store (i := j) rfl rfl rfl rfl hj size31 (N_length _) (by rw [N_length]; decide) (N_flat _) N_over) ?_
  refine gs_nil ?_
  refine (show At _ _ (⟨(γ0 11), 31, N ((y * y % pp))⟩ :: ⟨(γ0 10), 31, N ((x * x % pp))⟩ :: ⟨g1, 22, EE [y]⟩ :: ⟨g0, 22, EE [x]⟩ :: _) _ from ?_)
  refine at_then ?_
  refine at_seq ?_
  refine at_drawQ (by kernel_rfl) (by kernel_rfl) (List.cons_ne_nil _ _) ?_
  refine dr_op rfl rfl (opr_load (i := 1) rfl rfl rfl Tryd.underlying31 rfl size31 (N_length _) (N_at _)) ?_
  refine dr_op rfl rfl (opr_load (i := 0) rfl rfl rfl Tryd.underlying31 rfl size31 (N_length _) (N_at _)) ?_
  refine dr_op rfl rfl (opr_call rfl rfl rfl Tryd.func64 (by kernel_rfl) rfl (sAdd_ct (modp_lt _) (modp_lt _))) ?_
  refine dr_op rfl rfl (opr_call rfl rfl rfl Tryd.func23 (by kernel_rfl) rfl (small_ct (c := 1) (by decide))) ?_
  refine dr_op rfl rfl (opr_load (i := 1) rfl rfl rfl Tryd.underlying31 rfl size31 (N_length _) (N_at _)) ?_
  refine dr_op rfl rfl (opr_load (i := 0) rfl rfl rfl Tryd.underlying31 rfl size31 (N_length _) (N_at _)) ?_
  refine dr_op rfl rfl (opr_call rfl rfl rfl Tryd.func22 (by kernel_rfl) rfl (sMul_ct (modp_lt _) (modp_lt _))) ?_
  refine dr_op rfl rfl (opr_call rfl rfl rfl Tryd.func52 (by kernel_rfl) rfl (curved_ct (modp_lt _))) ?_
  refine dr_op rfl rfl (opr_call rfl rfl rfl Tryd.func64 (by kernel_rfl) rfl (sAdd_ct RR_one (curvN_lt _))) ?_
  refine dr_op rfl rfl (opr_eqlNb (t := onB x y) rfl rfl rfl Tryd.underlying31 Tryd.underlying29 size29 (by kernel_rfl) (modp_lt _) (modp_lt _) rfl) ?_
  refine dr_last rfl rfl (opr_assign rfl rfl) ?_
  refine ⟨rfl, ?_⟩
  refine at_then ?_
  refine at_ret ?_
  refine done_of (res1 Tryd.results33 (res_tmp rfl)) ⟨rfl, rfl⟩ (by repeat (first | exact List.Sublist.refl _ | apply List.Sublist.cons))
theorem sAt_ct {M : Mem} {x y : Nat} : Ct Tryd.prog 46 #[.agg (E x).toArray, .agg (E y).toArray] M (Det (.agg (NN [x, y, 1]).toArray) M) := by
  refine ct_of (vs := [.agg (E x).toArray, .agg (E y).toArray]) Tryd.func46 rfl Tryd.ntmps46 rfl fun w0 => ?_
  refine at_seq ?_
  refine at_region ?_
  refine at_n rfl rfl (opr_box (cs := EE [x]) rfl rfl (E_box _)) ?_
  intro g0
  refine at_n rfl rfl (opr_box (cs := EE [y]) rfl rfl (E_box _)) ?_
  intro g1
  refine at_n rfl rfl (opr_alloc rfl zero33 rfl) ?_
  intro g2
  refine at_nil ?_
  refine at_then ?_
  refine at_seq ?_
  refine at_draw (by kernel_rfl) (by kernel_rfl) (by kernel_rfl) (List.cons_ne_nil _ _) ?_
  refine dr_op rfl rfl (opr_load (i := 2) rfl rfl rfl Tryd.underlying22 rfl size22 (E_length _) (EE_at (k := 0) rfl rfl rfl)) ?_
  refine dr_op rfl rfl (opr_call rfl rfl rfl Tryd.func20 (by kernel_rfl) rfl (of_ct _)) ?_
  refine dr_op rfl rfl (opr_load (i := 1) rfl rfl rfl Tryd.underlying22 rfl size22 (E_length _) (EE_at (k := 0) rfl rfl rfl)) ?_
  refine dr_op rfl rfl (opr_call rfl rfl rfl Tryd.func20 (by kernel_rfl) rfl (of_ct _)) ?_
  refine dr_op rfl rfl (opr_call rfl rfl rfl Tryd.func23 (by kernel_rfl) rfl (small_ct (c := 1) (by decide))) ?_
  refine dr_op rfl rfl (opr_buildE (ds := NN [x, y, 1]) rfl rfl (builtp33 [(0, x), (1, y), (2, 1)] rfl) rfl) ?_
  refine dr_last rfl rfl (opr_store (i := 0) rfl rfl rfl rfl rfl size33 (NN_length _) (by rw [NN_length]; exact Nat.le_of_ble_eq_true rfl) (NN_flat _) (NN_over rfl)) ?_
  refine at_then ?_
  refine at_ret ?_
  refine done_of (res1 Tryd.results46 (res_cell (i := 0) rfl rfl Tryd.underlying33 rfl size33 (NN_length _) (NN_all rfl))) ⟨rfl, rfl⟩ (by repeat (first | exact List.Sublist.refl _ | apply List.Sublist.cons))
theorem at_ct {M : Mem} {x y : Nat} : Ct Tryd.prog 16 #[.agg (EE [x, y]).toArray] M (Det (.agg (NN [x, y, 1]).toArray) M) := by
  refine ct_of (vs := [.agg (EE [x, y]).toArray]) Tryd.func16 rfl Tryd.ntmps16 rfl fun w0 => ?_
  refine at_seq ?_
  refine at_region ?_
  refine at_n rfl rfl (opr_box rfl rfl rfl) ?_
  intro g0
  refine at_n rfl rfl (opr_alloc rfl zero33 rfl) ?_
  intro g1
  refine at_nil ?_
  refine at_then ?_
  refine at_seq ?_
  refine at_region ?_
  refine at_d rfl rfl (opr_fieldAddr rfl rfl Tryd.underlying24 rfl size22 rfl rfl) ?_
  refine at_d rfl rfl (opr_load (i := 1) rfl rfl rfl Tryd.underlying22 rfl size22 (E_length _) (EE_at (k := 0) rfl rfl rfl)) ?_
  refine at_d rfl rfl (opr_fieldAddr rfl rfl Tryd.underlying24 rfl size22 rfl rfl) ?_
  refine at_d rfl rfl (opr_load (i := 1) rfl rfl rfl Tryd.underlying22 rfl size22 (E_length _) (EE_at (k := 1) rfl rfl rfl)) ?_
  refine at_d rfl rfl (opr_call rfl rfl rfl Tryd.func46 (by kernel_rfl) rfl (sAt_ct)) ?_
  refine at_d rfl rfl (opr_store (i := 0) rfl rfl rfl rfl rfl size33 (NN_length _) (by rw [NN_length]; exact Nat.le_of_ble_eq_true rfl) (NN_flat _) (NN_over rfl)) ?_
  refine at_nil ?_
  refine at_then ?_
  refine at_ret ?_
  refine done_of (res1 Tryd.results16 (res_cell (i := 0) rfl rfl Tryd.underlying33 rfl size33 (NN_length _) (NN_all rfl))) ⟨rfl, rfl⟩ (by repeat (first | exact List.Sublist.refl _ | apply List.Sublist.cons))
theorem sZero_ct {M : Mem} : Ct Tryd.prog 18 #[] M (Det (.agg (NN [0, 1, 1]).toArray) M) := by
  refine ct_of (vs := []) Tryd.func18 rfl Tryd.ntmps18 rfl fun w0 => ?_
  refine at_seq ?_
  refine at_region ?_
  refine at_n rfl rfl (opr_alloc rfl zero33 rfl) ?_
  intro g0
  refine at_nil ?_
  refine at_then ?_
  refine at_seq ?_
  refine at_region ?_
  refine at_d rfl rfl (opr_buildE (ds := N 0) rfl rfl builtn31 rfl) ?_
  refine at_d rfl rfl (opr_call rfl rfl rfl Tryd.func23 (by kernel_rfl) rfl (small_ct (c := 1) (by decide))) ?_
  refine at_d rfl rfl (opr_call rfl rfl rfl Tryd.func23 (by kernel_rfl) rfl (small_ct (c := 1) (by decide))) ?_
  refine at_d rfl rfl (opr_buildE (ds := NN [0, 1, 1]) rfl rfl (builtp33 [(0, 0), (1, 1), (2, 1)] rfl) rfl) ?_
  refine at_d rfl rfl (opr_store (i := 0) rfl rfl rfl rfl rfl size33 (NN_length _) (by rw [NN_length]; exact Nat.le_of_ble_eq_true rfl) (NN_flat _) (NN_over rfl)) ?_
  refine at_nil ?_
  refine at_then ?_
  refine at_ret ?_
  refine done_of (res1 Tryd.results18 (res_cell (i := 0) rfl rfl Tryd.underlying33 rfl size33 (NN_length _) (NN_all rfl))) ⟨rfl, rfl⟩ (by repeat (first | exact List.Sublist.refl _ | apply List.Sublist.cons))
theorem sIsTT_ct {M : Mem} {X Y Z x y : Nat} (hX : X < RR) (hY : Y < RR) (hZ : Z < RR) (hx : x < RR) (hy : y < RR) (h1 : x * Z % pp = X % pp) (h2 : y * Z % pp = Y % pp) : Ct Tryd.prog 17 #[.agg (NN [X, Y, Z]).toArray, .agg (E x).toArray, .agg (E y).toArray] M (Det (.bool true) M) := by
  refine ct_of (vs := [.agg (NN [X, Y, Z]).toArray, .agg (E x).toArray, .agg (E y).toArray]) Tryd.func17 rfl Tryd.ntmps17 rfl fun w0 => ?_
  refine at_seq ?_
  refine at_region ?_
  refine at_n rfl rfl (opr_box rfl rfl rfl) ?_
  intro g0
  refine at_n rfl rfl (opr_box (cs := EE [x]) rfl rfl (E_box _)) ?_
  intro g1
  refine at_n rfl rfl (opr_box (cs := EE [y]) rfl rfl (E_box _)) ?_
  intro g2
  refine at_d rfl rfl (opr_assign rfl rfl) ?_
  refine at_nil ?_
  refine at_then ?_
  refine at_seq ?_
  refine at_drawQ (by kernel_rfl) (by kernel_rfl) (List.cons_ne_nil _ _) ?_
  refine dr_op rfl rfl (opr_load (i := 1) rfl rfl rfl Tryd.underlying22 rfl size22 (E_length _) (EE_at (k := 0) rfl rfl rfl)) ?_
  refine dr_op rfl rfl (opr_call rfl rfl rfl Tryd.func20 (by kernel_rfl) rfl (of_ct _)) ?_
  refine dr_op rfl rfl (opr_fieldAddr rfl rfl Tryd.underlying33 rfl size31 rfl rfl) ?_
  refine dr_op rfl rfl (opr_load (i := 2) rfl rfl rfl Tryd.underlying31 rfl size31 (N_length _) (NN_at (k := 2) rfl rfl rfl)) ?_
  refine dr_op rfl rfl (opr_call rfl rfl rfl Tryd.func22 (by kernel_rfl) rfl (sMul_ct hx hZ)) ?_
  refine dr_op rfl rfl (opr_fieldAddr rfl rfl Tryd.underlying33 rfl size31 rfl rfl) ?_
  refine dr_op rfl rfl (opr_load (i := 2) rfl rfl rfl Tryd.underlying31 rfl size31 (N_length _) (NN_at (k := 0) rfl rfl rfl)) ?_
  refine dr_op rfl rfl (opr_call rfl rfl rfl Tryd.func42 (by kernel_rfl) rfl (mod_ct hX)) ?_
  refine dr_op rfl rfl (opr_eqlNb (t := true) rfl rfl rfl Tryd.underlying31 Tryd.underlying29 size29 (by kernel_rfl) (modp_lt _) (modp_lt _) (decide_eq_true h1)) ?_
  refine dr_op rfl rfl (opr_move rfl rfl) ?_
  refine dr_op rfl rfl (opr_load (i := 0) rfl rfl rfl Tryd.underlying22 rfl size22 (E_length _) (EE_at (k := 0) rfl rfl rfl)) ?_
  refine dr_op rfl rfl (opr_call rfl rfl rfl Tryd.func20 (by kernel_rfl) rfl (of_ct _)) ?_
  refine dr_op rfl rfl (opr_fieldAddr rfl rfl Tryd.underlying33 rfl size31 rfl rfl) ?_
  refine dr_op rfl rfl (opr_load (i := 2) rfl rfl rfl Tryd.underlying31 rfl size31 (N_length _) (NN_at (k := 2) rfl rfl rfl)) ?_
  refine dr_op rfl rfl (opr_call rfl rfl rfl Tryd.func22 (by kernel_rfl) rfl (sMul_ct hy hZ)) ?_
  refine dr_op rfl rfl (opr_fieldAddr rfl rfl Tryd.underlying33 rfl size31 rfl rfl) ?_
  refine dr_op rfl rfl (opr_load (i := 2) rfl rfl rfl Tryd.underlying31 rfl size31 (N_length _) (NN_at (k := 1) rfl rfl rfl)) ?_
  refine dr_op rfl rfl (opr_call rfl rfl rfl Tryd.func42 (by kernel_rfl) rfl (mod_ct hY)) ?_
  refine dr_op rfl rfl (opr_eqlNb (t := true) rfl rfl rfl Tryd.underlying31 Tryd.underlying29 size29 (by kernel_rfl) (modp_lt _) (modp_lt _) (decide_eq_true h2)) ?_
  refine dr_op rfl rfl (opr_pickT rfl rfl rfl) ?_
  refine dr_last rfl rfl (opr_assign rfl rfl) ?_
  refine ⟨rfl, ?_⟩
  refine at_then ?_
  refine at_ret ?_
  refine done_of (res1 Tryd.results17 (res_tmp rfl)) ⟨rfl, rfl⟩ (by repeat (first | exact List.Sublist.refl _ | apply List.Sublist.cons))
theorem sIsTF_ct {M : Mem} {X Y Z x y : Nat} (hX : X < RR) (hY : Y < RR) (hZ : Z < RR) (hx : x < RR) (hy : y < RR) (h1 : x * Z % pp = X % pp) (h2 : ¬ y * Z % pp = Y % pp) : Ct Tryd.prog 17 #[.agg (NN [X, Y, Z]).toArray, .agg (E x).toArray, .agg (E y).toArray] M (Det (.bool false) M) := by
  refine ct_of (vs := [.agg (NN [X, Y, Z]).toArray, .agg (E x).toArray, .agg (E y).toArray]) Tryd.func17 rfl Tryd.ntmps17 rfl fun w0 => ?_
  refine at_seq ?_
  refine at_region ?_
  refine at_n rfl rfl (opr_box rfl rfl rfl) ?_
  intro g0
  refine at_n rfl rfl (opr_box (cs := EE [x]) rfl rfl (E_box _)) ?_
  intro g1
  refine at_n rfl rfl (opr_box (cs := EE [y]) rfl rfl (E_box _)) ?_
  intro g2
  refine at_d rfl rfl (opr_assign rfl rfl) ?_
  refine at_nil ?_
  refine at_then ?_
  refine at_seq ?_
  refine at_drawQ (by kernel_rfl) (by kernel_rfl) (List.cons_ne_nil _ _) ?_
  refine dr_op rfl rfl (opr_load (i := 1) rfl rfl rfl Tryd.underlying22 rfl size22 (E_length _) (EE_at (k := 0) rfl rfl rfl)) ?_
  refine dr_op rfl rfl (opr_call rfl rfl rfl Tryd.func20 (by kernel_rfl) rfl (of_ct _)) ?_
  refine dr_op rfl rfl (opr_fieldAddr rfl rfl Tryd.underlying33 rfl size31 rfl rfl) ?_
  refine dr_op rfl rfl (opr_load (i := 2) rfl rfl rfl Tryd.underlying31 rfl size31 (N_length _) (NN_at (k := 2) rfl rfl rfl)) ?_
  refine dr_op rfl rfl (opr_call rfl rfl rfl Tryd.func22 (by kernel_rfl) rfl (sMul_ct hx hZ)) ?_
  refine dr_op rfl rfl (opr_fieldAddr rfl rfl Tryd.underlying33 rfl size31 rfl rfl) ?_
  refine dr_op rfl rfl (opr_load (i := 2) rfl rfl rfl Tryd.underlying31 rfl size31 (N_length _) (NN_at (k := 0) rfl rfl rfl)) ?_
  refine dr_op rfl rfl (opr_call rfl rfl rfl Tryd.func42 (by kernel_rfl) rfl (mod_ct hX)) ?_
  refine dr_op rfl rfl (opr_eqlNb (t := true) rfl rfl rfl Tryd.underlying31 Tryd.underlying29 size29 (by kernel_rfl) (modp_lt _) (modp_lt _) (decide_eq_true h1)) ?_
  refine dr_op rfl rfl (opr_move rfl rfl) ?_
  refine dr_op rfl rfl (opr_load (i := 0) rfl rfl rfl Tryd.underlying22 rfl size22 (E_length _) (EE_at (k := 0) rfl rfl rfl)) ?_
  refine dr_op rfl rfl (opr_call rfl rfl rfl Tryd.func20 (by kernel_rfl) rfl (of_ct _)) ?_
  refine dr_op rfl rfl (opr_fieldAddr rfl rfl Tryd.underlying33 rfl size31 rfl rfl) ?_
  refine dr_op rfl rfl (opr_load (i := 2) rfl rfl rfl Tryd.underlying31 rfl size31 (N_length _) (NN_at (k := 2) rfl rfl rfl)) ?_
  refine dr_op rfl rfl (opr_call rfl rfl rfl Tryd.func22 (by kernel_rfl) rfl (sMul_ct hy hZ)) ?_
  refine dr_op rfl rfl (opr_fieldAddr rfl rfl Tryd.underlying33 rfl size31 rfl rfl) ?_
  refine dr_op rfl rfl (opr_load (i := 2) rfl rfl rfl Tryd.underlying31 rfl size31 (N_length _) (NN_at (k := 1) rfl rfl rfl)) ?_
  refine dr_op rfl rfl (opr_call rfl rfl rfl Tryd.func42 (by kernel_rfl) rfl (mod_ct hY)) ?_
  refine dr_op rfl rfl (opr_eqlNb (t := false) rfl rfl rfl Tryd.underlying31 Tryd.underlying29 size29 (by kernel_rfl) (modp_lt _) (modp_lt _) (decide_eq_false h2)) ?_
  refine dr_op rfl rfl (opr_pickT rfl rfl rfl) ?_
  refine dr_last rfl rfl (opr_assign rfl rfl) ?_
  refine ⟨rfl, ?_⟩
  refine at_then ?_
  refine at_ret ?_
  refine done_of (res1 Tryd.results17 (res_tmp rfl)) ⟨rfl, rfl⟩ (by repeat (first | exact List.Sublist.refl _ | apply List.Sublist.cons))
theorem sIsF_ct {M : Mem} {X Y Z x y : Nat} (hX : X < RR) (hY : Y < RR) (hZ : Z < RR) (hx : x < RR) (hy : y < RR) (h1 : ¬ x * Z % pp = X % pp) : Ct Tryd.prog 17 #[.agg (NN [X, Y, Z]).toArray, .agg (E x).toArray, .agg (E y).toArray] M (Det (.bool false) M) := by
  refine ct_of (vs := [.agg (NN [X, Y, Z]).toArray, .agg (E x).toArray, .agg (E y).toArray]) Tryd.func17 rfl Tryd.ntmps17 rfl fun w0 => ?_
  refine at_seq ?_
  refine at_region ?_
  refine at_n rfl rfl (opr_box rfl rfl rfl) ?_
  intro g0
  refine at_n rfl rfl (opr_box (cs := EE [x]) rfl rfl (E_box _)) ?_
  intro g1
  refine at_n rfl rfl (opr_box (cs := EE [y]) rfl rfl (E_box _)) ?_
  intro g2
  refine at_d rfl rfl (opr_assign rfl rfl) ?_
  refine at_nil ?_
  refine at_then ?_
  refine at_seq ?_
  refine at_drawQ (by kernel_rfl) (by kernel_rfl) (List.cons_ne_nil _ _) ?_
  refine dr_op rfl rfl (opr_load (i := 1) rfl rfl rfl Tryd.underlying22 rfl size22 (E_length _) (EE_at (k := 0) rfl rfl rfl)) ?_
  refine dr_op rfl rfl (opr_call rfl rfl rfl Tryd.func20 (by kernel_rfl) rfl (of_ct _)) ?_
  refine dr_op rfl rfl (opr_fieldAddr rfl rfl Tryd.underlying33 rfl size31 rfl rfl) ?_
  refine dr_op rfl rfl (opr_load (i := 2) rfl rfl rfl Tryd.underlying31 rfl size31 (N_length _) (NN_at (k := 2) rfl rfl rfl)) ?_
  refine dr_op rfl rfl (opr_call rfl rfl rfl Tryd.func22 (by kernel_rfl) rfl (sMul_ct hx hZ)) ?_
  refine dr_op rfl rfl (opr_fieldAddr rfl rfl Tryd.underlying33 rfl size31 rfl rfl) ?_
  refine dr_op rfl rfl (opr_load (i := 2) rfl rfl rfl Tryd.underlying31 rfl size31 (N_length _) (NN_at (k := 0) rfl rfl rfl)) ?_
  refine dr_op rfl rfl (opr_call rfl rfl rfl Tryd.func42 (by kernel_rfl) rfl (mod_ct hX)) ?_
  refine dr_op rfl rfl (opr_eqlNb (t := false) rfl rfl rfl Tryd.underlying31 Tryd.underlying29 size29 (by kernel_rfl) (modp_lt _) (modp_lt _) (decide_eq_false h1)) ?_
  refine dr_op rfl rfl (opr_move rfl rfl) ?_
  refine dr_skip rfl rfl ?_
  refine dr_skip rfl rfl ?_
  refine dr_skip rfl rfl ?_
  refine dr_skip rfl rfl ?_
  refine dr_skip rfl rfl ?_
  refine dr_skip rfl rfl ?_
  refine dr_skip rfl rfl ?_
  refine dr_skip rfl rfl ?_
  refine dr_skip rfl rfl ?_
  refine dr_op rfl rfl (opr_pickN rfl rfl rfl) ?_
  refine dr_last rfl rfl (opr_assign rfl rfl) ?_
  refine ⟨rfl, ?_⟩
  refine at_then ?_
  refine at_ret ?_
  refine done_of (res1 Tryd.results17 (res_tmp rfl)) ⟨rfl, rfl⟩ (by repeat (first | exact List.Sublist.refl _ | apply List.Sublist.cons))
theorem sIs_ct {M : Mem} {X Y Z x y : Nat} (hX : X < RR) (hY : Y < RR) (hZ : Z < RR) (hx : x < RR) (hy : y < RR) : Ct Tryd.prog 17 #[.agg (NN [X, Y, Z]).toArray, .agg (E x).toArray, .agg (E y).toArray] M (Det (.bool (isB X Y Z x y)) M) := by
  unfold isB
  by_cases h1 : x * Z % pp = X % pp
  · by_cases h2 : y * Z % pp = Y % pp
    · rw [decide_eq_true h1, decide_eq_true h2]; exact sIsTT_ct hX hY hZ hx hy h1 h2
    · rw [decide_eq_true h1, decide_eq_false h2]; exact sIsTF_ct hX hY hZ hx hy h1 h2
  · rw [decide_eq_false h1]; exact sIsF_ct hX hY hZ hx hy h1
theorem sPlus_ct {M : Mem} {x1 y1 z1 x2 y2 z2 : Nat} (hx1 : x1 < RR) (hy1 : y1 < RR) (hz1 : z1 < RR) (hx2 : x2 < RR) (hy2 : y2 < RR) (hz2 : z2 < RR) : Ct Tryd.prog 38 #[.agg (NN [x1, y1, z1]).toArray, .agg (NN [x2, y2, z2]).toArray] M (Det (.agg (NN [plX x1 y1 z1 x2 y2 z2, plY x1 y1 z1 x2 y2 z2, plZ x1 y1 z1 x2 y2 z2]).toArray) M) := by
  refine ct_of (vs := [.agg (NN [x1, y1, z1]).toArray, .agg (NN [x2, y2, z2]).toArray]) Tryd.func38 rfl Tryd.ntmps38 rfl fun w0 => ?_
  refine at_seq ?_
  refine at_region ?_
  refine at_n rfl rfl (opr_box rfl rfl rfl) ?_
  intro g0
  refine at_n rfl rfl (opr_box rfl rfl rfl) ?_
  intro g1
  refine at_n rfl rfl (opr_alloc rfl zero33 rfl) ?_
  intro g2
  refine at_nil ?_
  refine at_then ?_
  refine at_seq ?_
  refine at_region ?_
  refine at_d rfl rfl (opr_fieldAddr rfl rfl Tryd.underlying33 rfl size31 rfl rfl) ?_
  refine at_d rfl rfl (opr_load (i := 2) rfl rfl rfl Tryd.underlying31 rfl size31 (N_length _) (NN_at (k := 2) rfl rfl rfl)) ?_
  refine at_d rfl rfl (opr_fieldAddr rfl rfl Tryd.underlying33 rfl size31 rfl rfl) ?_
  refine at_d rfl rfl (opr_load (i := 1) rfl rfl rfl Tryd.underlying31 rfl size31 (N_length _) (NN_at (k := 2) rfl rfl rfl)) ?_
  refine at_d rfl rfl (opr_call rfl rfl rfl Tryd.func22 (by kernel_rfl) rfl (sMul_ct hz1 hz2)) ?_
  refine at_n rfl rfl (opr_alloc rfl zero31 rfl) ?_
  intro g3
  refine at_d rfl rfl (opr_store (i := 0) rfl rfl rfl rfl rfl size31 (N_length _) (by rw [N_length]; decide) (N_flat _) N_over) ?_
  refine at_nil ?_
  refine (show At _ _ (⟨g3, 31, N ((plA z1 z2))⟩ :: ⟨g2, 33, NN [0, 0, 0]⟩ :: ⟨g1, 33, NN [x2, y2, z2]⟩ :: ⟨g0, 33, NN [x1, y1, z1]⟩ :: _) _ from ?_)
  refine at_then ?_
  refine at_seq ?_
  refine at_region ?_
  refine at_d rfl rfl (opr_load (i := 0) rfl rfl rfl Tryd.underlying31 rfl size31 (N_length _) (N_at _)) ?_
  refine at_d rfl rfl (opr_load (i := 0) rfl rfl rfl Tryd.underlying31 rfl size31 (N_length _) (N_at _)) ?_
  refine at_d rfl rfl (opr_call rfl rfl rfl Tryd.func22 (by kernel_rfl) rfl (sMul_ct (plA_lt _ _) (plA_lt _ _))) ?_
  refine at_n rfl rfl (opr_alloc rfl zero31 rfl) ?_
  intro g4
  refine at_d rfl rfl (opr_store (i := 0) rfl rfl rfl rfl rfl size31 (N_length _) (by rw [N_length]; decide) (N_flat _) N_over) ?_
  refine at_nil ?_
  refine at_then ?_
  refine at_seq ?_
  refine at_drawG (B := [⟨g4, 31, N (((plA z1 z2) * (plA z1 z2) % pp))⟩, ⟨g3, 31, N ((plA z1 z2))⟩, ⟨g2, 33, NN [0, 0, 0]⟩, ⟨g1, 33, NN [x2, y2, z2]⟩, ⟨g0, 33, NN [x1, y1, z1]⟩]) (E := [⟨.pure [], 0, [], .v (.pointer (some ⟨g0, 0, none⟩))⟩, ⟨.pure [4], 0, [], .v (.agg (N (x1)).toArray)⟩, ⟨.pure [], 0, [], .v (.pointer (some ⟨g1, 0, none⟩))⟩, ⟨.pure [3], 0, [], .v (.agg (N (x2)).toArray)⟩, ⟨.pure [], 0, [], .v (.agg (N ((x1 * x2 % pp))).toArray)⟩, ⟨.pure [], 0, [], .v (.pointer (some ⟨g0, 28, none⟩))⟩, ⟨.pure [4], 0, [], .v (.agg (N (y1)).toArray)⟩, ⟨.pure [], 0, [], .v (.pointer (some ⟨g1, 28, none⟩))⟩, ⟨.pure [3], 0, [], .v (.agg (N (y2)).toArray)⟩, ⟨.pure [], 0, [], .v (.agg (N ((y1 * y2 % pp))).toArray)⟩, ⟨.alloc, 31, N (0), .p 10 0⟩, ⟨.alloc, 31, N (0), .p 11 0⟩, ⟨.storeA 10, 0, N ((x1 * x2 % pp)), .v undef⟩, ⟨.storeA 11, 0, N ((y1 * y2 % pp)), .v undef⟩]) (by kernel_rfl) (by kernel_rfl) (by kernel_rfl) (fun γ0 => ?_)
  refine gs_pure rfl rfl (fun M' sB sT => ?_) ?_
  · exact opr_fieldAddr rfl rfl Tryd.underlying33 rfl size31 rfl rfl
  refine gs_pure rfl rfl (fun M' sB sT => ?_) ?_
  · obtain ⟨iB4, hB4⟩ := sB 4 _ rfl rfl; exact opr_load (i := iB4) rfl rfl hB4 Tryd.underlying31 rfl size31 (N_length _) (NN_at (k := 0) rfl rfl rfl)
  refine gs_pure rfl rfl (fun M' sB sT => ?_) ?_
  · exact opr_fieldAddr rfl rfl Tryd.underlying33 rfl size31 rfl rfl
  refine gs_pure rfl rfl (fun M' sB sT => ?_) ?_
  · obtain ⟨iB3, hB3⟩ := sB 3 _ rfl rfl; exact opr_load (i := iB3) rfl rfl hB3 Tryd.underlying31 rfl size31 (N_length _) (NN_at (k := 0) rfl rfl rfl)
  refine gs_pure rfl rfl (fun M' sB sT => ?_) ?_
  · exact opr_call rfl rfl rfl Tryd.func22 (by kernel_rfl) rfl (sMul_ct hx1 hx2)
  refine gs_pure rfl rfl (fun M' sB sT => ?_) ?_
  · exact opr_fieldAddr rfl rfl Tryd.underlying33 rfl size31 rfl rfl
  refine gs_pure rfl rfl (fun M' sB sT => ?_) ?_
  · obtain ⟨iB4, hB4⟩ := sB 4 _ rfl rfl; exact opr_load (i := iB4) rfl rfl hB4 Tryd.underlying31 rfl size31 (N_length _) (NN_at (k := 1) rfl rfl rfl)
  refine gs_pure rfl rfl (fun M' sB sT => ?_) ?_
  · exact opr_fieldAddr rfl rfl Tryd.underlying33 rfl size31 rfl rfl
  refine gs_pure rfl rfl (fun M' sB sT => ?_) ?_
  · obtain ⟨iB3, hB3⟩ := sB 3 _ rfl rfl; exact opr_load (i := iB3) rfl rfl hB3 Tryd.underlying31 rfl size31 (N_length _) (NN_at (k := 1) rfl rfl rfl)
  refine gs_pure rfl rfl (fun M' sB sT => ?_) ?_
  · exact opr_call rfl rfl rfl Tryd.func22 (by kernel_rfl) rfl (sMul_ct hy1 hy2)
  refine gs_alloc rfl rfl (fun M' => opr_alloc rfl zero31 rfl) ?_
  refine gs_alloc rfl rfl (fun M' => opr_alloc rfl zero31 rfl) ?_
  refine gs_storeA rfl rfl rfl rfl rfl (fun M' j hj => opr_store (i := j) rfl rfl rfl rfl hj size31 (N_length _) (by rw [N_length]; decide) (N_flat _) N_over) ?_
  refine gs_storeA rfl rfl rfl rfl rfl (fun M' j hj => opr_store (i := j) rfl rfl rfl rfl hj size31 (N_length _) (by rw [N_length]; decide) (N_flat _) N_over) ?_
  refine gs_nil ?_
  refine (show At _ _ (⟨(γ0 11), 31, N ((y1 * y2 % pp))⟩ :: ⟨(γ0 10), 31, N ((x1 * x2 % pp))⟩ :: ⟨g4, 31, N (((plA z1 z2) * (plA z1 z2) % pp))⟩ :: ⟨g3, 31, N ((plA z1 z2))⟩ :: ⟨g2, 33, NN [0, 0, 0]⟩ :: ⟨g1, 33, NN [x2, y2, z2]⟩ :: ⟨g0, 33, NN [x1, y1, z1]⟩ :: _) _ from ?_)
  refine at_then ?_
  refine at_seq ?_
  refine at_region ?_
  refine at_d rfl rfl (opr_load (i := 1) rfl rfl rfl Tryd.underlying31 rfl size31 (N_length _) (N_at _)) ?_
  refine at_d rfl rfl (opr_load (i := 0) rfl rfl rfl Tryd.underlying31 rfl size31 (N_length _) (N_at _)) ?_
  refine at_d rfl rfl (opr_call rfl rfl rfl Tryd.func22 (by kernel_rfl) rfl (sMul_ct (modp_lt _) (modp_lt _))) ?_
  refine at_d rfl rfl (opr_call rfl rfl rfl Tryd.func52 (by kernel_rfl) rfl (curved_ct (modp_lt _))) ?_
  refine at_n rfl rfl (opr_alloc rfl zero31 rfl) ?_
  intro g5
  refine at_d rfl rfl (opr_store (i := 0) rfl rfl rfl rfl rfl size31 (N_length _) (by rw [N_length]; decide) (N_flat _) N_over) ?_
  refine at_nil ?_
  refine (show At _ _ (⟨g5, 31, N ((plE x1 y1 x2 y2))⟩ :: ⟨(γ0 11), 31, N ((y1 * y2 % pp))⟩ :: ⟨(γ0 10), 31, N ((x1 * x2 % pp))⟩ :: ⟨g4, 31, N (((plA z1 z2) * (plA z1 z2) % pp))⟩ :: ⟨g3, 31, N ((plA z1 z2))⟩ :: ⟨g2, 33, NN [0, 0, 0]⟩ :: ⟨g1, 33, NN [x2, y2, z2]⟩ :: ⟨g0, 33, NN [x1, y1, z1]⟩ :: _) _ from ?_)
  refine at_then ?_
  refine at_seq ?_
  refine at_drawG (B := [⟨g5, 31, N ((plE x1 y1 x2 y2))⟩, ⟨(γ0 11), 31, N ((y1 * y2 % pp))⟩, ⟨(γ0 10), 31, N ((x1 * x2 % pp))⟩, ⟨g4, 31, N (((plA z1 z2) * (plA z1 z2) % pp))⟩, ⟨g3, 31, N ((plA z1 z2))⟩, ⟨g2, 33, NN [0, 0, 0]⟩, ⟨g1, 33, NN [x2, y2, z2]⟩, ⟨g0, 33, NN [x1, y1, z1]⟩]) (E := [⟨.pure [3], 0, [], .v (.agg (N (((plA z1 z2) * (plA z1 z2) % pp))).toArray)⟩, ⟨.pure [0], 0, [], .v (.agg (N ((plE x1 y1 x2 y2))).toArray)⟩, ⟨.pure [], 0, [], .v (.agg (N (((((plA z1 z2) * (plA z1 z2) % pp) + negp (plE x1 y1 x2 y2)) % pp))).toArray)⟩, ⟨.pure [3], 0, [], .v (.agg (N (((plA z1 z2) * (plA z1 z2) % pp))).toArray)⟩, ⟨.pure [0], 0, [], .v (.agg (N ((plE x1 y1 x2 y2))).toArray)⟩, ⟨.pure [], 0, [], .v (.agg (N (((((plA z1 z2) * (plA z1 z2) % pp) + (plE x1 y1 x2 y2)) % pp))).toArray)⟩, ⟨.alloc, 31, N (0), .p 6 0⟩, ⟨.alloc, 31, N (0), .p 7 0⟩, ⟨.storeA 6, 0, N (((((plA z1 z2) * (plA z1 z2) % pp) + negp (plE x1 y1 x2 y2)) % pp)), .v undef⟩, ⟨.storeA 7, 0, N (((((plA z1 z2) * (plA z1 z2) % pp) + (plE x1 y1 x2 y2)) % pp)), .v undef⟩]) (by kernel_rfl) (by kernel_rfl) (by kernel_rfl) (fun γ1 => ?_)
  refine gs_pure rfl rfl (fun M' sB sT => ?_) ?_
  · obtain ⟨iB3, hB3⟩ := sB 3 _ rfl rfl; exact opr_load (i := iB3) rfl rfl hB3 Tryd.underlying31 rfl size31 (N_length _) (N_at _)
  refine gs_pure rfl rfl (fun M' sB sT => ?_) ?_
  · obtain ⟨iB0, hB0⟩ := sB 0 _ rfl rfl; exact opr_load (i := iB0) rfl rfl hB0 Tryd.underlying31 rfl size31 (N_length _) (N_at _)
  refine gs_pure rfl rfl (fun M' sB sT => ?_) ?_
  · exact opr_call rfl rfl rfl Tryd.func50 (by kernel_rfl) rfl (sSub_ct (modp_lt _) (plE_lt _ _ _ _))
  refine gs_pure rfl rfl (fun M' sB sT => ?_) ?_
  · obtain ⟨iB3, hB3⟩ := sB 3 _ rfl rfl; exact opr_load (i := iB3) rfl rfl hB3 Tryd.underlying31 rfl size31 (N_length _) (N_at _)
  refine gs_pure rfl rfl (fun M' sB sT => ?_) ?_
  · obtain ⟨iB0, hB0⟩ := sB 0 _ rfl rfl; exact opr_load (i := iB0) rfl rfl hB0 Tryd.underlying31 rfl size31 (N_length _) (N_at _)
  refine gs_pure rfl rfl (fun M' sB sT => ?_) ?_
  · exact opr_call rfl rfl rfl Tryd.func64 (by kernel_rfl) rfl (sAdd_ct (modp_lt _) (plE_lt _ _ _ _))
  refine gs_alloc rfl rfl (fun M' => opr_alloc rfl zero31 rfl) ?_
  refine gs_alloc rfl rfl (fun M' => opr_alloc rfl zero31 rfl) ?_
  refine gs_storeA rfl rfl rfl rfl rfl (fun M' j hj => opr_store (i := j) rfl rfl rfl rfl hj size31 (N_length _) (by rw [N_length]; decide) (N_flat _) N_over) ?_
  refine gs_storeA rfl rfl rfl rfl rfl (fun M' j hj => opr_store (i := j) rfl rfl rfl rfl hj size31 (N_length _) (by rw [N_length]; decide) (N_flat _) N_over) ?_
  refine gs_nil ?_
  refine (show At _ _ (⟨(γ1 7), 31, N (((((plA z1 z2) * (plA z1 z2) % pp) + (plE x1 y1 x2 y2)) % pp))⟩ :: ⟨(γ1 6), 31, N (((((plA z1 z2) * (plA z1 z2) % pp) + negp (plE x1 y1 x2 y2)) % pp))⟩ :: ⟨g5, 31, N ((plE x1 y1 x2 y2))⟩ :: ⟨(γ0 11), 31, N ((y1 * y2 % pp))⟩ :: ⟨(γ0 10), 31, N ((x1 * x2 % pp))⟩ :: ⟨g4, 31, N (((plA z1 z2) * (plA z1 z2) % pp))⟩ :: ⟨g3, 31, N ((plA z1 z2))⟩ :: ⟨g2, 33, NN [0, 0, 0]⟩ :: ⟨g1, 33, NN [x2, y2, z2]⟩ :: ⟨g0, 33, NN [x1, y1, z1]⟩ :: _) _ from ?_)
  refine (show At _ _ (⟨(γ1 7), 31, N (((((plA z1 z2) * (plA z1 z2) % pp) + (plE x1 y1 x2 y2)) % pp))⟩ :: ⟨(γ1 6), 31, N ((plF x1 y1 z1 x2 y2 z2))⟩ :: ⟨g5, 31, N ((plE x1 y1 x2 y2))⟩ :: ⟨(γ0 11), 31, N ((y1 * y2 % pp))⟩ :: ⟨(γ0 10), 31, N ((x1 * x2 % pp))⟩ :: ⟨g4, 31, N (((plA z1 z2) * (plA z1 z2) % pp))⟩ :: ⟨g3, 31, N ((plA z1 z2))⟩ :: ⟨g2, 33, NN [0, 0, 0]⟩ :: ⟨g1, 33, NN [x2, y2, z2]⟩ :: ⟨g0, 33, NN [x1, y1, z1]⟩ :: _) _ from ?_)
  refine (show At _ _ (⟨(γ1 7), 31, N ((plG x1 y1 z1 x2 y2 z2))⟩ :: ⟨(γ1 6), 31, N ((plF x1 y1 z1 x2 y2 z2))⟩ :: ⟨g5, 31, N ((plE x1 y1 x2 y2))⟩ :: ⟨(γ0 11), 31, N ((y1 * y2 % pp))⟩ :: ⟨(γ0 10), 31, N ((x1 * x2 % pp))⟩ :: ⟨g4, 31, N (((plA z1 z2) * (plA z1 z2) % pp))⟩ :: ⟨g3, 31, N ((plA z1 z2))⟩ :: ⟨g2, 33, NN [0, 0, 0]⟩ :: ⟨g1, 33, NN [x2, y2, z2]⟩ :: ⟨g0, 33, NN [x1, y1, z1]⟩ :: _) _ from ?_)
  refine at_then ?_
  refine at_seq ?_
  refine at_drawG (B := [⟨(γ1 7), 31, N ((plG x1 y1 z1 x2 y2 z2))⟩, ⟨(γ1 6), 31, N ((plF x1 y1 z1 x2 y2 z2))⟩, ⟨g5, 31, N ((plE x1 y1 x2 y2))⟩, ⟨(γ0 11), 31, N ((y1 * y2 % pp))⟩, ⟨(γ0 10), 31, N ((x1 * x2 % pp))⟩, ⟨g4, 31, N (((plA z1 z2) * (plA z1 z2) % pp))⟩, ⟨g3, 31, N ((plA z1 z2))⟩, ⟨g2, 33, NN [0, 0, 0]⟩, ⟨g1, 33, NN [x2, y2, z2]⟩, ⟨g0, 33, NN [x1, y1, z1]⟩]) (E := [⟨.pure [], 0, [], .v (.pointer (some ⟨g0, 0, none⟩))⟩, ⟨.pure [9], 0, [], .v (.agg (N (x1)).toArray)⟩, ⟨.pure [], 0, [], .v (.pointer (some ⟨g0, 28, none⟩))⟩, ⟨.pure [9], 0, [], .v (.agg (N (y1)).toArray)⟩, ⟨.pure [], 0, [], .v (.agg (N (((x1 + y1) % pp))).toArray)⟩, ⟨.pure [], 0, [], .v (.pointer (some ⟨g1, 0, none⟩))⟩, ⟨.pure [8], 0, [], .v (.agg (N (x2)).toArray)⟩, ⟨.pure [], 0, [], .v (.pointer (some ⟨g1, 28, none⟩))⟩, ⟨.pure [8], 0, [], .v (.agg (N (y2)).toArray)⟩, ⟨.pure [], 0, [], .v (.agg (N (((x2 + y2) % pp))).toArray)⟩, ⟨.pure [], 0, [], .v (.agg (N ((((x1 + y1) % pp) * ((x2 + y2) % pp) % pp))).toArray)⟩, ⟨.pure [4], 0, [], .v (.agg (N ((x1 * x2 % pp))).toArray)⟩, ⟨.pure [], 0, [], .v (.agg (N ((((((x1 + y1) % pp) * ((x2 + y2) % pp) % pp) + negp (x1 * x2 % pp)) % pp))).toArray)⟩, ⟨.pure [3], 0, [], .v (.agg (N ((y1 * y2 % pp))).toArray)⟩, ⟨.pure [], 0, [], .v (.agg (N ((((((((x1 + y1) % pp) * ((x2 + y2) % pp) % pp) + negp (x1 * x2 % pp)) % pp) + negp (y1 * y2 % pp)) % pp))).toArray)⟩, ⟨.alloc, 31, N (0), .p 15 0⟩, ⟨.storeA 15, 0, N ((((((((x1 + y1) % pp) * ((x2 + y2) % pp) % pp) + negp (x1 * x2 % pp)) % pp) + negp (y1 * y2 % pp)) % pp)), .v undef⟩]) (by kernel_rfl) (by kernel_rfl) (by kernel_rfl) (fun γ2 => ?_)
  refine gs_pure rfl rfl (fun M' sB sT => ?_) ?_
  · exact opr_fieldAddr rfl rfl Tryd.underlying33 rfl size31 rfl rfl
  refine gs_pure rfl rfl (fun M' sB sT => ?_) ?_
  · obtain ⟨iB9, hB9⟩ := sB 9 _ rfl rfl; exact opr_load (i := iB9) rfl rfl hB9 Tryd.underlying31 rfl size31 (N_length _) (NN_at (k := 0) rfl rfl rfl)
  refine gs_pure rfl rfl (fun M' sB sT => ?_) ?_
  · exact opr_fieldAddr rfl rfl Tryd.underlying33 rfl size31 rfl rfl
  refine gs_pure rfl rfl (fun M' sB sT => ?_) ?_
  · obtain ⟨iB9, hB9⟩ := sB 9 _ rfl rfl; exact opr_load (i := iB9) rfl rfl hB9 Tryd.underlying31 rfl size31 (N_length _) (NN_at (k := 1) rfl rfl rfl)
  refine gs_pure rfl rfl (fun M' sB sT => ?_) ?_
  · exact opr_call rfl rfl rfl Tryd.func64 (by kernel_rfl) rfl (sAdd_ct hx1 hy1)
  refine gs_pure rfl rfl (fun M' sB sT => ?_) ?_
  · exact opr_fieldAddr rfl rfl Tryd.underlying33 rfl size31 rfl rfl
  refine gs_pure rfl rfl (fun M' sB sT => ?_) ?_
  · obtain ⟨iB8, hB8⟩ := sB 8 _ rfl rfl; exact opr_load (i := iB8) rfl rfl hB8 Tryd.underlying31 rfl size31 (N_length _) (NN_at (k := 0) rfl rfl rfl)
  refine gs_pure rfl rfl (fun M' sB sT => ?_) ?_
  · exact opr_fieldAddr rfl rfl Tryd.underlying33 rfl size31 rfl rfl
  refine gs_pure rfl rfl (fun M' sB sT => ?_) ?_
  · obtain ⟨iB8, hB8⟩ := sB 8 _ rfl rfl; exact opr_load (i := iB8) rfl rfl hB8 Tryd.underlying31 rfl size31 (N_length _) (NN_at (k := 1) rfl rfl rfl)
  refine gs_pure rfl rfl (fun M' sB sT => ?_) ?_
  · exact opr_call rfl rfl rfl Tryd.func64 (by kernel_rfl) rfl (sAdd_ct hx2 hy2)
  refine gs_pure rfl rfl (fun M' sB sT => ?_) ?_
  · exact opr_call rfl rfl rfl Tryd.func22 (by kernel_rfl) rfl (sMul_ct (modp_lt _) (modp_lt _))
  refine gs_pure rfl rfl (fun M' sB sT => ?_) ?_
  · obtain ⟨iB4, hB4⟩ := sB 4 _ rfl rfl; exact opr_load (i := iB4) rfl rfl hB4 Tryd.underlying31 rfl size31 (N_length _) (N_at _)
  refine gs_pure rfl rfl (fun M' sB sT => ?_) ?_
  · exact opr_call rfl rfl rfl Tryd.func50 (by kernel_rfl) rfl (sSub_ct (modp_lt _) (modp_lt _))
  refine gs_pure rfl rfl (fun M' sB sT => ?_) ?_
  · obtain ⟨iB3, hB3⟩ := sB 3 _ rfl rfl; exact opr_load (i := iB3) rfl rfl hB3 Tryd.underlying31 rfl size31 (N_length _) (N_at _)
  refine gs_pure rfl rfl (fun M' sB sT => ?_) ?_
  · exact opr_call rfl rfl rfl Tryd.func50 (by kernel_rfl) rfl (sSub_ct (modp_lt _) (modp_lt _))
  refine gs_alloc rfl rfl (fun M' => opr_alloc rfl zero31 rfl) ?_
  refine gs_storeA rfl rfl rfl rfl rfl (fun M' j hj => opr_store (i := j) rfl rfl rfl rfl hj size31 (N_length _) (by rw [N_length]; decide) (N_flat _) N_over) ?_
  refine gs_nil ?_
  refine (show At _ _ (⟨(γ2 15), 31, N ((((((((x1 + y1) % pp) * ((x2 + y2) % pp) % pp) + negp (x1 * x2 % pp)) % pp) + negp (y1 * y2 % pp)) % pp))⟩ :: ⟨(γ1 7), 31, N ((plG x1 y1 z1 x2 y2 z2))⟩ :: ⟨(γ1 6), 31, N ((plF x1 y1 z1 x2 y2 z2))⟩ :: ⟨g5, 31, N ((plE x1 y1 x2 y2))⟩ :: ⟨(γ0 11), 31, N ((y1 * y2 % pp))⟩ :: ⟨(γ0 10), 31, N ((x1 * x2 % pp))⟩ :: ⟨g4, 31, N (((plA z1 z2) * (plA z1 z2) % pp))⟩ :: ⟨g3, 31, N ((plA z1 z2))⟩ :: ⟨g2, 33, NN [0, 0, 0]⟩ :: ⟨g1, 33, NN [x2, y2, z2]⟩ :: ⟨g0, 33, NN [x1, y1, z1]⟩ :: _) _ from ?_)
  refine (show At _ _ (⟨(γ2 15), 31, N ((plH x1 y1 x2 y2))⟩ :: ⟨(γ1 7), 31, N ((plG x1 y1 z1 x2 y2 z2))⟩ :: ⟨(γ1 6), 31, N ((plF x1 y1 z1 x2 y2 z2))⟩ :: ⟨g5, 31, N ((plE x1 y1 x2 y2))⟩ :: ⟨(γ0 11), 31, N ((y1 * y2 % pp))⟩ :: ⟨(γ0 10), 31, N ((x1 * x2 % pp))⟩ :: ⟨g4, 31, N (((plA z1 z2) * (plA z1 z2) % pp))⟩ :: ⟨g3, 31, N ((plA z1 z2))⟩ :: ⟨g2, 33, NN [0, 0, 0]⟩ :: ⟨g1, 33, NN [x2, y2, z2]⟩ :: ⟨g0, 33, NN [x1, y1, z1]⟩ :: _) _ from ?_)
  refine at_then ?_
  refine at_seq ?_
  refine at_draw (by kernel_rfl) (by kernel_rfl) (by kernel_rfl) (List.cons_ne_nil _ _) ?_
  refine dr_op rfl rfl (opr_load (i := 7) rfl rfl rfl Tryd.underlying31 rfl size31 (N_length _) (N_at _)) ?_
  refine dr_op rfl rfl (opr_load (i := 2) rfl rfl rfl Tryd.underlying31 rfl size31 (N_length _) (N_at _)) ?_
  refine dr_op rfl rfl (opr_load (i := 0) rfl rfl rfl Tryd.underlying31 rfl size31 (N_length _) (N_at _)) ?_
  refine dr_op rfl rfl (opr_call rfl rfl rfl Tryd.func22 (by kernel_rfl) rfl (sMul_ct (plF_lt _ _ _ _ _ _) (plH_lt _ _ _ _))) ?_
  refine dr_op rfl rfl (opr_call rfl rfl rfl Tryd.func22 (by kernel_rfl) rfl (sMul_ct (plA_lt _ _) (modp_lt _))) ?_
  refine dr_op rfl rfl (opr_load (i := 7) rfl rfl rfl Tryd.underlying31 rfl size31 (N_length _) (N_at _)) ?_
  refine dr_op rfl rfl (opr_load (i := 1) rfl rfl rfl Tryd.underlying31 rfl size31 (N_length _) (N_at _)) ?_
  refine dr_op rfl rfl (opr_load (i := 4) rfl rfl rfl Tryd.underlying31 rfl size31 (N_length _) (N_at _)) ?_
  refine dr_op rfl rfl (opr_load (i := 5) rfl rfl rfl Tryd.underlying31 rfl size31 (N_length _) (N_at _)) ?_
  refine dr_op rfl rfl (opr_call rfl rfl rfl Tryd.func50 (by kernel_rfl) rfl (sSub_ct (modp_lt _) (modp_lt _))) ?_
  refine dr_op rfl rfl (opr_call rfl rfl rfl Tryd.func22 (by kernel_rfl) rfl (sMul_ct (plG_lt _ _ _ _ _ _) (modp_lt _))) ?_
  refine dr_op rfl rfl (opr_call rfl rfl rfl Tryd.func22 (by kernel_rfl) rfl (sMul_ct (plA_lt _ _) (modp_lt _))) ?_
  refine dr_op rfl rfl (opr_load (i := 2) rfl rfl rfl Tryd.underlying31 rfl size31 (N_length _) (N_at _)) ?_
  refine dr_op rfl rfl (opr_load (i := 1) rfl rfl rfl Tryd.underlying31 rfl size31 (N_length _) (N_at _)) ?_
  refine dr_op rfl rfl (opr_call rfl rfl rfl Tryd.func22 (by kernel_rfl) rfl (sMul_ct (plF_lt _ _ _ _ _ _) (plG_lt _ _ _ _ _ _))) ?_
  refine dr_op rfl rfl (opr_buildE (ds := NN [((plA z1 z2) * ((plF x1 y1 z1 x2 y2 z2) * (plH x1 y1 x2 y2) % pp) % pp), ((plA z1 z2) * ((plG x1 y1 z1 x2 y2 z2) * (((y1 * y2 % pp) + negp (x1 * x2 % pp)) % pp) % pp) % pp), ((plF x1 y1 z1 x2 y2 z2) * (plG x1 y1 z1 x2 y2 z2) % pp)]) rfl rfl (builtp33 [(0, ((plA z1 z2) * ((plF x1 y1 z1 x2 y2 z2) * (plH x1 y1 x2 y2) % pp) % pp)), (1, ((plA z1 z2) * ((plG x1 y1 z1 x2 y2 z2) * (((y1 * y2 % pp) + negp (x1 * x2 % pp)) % pp) % pp) % pp)), (2, ((plF x1 y1 z1 x2 y2 z2) * (plG x1 y1 z1 x2 y2 z2) % pp))] rfl) rfl) ?_
  refine dr_last rfl rfl (opr_store (i := 8) rfl rfl rfl rfl rfl size33 (NN_length _) (by rw [NN_length]; exact Nat.le_of_ble_eq_true rfl) (NN_flat _) (NN_over rfl)) ?_
  refine at_then ?_
  refine at_ret ?_
  refine done_of (res1 Tryd.results38 (res_cell (i := 8) rfl rfl Tryd.underlying33 rfl size33 (NN_length _) (NN_all rfl))) ⟨rfl, rfl⟩ (by repeat (first | exact List.Sublist.refl _ | apply List.Sublist.cons))
theorem lessT_ct {M : Mem} {a b : Nat} (ha : a < RR) (hb : b < RR) (h : a < b) : Ct Tryd.prog 19 #[.agg (N a).toArray, .agg (N b).toArray] M (Det (.bool true) M) := by
  have k := less_ct (M := M) (a := a) (b := b) (RR_pow ▸ ha) (RR_pow ▸ hb)
  rw [decide_eq_true h] at k
  exact k
theorem told_ct {M : Mem} {X Y Z x y : Nat} (hX : X < RR) (hY : Y < RR) (hZ : Z < RR) (hx : x < pp) (hy : y < pp) (hR : Rep (el x) (el y) (el X) (el Y) (el Z)) : Ct Tryd.prog 31 #[.agg (EE [x, y]).toArray, .bool true, .agg (NN [X, Y, Z]).toArray] M (Det (.bool true) M) := by
  refine ct_of (vs := [.agg (EE [x, y]).toArray, .bool true, .agg (NN [X, Y, Z]).toArray]) Tryd.func31 rfl Tryd.ntmps31 rfl fun w0 => ?_
  refine at_seq ?_
  refine at_region ?_
  refine at_n rfl rfl (opr_box rfl rfl rfl) ?_
  intro g0
  refine at_n rfl rfl (opr_box rfl rfl rfl) ?_
  intro g1
  refine at_d rfl rfl (opr_assign rfl rfl) ?_
  refine at_nil ?_
  refine at_then ?_
  refine at_seq ?_
  refine at_region ?_
  refine at_d rfl rfl (opr_move rfl rfl) ?_
  refine at_d rfl rfl (opr_move rfl rfl) ?_
  refine at_d rfl rfl (opr_load (i := 0) rfl rfl rfl Tryd.underlying33 rfl size33 (NN_length _) (NN_all rfl)) ?_
  refine at_d rfl rfl (opr_fieldAddr rfl rfl Tryd.underlying24 rfl size22 rfl rfl) ?_
  refine at_d rfl rfl (opr_load (i := 1) rfl rfl rfl Tryd.underlying22 rfl size22 (E_length _) (EE_at (k := 0) rfl rfl rfl)) ?_
  refine at_d rfl rfl (opr_fieldAddr rfl rfl Tryd.underlying24 rfl size22 rfl rfl) ?_
  refine at_d rfl rfl (opr_load (i := 1) rfl rfl rfl Tryd.underlying22 rfl size22 (E_length _) (EE_at (k := 1) rfl rfl rfl)) ?_
  refine at_d rfl rfl (opr_call rfl rfl rfl Tryd.func17 (by kernel_rfl) rfl (sIsTT_ct hX hY hZ (pp_lt_RR hx) (pp_lt_RR hy) (isB_rep hR).1 (isB_rep hR).2)) ?_
  refine at_d rfl rfl (opr_pickT rfl rfl rfl) ?_
  refine at_d rfl rfl (opr_move rfl rfl) ?_
  refine at_d rfl rfl (opr_fieldAddr rfl rfl Tryd.underlying24 rfl size22 rfl rfl) ?_
  refine at_d rfl rfl (opr_load (i := 1) rfl rfl rfl Tryd.underlying22 rfl size22 (E_length _) (EE_at (k := 0) rfl rfl rfl)) ?_
  refine at_d rfl rfl (opr_call rfl rfl rfl Tryd.func20 (by kernel_rfl) rfl (of_ct _)) ?_
  refine at_d rfl rfl (opr_call rfl rfl rfl Tryd.func21 (by kernel_rfl) rfl (p_ct)) ?_
  refine at_d rfl rfl (opr_call rfl rfl rfl Tryd.func19 (by kernel_rfl) rfl (lessT_ct (pp_lt_RR hx) RR_pp hx)) ?_
  refine at_d rfl rfl (opr_pickT rfl rfl rfl) ?_
  refine at_d rfl rfl (opr_move rfl rfl) ?_
  refine at_d rfl rfl (opr_fieldAddr rfl rfl Tryd.underlying24 rfl size22 rfl rfl) ?_
  refine at_d rfl rfl (opr_load (i := 1) rfl rfl rfl Tryd.underlying22 rfl size22 (E_length _) (EE_at (k := 1) rfl rfl rfl)) ?_
  refine at_d rfl rfl (opr_call rfl rfl rfl Tryd.func20 (by kernel_rfl) rfl (of_ct _)) ?_
  refine at_d rfl rfl (opr_call rfl rfl rfl Tryd.func21 (by kernel_rfl) rfl (p_ct)) ?_
  refine at_d rfl rfl (opr_call rfl rfl rfl Tryd.func19 (by kernel_rfl) rfl (lessT_ct (pp_lt_RR hy) RR_pp hy)) ?_
  refine at_d rfl rfl (opr_pickT rfl rfl rfl) ?_
  refine at_d rfl rfl (opr_assign rfl rfl) ?_
  refine at_nil ?_
  refine at_then ?_
  refine at_ret ?_
  refine done_of (res1 Tryd.results31 (res_tmp rfl)) ⟨rfl, rfl⟩ (by repeat (first | exact List.Sublist.refl _ | apply List.Sublist.cons))
theorem on_ct {M : Mem} {il gl Tl n c : Nat} {l : List Nat} (hl : M[il]? = some ⟨gl, Tl, EE l⟩) (hn : l.length = 2 * n) (hll : ∀ x ∈ l, x < RR) (hn3 : n ≤ 1000) : Ct Tryd.prog 13 #[.slice (some ⟨gl, 0, none⟩) n c] M (Det (.bool (onAll l n)) M) := by
  refine ct_of (vs := [.slice (some ⟨gl, 0, none⟩) n c]) Tryd.func13 rfl Tryd.ntmps13 rfl fun w0 => ?_
  refine at_seq ?_
  refine at_region ?_
  refine at_d rfl rfl (opr_assign rfl rfl) ?_
  refine at_nil ?_
  refine at_then ?_
  refine at_seq ?_
  refine at_seq ?_
  refine at_region ?_
  refine at_d rfl rfl (opr_move rfl rfl) ?_
  refine at_d rfl rfl (opr_lenS rfl rfl Tryd.underlying61) ?_
  refine at_d rfl rfl (opr_move rfl rfl) ?_
  refine at_nil ?_
  refine at_then ?_
  refine at_block ?_
  refine at_loop (fun (x : Nat) => [(5, .slice (some ⟨gl, 0, none⟩) n c), (6, .int .i64 (n : Int)), (7, .int .i64 (x : Int))]) (fun (x : Nat) => M) (fun (x : Nat) => n - x) (fun (x : Nat) => x ≤ n ∧ ∀ j, j < x → onB (l.getD (2 * j) 0) (l.getD (2 * j + 1) 0) = true) 0 ⟨Nat.zero_le _, fun j hj => absurd hj (Nat.not_lt_zero _)⟩ (allIn ⟨rfl, rfl, rfl, trivial⟩) (List.Sublist.refl _) ?_
  rintro k ⟨hk, hk2⟩
  dsimp only
  refine at_seq ?_
  refine at_region ?_
  refine at_d rfl rfl (opr_lss (a := k) (b := n) rfl rfl rfl) ?_
  refine at_nil ?_
  refine at_then ?_
  refine at_seq ?_
  refine at_cond rfl (fun ht => ?_) (fun ht => ?_)
  ·
    have hlt : k < n := of_decide_eq_true ht
    refine at_skip ?_
    refine at_then ?_
    refine at_seq ?_
    refine at_block ?_
    refine at_seq ?_
    refine at_region ?_
    refine at_d rfl rfl (opr_indexAddrS (j := k) (off' := k * 112) rfl rfl rfl Tryd.underlying61 hlt size24 (Nat.zero_add _)) ?_
    refine at_d rfl rfl (opr_load (i := il) rfl rfl hl Tryd.underlying24 rfl size24 (EE_length _) (EE_pair (by omega) (Nat.mul_comm _ _))) ?_
    refine at_n rfl rfl (opr_alloc rfl zero24 rfl) ?_
    intro g0
    refine at_d rfl rfl (opr_store (i := 0) rfl rfl rfl rfl rfl size24 (EE_length _) (by rw [EE_length]; exact Nat.le_of_ble_eq_true rfl) (EE_flat _) (EE_over rfl)) ?_
    refine at_nil ?_
    refine at_then ?_
    refine at_seq ?_
    refine at_region ?_
    refine at_d rfl rfl (opr_fieldAddr rfl rfl Tryd.underlying24 rfl size22 rfl rfl) ?_
    refine at_d rfl rfl (opr_load (i := 0) rfl rfl rfl Tryd.underlying22 rfl size22 (E_length _) (EE_at (k := 0) rfl rfl rfl)) ?_
    refine at_d rfl rfl (opr_fieldAddr rfl rfl Tryd.underlying24 rfl size22 rfl rfl) ?_
    refine at_d rfl rfl (opr_load (i := 0) rfl rfl rfl Tryd.underlying22 rfl size22 (E_length _) (EE_at (k := 1) rfl rfl rfl)) ?_
    refine at_d rfl rfl (opr_call rfl rfl rfl Tryd.func33 (by kernel_rfl) rfl (isPoint_ct (getD_RR hll _) (getD_RR hll _))) ?_
    refine at_d rfl rfl (opr_unOp (u := .bool (!onB (l.getD (2 * k) 0) (l.getD (2 * k + 1) 0))) rfl rfl (fun _ => rfl)) ?_
    refine at_nil ?_
    refine at_then ?_
    refine at_cond rfl (fun ht2 => ?_) (fun ht2 => ?_)
    ·
      refine at_seq ?_
      refine at_region ?_
      refine at_d rfl rfl (opr_assign rfl rfl) ?_
      refine at_nil ?_
      refine at_then ?_
      refine at_ret ?_
      refine at_inBlock_ret ?_
      refine at_then_ret ?_
      refine at_then_ret ?_
      refine at_inBlock_ret ?_
      refine at_then_ret ?_
      have hF : onAll l n = false := decide_eq_false (fun hA => by have := hA k hlt; rw [this] at ht2; exact absurd ht2 (by decide))
      exact done_of (res1 Tryd.results13 (res_tmp rfl)) ⟨by rw [hF], rfl⟩ (by repeat (first | exact List.Sublist.refl _ | apply List.Sublist.cons))
    ·
      refine at_skip ?_
      refine at_inBlock_normal ?_
      refine at_then ?_
      refine at_region ?_
      refine at_d rfl rfl (opr_addI (a := k) (b := 1) rfl rfl rfl (by omega)) ?_
      refine at_d rfl rfl (opr_move rfl rfl) ?_
      refine at_nil ?_
      exact at_round (k + 1) ⟨by omega, fun j hj => by
        by_cases hjk : j = k
        · subst hjk; simpa using ht2
        · exact hk2 j (by omega)⟩ (by omega) (allIn ⟨rfl, rfl, rfl, trivial⟩) (by repeat (first | exact List.Sublist.refl _ | apply List.Sublist.cons))
  ·
    obtain rfl : k = n := by have := of_decide_eq_false ht; omega
    refine at_exit ?_
    refine at_then_exit ?_
    refine at_then_exit ?_
    refine at_inBlock_same ?_
    refine at_then ?_
    refine at_seq ?_
    refine at_region ?_
    refine at_d rfl rfl (opr_assign rfl rfl) ?_
    refine at_nil ?_
    refine at_then ?_
    refine at_ret ?_
    have hF : onAll l k = true := decide_eq_true hk2
    exact done_of (res1 Tryd.results13 (res_tmp rfl)) ⟨by rw [hF], rfl⟩ (by repeat (first | exact List.Sublist.refl _ | apply List.Sublist.cons))
theorem onAll_one {x y : Nat} : (!onAll [x, y] 1) = false → On (el dP) (el x) (el y) := by
  intro h
  have h := of_decide_eq_true (show onAll _ _ = true by simpa using h)
  exact onB_iff.1 (h 0 (by decide))
theorem onAll_two {x y a b : Nat} : (!onAll [x, y, a, b] 2) = false → On (el dP) (el x) (el y) ∧ On (el dP) (el a) (el b) := by
  intro h
  have h := of_decide_eq_true (show onAll _ _ = true by simpa using h)
  exact ⟨onB_iff.1 (h 0 (by decide)), onB_iff.1 (h 1 (by decide))⟩
theorem onAll_three {x y a b c d : Nat} : (!onAll [x, y, a, b, c, d] 3) = false → On (el dP) (el x) (el y) ∧ On (el dP) (el a) (el b) ∧ On (el dP) (el c) (el d) := by
  intro h
  have h := of_decide_eq_true (show onAll _ _ = true by simpa using h)
  exact ⟨onB_iff.1 (h 0 (by decide)), onB_iff.1 (h 1 (by decide)), onB_iff.1 (h 2 (by decide))⟩
theorem onAll_is {x y : Nat} : onAll [x, y] 1 = onB x y := by
  unfold onAll
  cases h : onB x y
  · exact decide_eq_false (fun hA => by have := hA 0 (by decide); exact absurd (h.symm.trans this) (by decide))
  · exact decide_eq_true (fun j hj => by obtain rfl : j = 0 := by omega
                                         exact h)
end Go.Proofs.YtjanppnnioeifaaDoor
