/- TwA, TwC, TwO, in one text. -/
import Derived.Test.YtjlhhcdefcofkaaGreatDoorPm
import Derived.Test.YtjlhhcdefcofkaaGreatDoorPtX
import Derived.Test.YtjlhhcdefcofkaaGreatDoorMove
import Derived.Test.YtjlhhcdefcofkaaGreatDoorPower
import Derived.Test.YtjlhhcdefcofkaaGreatDoorIface
import Derived.Test.YtjlhhcdefcofkaaGreatDoorFill
import Derived.Test.YtjlhhcdefcofkaaGreatDoorDrawA
import Derived.Test.YtjlhhcdefcofkaaGreatDoorScalC
/- Points of the other curve. -/
namespace Go.Proofs.YtjlhhcdefcofkaaGreatDoor
open Go
set_option maxRecDepth 100000
theorem size90 : (Tryz.prog.info? 90).map (·.size) = some 168 := by kernel_rfl
def dT : Nat := 726838724295606890549323807888004534353641360687318060281490199180612328166730772686396383698676545930088884461843637361053498018326357
theorem el_dT : el dT = el dP - 1 := by decide +kernel
theorem d1_power : 39082 ^ ((pp - 1) / 2) % pp = pp - 1 := pmod_of (f := 448) (by decide +kernel) (by decide +kernel) (by decide +kernel)
theorem d1_nsq (s : Fin pp) : s * s ≠ 1 - el dP := by
  intro h
  have e : (1 : Fin pp) - el dP = el 39082 := by decide +kernel
  rw [e] at h
  have := euler (e := (pp - 1) / 2) (by decide +kernel) (by decide +kernel) h
  rw [d1_power] at this
  exact absurd this (by decide +kernel)
theorem goldW : Cw pp (el dP) := ⟨goldC, d1_nsq⟩
abbrev Pt : Type := Fin pp × Fin pp
/-- A block of five elements stands for a point sent. -/
structure TwB (p : Pt) (X Y Z A B : Nat) : Prop where
  hX : X < RR
  hY : Y < RR
  hZ : Z < RR
  hA : A < RR
  hB : B < RR
  rep : TRep p.1 p.2 (el X) (el Y) (el Z) (el A) (el B)
/-- A block of four elements stands for a point that is ready to be added. -/
structure PrB (p : Pt) (a s t z : Nat) : Prop where
  ha : a < RR
  hs : s < RR
  ht : t < RR
  hz : z < RR
  rep : PRep (el dP) p.1 p.2 (el a) (el s) (el t) (el z)
abbrev OnG (p : Pt) : Prop := OnP (el dP) p
noncomputable abbrev pa (p q : Pt) : Pt := padd (el dP) p q
theorem pa_sum {p q : Pt} (hp : OnG p) (hq : OnG q) : Sum (el dP) p.1 p.2 q.1 q.2 (pa p q).1 (pa p q).2 := padd_sum goldC hp hq
theorem TwB.dbl {p : Pt} {X Y Z A B x y z a b : Nat} (hp : OnG p) (h : TwB p X Y Z A B) (hx : x < RR) (hy : y < RR) (hz : z < RR) (ha : a < RR) (hb : b < RR)
    (ex : el x = 2 * (el X * el Y) * (2 * (el Z * el Z) - (el Y * el Y - el X * el X))) (ey : el y = (el Y * el Y - el X * el X) * (el X * el X + el Y * el Y)) (ez : el z = (2 * (el Z * el Z) - (el Y * el Y - el X * el X)) * (el Y * el Y - el X * el X)) (ea : el a = 2 * (el X * el Y)) (eb : el b = el X * el X + el Y * el Y) : TwB (pa p p) x y z a b := by
  refine ⟨hx, hy, hz, ha, hb, ?_⟩
  rw [ex, ey, ez, ea, eb]
  exact tw_dbl goldW hp (pa_sum hp hp) h.rep rfl rfl rfl rfl
theorem TwB.mix {p q : Pt} {X Y Z A B a s t u x y z c d : Nat} (hp : OnG p) (hq : OnG q) (h : TwB p X Y Z A B) (k : PrB q a s t u) (hx : x < RR) (hy : y < RR) (hz : z < RR) (hc : c < RR) (hd : d < RR)
    (ex : el x = ((el Y + el X) * el a - (el Y - el X) * el s) * (el Z * el u - el A * el B * el t)) (ey : el y = (el Z * el u + el A * el B * el t) * ((el Y + el X) * el a + (el Y - el X) * el s)) (ez : el z = (el Z * el u - el A * el B * el t) * (el Z * el u + el A * el B * el t)) (ec : el c = (el Y + el X) * el a - (el Y - el X) * el s) (ed : el d = (el Y + el X) * el a + (el Y - el X) * el s) : TwB (pa p q) x y z c d := by
  refine ⟨hx, hy, hz, hc, hd, ?_⟩
  rw [ex, ey, ez, ec, ed]
  exact tw_mix goldW hp hq (pa_sum hp hq) h.rep k.rep rfl rfl rfl rfl
theorem TwB.pre {p : Pt} {X Y Z A B a s t u : Nat} (h : TwB p X Y Z A B) (ha : a < RR) (hs : s < RR) (ht : t < RR) (hu : u < RR) (ea : el a = el Y + el X) (es : el s = el Y - el X) (et : el t = 2 * (el dP - 1) * (el A * el B)) (eu : el u = 2 * el Z) : PrB p a s t u := by
  refine ⟨ha, hs, ht, hu, ⟨_, _, _, _, _, h.rep, ea, es, et, eu⟩⟩
theorem TwB.neg {p : Pt} {X Y Z A B x a : Nat} (h : TwB p X Y Z A B) (hx : x < RR) (ha : a < RR) (ex : el x = -el X) (ea : el a = -el A) : TwB (pneg p) x Y Z a B := by
  refine ⟨hx, h.hY, h.hZ, ha, h.hB, ?_⟩
  rw [ex, ea]
  exact h.rep.neg
theorem PrB.neg {p : Pt} {a s t u c : Nat} (h : PrB p a s t u) (hc : c < RR) (ec : el c = -el t) : PrB (pneg p) s a c u := by
  refine ⟨h.hs, h.ha, hc, h.hz, ?_⟩
  rw [ec]
  exact h.rep.neg
/-- What is left or turned. -/
noncomputable def pif (t : Nat) (p : Pt) : Pt := if t = 1 then pneg p else p
theorem pif_on {t : Nat} {p : Pt} (h : OnG p) : OnG (pif t p) := by
  unfold pif
  split
  · exact pneg_on h
  · exact h
theorem TwB.cneg {p : Pt} {X Y Z A B x a t : Nat} (ht : t = 0 ∨ t = 1) (h : TwB p X Y Z A B) (hx : x < RR) (ha : a < RR) (ex : el x = -el X) (ea : el a = -el A) : TwB (pif t p) (sel t X x) Y Z (sel t A a) B := by
  rcases ht with rfl | rfl
  · exact h
  · exact h.neg hx ha ex ea
theorem PrB.cneg {p : Pt} {a s t u c b : Nat} (hb : b = 0 ∨ b = 1) (h : PrB p a s t u) (hc : c < RR) (ec : el c = -el t) : PrB (pif b p) (sel b a s) (sel b s a) (sel b t c) u := by
  rcases hb with rfl | rfl
  · exact h
  · exact h.neg hc ec
theorem TwB.zero {c d : Nat} (hc : c < RR) (hd : d < RR) (ec : el c = 0) (ed : el d = 0) : TwB (0, 1) 0 1 1 c d := by
  refine ⟨RR_zero, RR_one, RR_one, hc, hd, ?_⟩
  rw [ec, ed, el_zero, el_one]
  exact tw_zero isF_pp
theorem TwB.push {p : Pt} {X Y Z x y z a b : Nat} (hp : OnG p) (nz : el Z ≠ 0) (hX : el X = p.1 * el Z) (hY : el Y = p.2 * el Z) (hx : x < RR) (hy : y < RR) (hz : z < RR) (ha : a < RR) (hb : b < RR)
    (ex : el x = 2 * (el X * el Y) * (2 * (el Z * el Z) - (el Y * el Y + el X * el X))) (ey : el y = (el Y * el Y - el X * el X) * (el Y * el Y + el X * el X)) (ez : el z = (2 * (el Z * el Z) - (el Y * el Y + el X * el X)) * (el Y * el Y - el X * el X)) (ea : el a = 2 * (el X * el Y)) (eb : el b = el Y * el Y + el X * el X) : TwB p x y z a b := by
  refine ⟨hx, hy, hz, ha, hb, ?_⟩
  rw [ex, ey, ez, ea, eb]
  exact tw_push goldW hp nz hX hY rfl rfl rfl rfl
theorem TwB.pull {p : Pt} {X Y Z A B x y z : Nat} (hp : OnG p) (h : TwB p X Y Z A B)
    (ex : el x = 2 * (el X * el Y) * (2 * (el Z * el Z) - (el Y * el Y - el X * el X))) (ey : el y = (el Y * el Y + el X * el X) * (el Y * el Y - el X * el X)) (ez : el z = (2 * (el Z * el Z) - (el Y * el Y - el X * el X)) * (el Y * el Y + el X * el X)) :
    el z ≠ 0 ∧ el x = (pa (pa p p) (pa p p)).1 * el z ∧ el y = (pa (pa p p) (pa p p)).2 * el z := by
  rw [ex, ey, ez]
  exact tw_pull goldW hp (pa_sum hp hp) (pa_sum (padd_on goldC hp hp) (padd_on goldC hp hp)) h.rep rfl rfl rfl rfl
theorem twDblR_ct {M : Mem} {ip gP TP X Y Z A B : Nat} (hP : M[ip]? = some ⟨gP, TP, EE [X, Y, Z, A, B]⟩) (hX : X < RR) (hY : Y < RR) (hZ : Z < RR) (hA : A < RR) (hB : B < RR) : Ct Tryz.prog 54 #[.pointer (some ⟨gP, 0, none⟩)] M (fun v M' => ∃ x3 y3 z3 a3 b3, x3 < RR ∧ y3 < RR ∧ z3 < RR ∧ a3 < RR ∧ b3 < RR ∧ el x3 = (2 * (el X * el Y)) * (2 * (el Z * el Z) - (el Y * el Y - el X * el X)) ∧ el y3 = (el Y * el Y - el X * el X) * (el X * el X + el Y * el Y) ∧ el z3 = (2 * (el Z * el Z) - (el Y * el Y - el X * el X)) * (el Y * el Y - el X * el X) ∧ el a3 = (2 * (el X * el Y)) ∧ el b3 = (el X * el X + el Y * el Y) ∧ v = .tuple #[] ∧ M' = M.set ip ⟨gP, TP, EE [x3, y3, z3, a3, b3]⟩) := by
  refine ct_of (vs := [.pointer (some ⟨gP, 0, none⟩)]) Tryz.func54 rfl Tryz.ntmps54 rfl fun w0 => ?_
  refine at_seq ?_
  refine at_draw (by kernel_rfl) (by kernel_rfl) (by kernel_rfl) (List.cons_ne_nil _ _) ?_
  refine dr_op rfl rfl (opr_move rfl rfl) ?_
  refine dr_op rfl rfl (opr_nilCheck rfl rfl) ?_
  refine dr_op rfl rfl (opr_fieldAddr rfl rfl Tryz.underlying111 rfl size60 rfl rfl) ?_
  refine dr_op rfl rfl (opr_move rfl rfl) ?_
  refine dr_op rfl rfl (opr_nilCheck rfl rfl) ?_
  refine dr_op rfl rfl (opr_fieldAddr rfl rfl Tryz.underlying111 rfl size60 rfl rfl) ?_
  refine dr_op rfl rfl (opr_move rfl rfl) ?_
  refine dr_op rfl rfl (opr_nilCheck rfl rfl) ?_
  refine dr_op rfl rfl (opr_fieldAddr rfl rfl Tryz.underlying111 rfl size60 rfl rfl) ?_
  refine dr_op rfl rfl (opr_move rfl rfl) ?_
  refine dr_op rfl rfl (opr_nilCheck rfl rfl) ?_
  refine dr_op rfl rfl (opr_fieldAddr rfl rfl Tryz.underlying111 rfl size60 rfl rfl) ?_
  refine dr_op rfl rfl (opr_move rfl rfl) ?_
  refine dr_op rfl rfl (opr_nilCheck rfl rfl) ?_
  refine dr_op rfl rfl (opr_fieldAddr rfl rfl Tryz.underlying111 rfl size60 rfl rfl) ?_
  refine dr_op rfl rfl (opr_assign rfl rfl) ?_
  refine dr_op rfl rfl (opr_assign rfl rfl) ?_
  refine dr_op rfl rfl (opr_assign rfl rfl) ?_
  refine dr_op rfl rfl (opr_assign rfl rfl) ?_
  refine dr_last rfl rfl (opr_assign rfl rfl) ?_
  refine at_then ?_
  refine at_seq ?_
  refine at_region ?_
  refine at_d rfl rfl (opr_move rfl rfl) ?_
  refine at_d rfl rfl (opr_move rfl rfl) ?_
  refine at_d rfl rfl (opr_move rfl rfl) ?_
  refine at_d rfl rfl (opr_move rfl rfl) ?_
  refine at_d rfl rfl (opr_move rfl rfl) ?_
  refine at_d rfl rfl (opr_move rfl rfl) ?_
  refine at_d rfl rfl (opr_move rfl rfl) ?_
  refine at_d rfl rfl (opr_assign rfl rfl) ?_
  refine at_d rfl rfl (opr_assign rfl rfl) ?_
  refine at_d rfl rfl (opr_assign rfl rfl) ?_
  refine at_d rfl rfl (opr_assign rfl rfl) ?_
  refine at_d rfl rfl (opr_assign rfl rfl) ?_
  refine at_d rfl rfl (opr_assign rfl rfl) ?_
  refine at_d rfl rfl (opr_assign rfl rfl) ?_
  refine at_nil ?_
  refine at_then ?_
  refine at_seq ?_
  refine at_region ?_
  refine at_d rfl rfl (opr_move rfl rfl) ?_
  refine at_d rfl rfl (opr_move rfl rfl) ?_
  refine at_d rfl rfl (opr_move rfl rfl) ?_
  refine at_c rfl rfl (opr_call rfl rfl rfl Tryz.func60 (by kernel_rfl) rfl (Add_el (iz := ip) (ix := ip) (iy := ip) (kz := 3) (kx := 0) (ky := 1) hP (Nat.le_of_ble_eq_true rfl) rfl hP rfl rfl hP rfl rfl hX hY)) ?_
  rintro _ _ ⟨r0, hr0, f0, rfl, rfl⟩
  have hb1 : (M.set ip ⟨gP, TP, EE [X, Y, Z, r0, B]⟩)[ip]? = some ⟨gP, TP, EE [X, Y, Z, r0, B]⟩ := get_set hP
  refine at_mem (M2 := (M.set ip ⟨gP, TP, EE [X, Y, Z, r0, B]⟩)) (by simp) ?_
  refine at_nil ?_
  refine at_then ?_
  refine at_seq ?_
  refine at_region ?_
  refine at_d rfl rfl (opr_move rfl rfl) ?_
  refine at_d rfl rfl (opr_move rfl rfl) ?_
  refine at_c rfl rfl (opr_call rfl rfl rfl Tryz.func61 (by kernel_rfl) rfl (Sqr_el (iz := ip) (ix := ip) (kz := 0) (kx := 0) hb1 (Nat.le_of_ble_eq_true rfl) rfl hb1 rfl rfl hX)) ?_
  rintro _ _ ⟨r1, hr1, f1, rfl, rfl⟩
  have hb2 : (M.set ip ⟨gP, TP, EE [r1, Y, Z, r0, B]⟩)[ip]? = some ⟨gP, TP, EE [r1, Y, Z, r0, B]⟩ := get_set hP
  refine at_mem (M2 := (M.set ip ⟨gP, TP, EE [r1, Y, Z, r0, B]⟩)) (by simp) ?_
  refine at_nil ?_
  refine at_then ?_
  refine at_seq ?_
  refine at_region ?_
  refine at_d rfl rfl (opr_move rfl rfl) ?_
  refine at_d rfl rfl (opr_move rfl rfl) ?_
  refine at_c rfl rfl (opr_call rfl rfl rfl Tryz.func61 (by kernel_rfl) rfl (Sqr_el (iz := ip) (ix := ip) (kz := 1) (kx := 1) hb2 (Nat.le_of_ble_eq_true rfl) rfl hb2 rfl rfl hY)) ?_
  rintro _ _ ⟨r2, hr2, f2, rfl, rfl⟩
  have hb3 : (M.set ip ⟨gP, TP, EE [r1, r2, Z, r0, B]⟩)[ip]? = some ⟨gP, TP, EE [r1, r2, Z, r0, B]⟩ := get_set hP
  refine at_mem (M2 := (M.set ip ⟨gP, TP, EE [r1, r2, Z, r0, B]⟩)) (by simp) ?_
  refine at_nil ?_
  refine at_then ?_
  refine at_seq ?_
  refine at_region ?_
  refine at_d rfl rfl (opr_move rfl rfl) ?_
  refine at_d rfl rfl (opr_move rfl rfl) ?_
  refine at_c rfl rfl (opr_call rfl rfl rfl Tryz.func61 (by kernel_rfl) rfl (Sqr_el (iz := ip) (ix := ip) (kz := 2) (kx := 2) hb3 (Nat.le_of_ble_eq_true rfl) rfl hb3 rfl rfl hZ)) ?_
  rintro _ _ ⟨r3, hr3, f3, rfl, rfl⟩
  have hb4 : (M.set ip ⟨gP, TP, EE [r1, r2, r3, r0, B]⟩)[ip]? = some ⟨gP, TP, EE [r1, r2, r3, r0, B]⟩ := get_set hP
  refine at_mem (M2 := (M.set ip ⟨gP, TP, EE [r1, r2, r3, r0, B]⟩)) (by simp) ?_
  refine at_nil ?_
  refine at_then ?_
  refine at_seq ?_
  refine at_region ?_
  refine at_d rfl rfl (opr_move rfl rfl) ?_
  refine at_d rfl rfl (opr_move rfl rfl) ?_
  refine at_d rfl rfl (opr_move rfl rfl) ?_
  refine at_c rfl rfl (opr_call rfl rfl rfl Tryz.func60 (by kernel_rfl) rfl (Add_el (iz := ip) (ix := ip) (iy := ip) (kz := 2) (kx := 2) (ky := 2) hb4 (Nat.le_of_ble_eq_true rfl) rfl hb4 rfl rfl hb4 rfl rfl hr3 hr3)) ?_
  rintro _ _ ⟨r4, hr4, f4, rfl, rfl⟩
  have hb5 : (M.set ip ⟨gP, TP, EE [r1, r2, r4, r0, B]⟩)[ip]? = some ⟨gP, TP, EE [r1, r2, r4, r0, B]⟩ := get_set hP
  refine at_mem (M2 := (M.set ip ⟨gP, TP, EE [r1, r2, r4, r0, B]⟩)) (by simp) ?_
  refine at_nil ?_
  refine at_then ?_
  refine at_seq ?_
  refine at_region ?_
  refine at_d rfl rfl (opr_move rfl rfl) ?_
  refine at_d rfl rfl (opr_move rfl rfl) ?_
  refine at_d rfl rfl (opr_move rfl rfl) ?_
  refine at_c rfl rfl (opr_call rfl rfl rfl Tryz.func60 (by kernel_rfl) rfl (Add_el (iz := ip) (ix := ip) (iy := ip) (kz := 4) (kx := 0) (ky := 1) hb5 (Nat.le_of_ble_eq_true rfl) rfl hb5 rfl rfl hb5 rfl rfl hr1 hr2)) ?_
  rintro _ _ ⟨r5, hr5, f5, rfl, rfl⟩
  have hb6 : (M.set ip ⟨gP, TP, EE [r1, r2, r4, r0, r5]⟩)[ip]? = some ⟨gP, TP, EE [r1, r2, r4, r0, r5]⟩ := get_set hP
  refine at_mem (M2 := (M.set ip ⟨gP, TP, EE [r1, r2, r4, r0, r5]⟩)) (by simp) ?_
  refine at_nil ?_
  refine at_then ?_
  refine at_seq ?_
  refine at_region ?_
  refine at_d rfl rfl (opr_move rfl rfl) ?_
  refine at_d rfl rfl (opr_move rfl rfl) ?_
  refine at_c rfl rfl (opr_call rfl rfl rfl Tryz.func61 (by kernel_rfl) rfl (Sqr_el (iz := ip) (ix := ip) (kz := 3) (kx := 3) hb6 (Nat.le_of_ble_eq_true rfl) rfl hb6 rfl rfl hr0)) ?_
  rintro _ _ ⟨r6, hr6, f6, rfl, rfl⟩
  have hb7 : (M.set ip ⟨gP, TP, EE [r1, r2, r4, r6, r5]⟩)[ip]? = some ⟨gP, TP, EE [r1, r2, r4, r6, r5]⟩ := get_set hP
  refine at_mem (M2 := (M.set ip ⟨gP, TP, EE [r1, r2, r4, r6, r5]⟩)) (by simp) ?_
  refine at_nil ?_
  refine at_then ?_
  refine at_seq ?_
  refine at_region ?_
  refine at_d rfl rfl (opr_move rfl rfl) ?_
  refine at_d rfl rfl (opr_move rfl rfl) ?_
  refine at_d rfl rfl (opr_move rfl rfl) ?_
  refine at_c rfl rfl (opr_call rfl rfl rfl Tryz.func62 (by kernel_rfl) rfl (Sub_el (iz := ip) (ix := ip) (iy := ip) (kz := 3) (kx := 3) (ky := 4) hb7 (Nat.le_of_ble_eq_true rfl) rfl hb7 rfl rfl hb7 rfl rfl hr6 hr5)) ?_
  rintro _ _ ⟨r7, hr7, f7, rfl, rfl⟩
  have hb8 : (M.set ip ⟨gP, TP, EE [r1, r2, r4, r7, r5]⟩)[ip]? = some ⟨gP, TP, EE [r1, r2, r4, r7, r5]⟩ := get_set hP
  refine at_mem (M2 := (M.set ip ⟨gP, TP, EE [r1, r2, r4, r7, r5]⟩)) (by simp) ?_
  refine at_nil ?_
  refine at_then ?_
  refine at_seq ?_
  refine at_region ?_
  refine at_d rfl rfl (opr_move rfl rfl) ?_
  refine at_d rfl rfl (opr_move rfl rfl) ?_
  refine at_d rfl rfl (opr_move rfl rfl) ?_
  refine at_c rfl rfl (opr_call rfl rfl rfl Tryz.func62 (by kernel_rfl) rfl (Sub_el (iz := ip) (ix := ip) (iy := ip) (kz := 1) (kx := 1) (ky := 0) hb8 (Nat.le_of_ble_eq_true rfl) rfl hb8 rfl rfl hb8 rfl rfl hr2 hr1)) ?_
  rintro _ _ ⟨r8, hr8, f8, rfl, rfl⟩
  have hb9 : (M.set ip ⟨gP, TP, EE [r1, r8, r4, r7, r5]⟩)[ip]? = some ⟨gP, TP, EE [r1, r8, r4, r7, r5]⟩ := get_set hP
  refine at_mem (M2 := (M.set ip ⟨gP, TP, EE [r1, r8, r4, r7, r5]⟩)) (by simp) ?_
  refine at_nil ?_
  refine at_then ?_
  refine at_seq ?_
  refine at_region ?_
  refine at_d rfl rfl (opr_move rfl rfl) ?_
  refine at_d rfl rfl (opr_move rfl rfl) ?_
  refine at_d rfl rfl (opr_move rfl rfl) ?_
  refine at_c rfl rfl (opr_call rfl rfl rfl Tryz.func62 (by kernel_rfl) rfl (Sub_el (iz := ip) (ix := ip) (iy := ip) (kz := 0) (kx := 2) (ky := 1) hb9 (Nat.le_of_ble_eq_true rfl) rfl hb9 rfl rfl hb9 rfl rfl hr4 hr8)) ?_
  rintro _ _ ⟨r9, hr9, f9, rfl, rfl⟩
  have hb10 : (M.set ip ⟨gP, TP, EE [r9, r8, r4, r7, r5]⟩)[ip]? = some ⟨gP, TP, EE [r9, r8, r4, r7, r5]⟩ := get_set hP
  refine at_mem (M2 := (M.set ip ⟨gP, TP, EE [r9, r8, r4, r7, r5]⟩)) (by simp) ?_
  refine at_nil ?_
  refine at_then ?_
  refine at_seq ?_
  refine at_region ?_
  refine at_d rfl rfl (opr_move rfl rfl) ?_
  refine at_d rfl rfl (opr_move rfl rfl) ?_
  refine at_d rfl rfl (opr_move rfl rfl) ?_
  refine at_c rfl rfl (opr_call rfl rfl rfl Tryz.func43 (by kernel_rfl) rfl (Mul_el (iz := ip) (ix := ip) (iy := ip) (kz := 2) (kx := 0) (ky := 1) hb10 (Nat.le_of_ble_eq_true rfl) rfl hb10 rfl rfl hb10 rfl rfl hr9 hr8)) ?_
  rintro _ _ ⟨r10, hr10, f10, rfl, rfl⟩
  have hb11 : (M.set ip ⟨gP, TP, EE [r9, r8, r10, r7, r5]⟩)[ip]? = some ⟨gP, TP, EE [r9, r8, r10, r7, r5]⟩ := get_set hP
  refine at_mem (M2 := (M.set ip ⟨gP, TP, EE [r9, r8, r10, r7, r5]⟩)) (by simp) ?_
  refine at_nil ?_
  refine at_then ?_
  refine at_seq ?_
  refine at_region ?_
  refine at_d rfl rfl (opr_move rfl rfl) ?_
  refine at_d rfl rfl (opr_move rfl rfl) ?_
  refine at_d rfl rfl (opr_move rfl rfl) ?_
  refine at_c rfl rfl (opr_call rfl rfl rfl Tryz.func43 (by kernel_rfl) rfl (Mul_el (iz := ip) (ix := ip) (iy := ip) (kz := 0) (kx := 3) (ky := 0) hb11 (Nat.le_of_ble_eq_true rfl) rfl hb11 rfl rfl hb11 rfl rfl hr7 hr9)) ?_
  rintro _ _ ⟨r11, hr11, f11, rfl, rfl⟩
  have hb12 : (M.set ip ⟨gP, TP, EE [r11, r8, r10, r7, r5]⟩)[ip]? = some ⟨gP, TP, EE [r11, r8, r10, r7, r5]⟩ := get_set hP
  refine at_mem (M2 := (M.set ip ⟨gP, TP, EE [r11, r8, r10, r7, r5]⟩)) (by simp) ?_
  refine at_nil ?_
  refine at_then ?_
  refine at_region ?_
  refine at_d rfl rfl (opr_move rfl rfl) ?_
  refine at_d rfl rfl (opr_move rfl rfl) ?_
  refine at_d rfl rfl (opr_move rfl rfl) ?_
  refine at_c rfl rfl (opr_call rfl rfl rfl Tryz.func43 (by kernel_rfl) rfl (Mul_el (iz := ip) (ix := ip) (iy := ip) (kz := 1) (kx := 1) (ky := 4) hb12 (Nat.le_of_ble_eq_true rfl) rfl hb12 rfl rfl hb12 rfl rfl hr8 hr5)) ?_
  rintro _ _ ⟨r12, hr12, f12, rfl, rfl⟩
  have hb13 : (M.set ip ⟨gP, TP, EE [r11, r12, r10, r7, r5]⟩)[ip]? = some ⟨gP, TP, EE [r11, r12, r10, r7, r5]⟩ := get_set hP
  refine at_mem (M2 := (M.set ip ⟨gP, TP, EE [r11, r12, r10, r7, r5]⟩)) (by simp) ?_
  refine at_nil ?_
  refine done_of (res0 Tryz.results54) ⟨r11, r12, r10, r7, r5, hr11, hr12, hr10, hr7, hr5, ?_, ?_, ?_, ?_, ?_, rfl, rfl⟩ (by repeat (first | exact List.Sublist.refl _ | apply List.Sublist.cons))
  all_goals simp only [f0, f1, f2, f3, f4, f5, f6, f7, f8, f9, f10, f11, f12]
  all_goals clear f12 f11 f10 f9 f8 f7 f6 f5 f4 f3 f2 f1 f0
  all_goals generalize el X = Y0, el Y = Y1, el Z = Y2, el A = Y3, el B = Y4
  all_goals grind
theorem twDbl_ct {M : Mem} {ip gP TP X Y Z A B : Nat} (hP : M[ip]? = some ⟨gP, TP, EE [X, Y, Z, A, B]⟩) {p : Pt} (hp : OnG p) (h : TwB p X Y Z A B) : Ct Tryz.prog 54 #[.pointer (some ⟨gP, 0, none⟩)] M (fun v M' => ∃ x3 y3 z3 a3 b3, TwB (pa p p) x3 y3 z3 a3 b3 ∧ v = .tuple #[] ∧ M' = M.set ip ⟨gP, TP, EE [x3, y3, z3, a3, b3]⟩) := by
  refine (twDblR_ct hP h.hX h.hY h.hZ h.hA h.hB).mono ?_
  rintro _ _ ⟨x, y, z, a, b, hx, hy, hz, ha, hb, ex, ey, ez, ea, eb, rfl, rfl⟩
  exact ⟨x, y, z, a, b, h.dbl hp hx hy hz ha hb ex ey ez ea eb, rfl, rfl⟩
theorem twCore_ct {M : Mem} {ip gP TP X Y Z A B : Nat} (hP : M[ip]? = some ⟨gP, TP, EE [X, Y, Z, A, B]⟩) {iq gQ TQ a s t u : Nat} (hQ : M[iq]? = some ⟨gQ, TQ, EE [a, s, t, u]⟩) (hne : ip ≠ iq) (hX : X < RR) (hY : Y < RR) (hZ : Z < RR) (hA : A < RR) (hB : B < RR) (ha : a < RR) (hs : s < RR) (ht : t < RR) (hu : u < RR) : Ct Tryz.prog 85 #[.pointer (some ⟨gP, 0, none⟩), .pointer (some ⟨gQ, 0, none⟩)] M (fun v M' => ∃ x3 y3 z3 a3 b3, x3 < RR ∧ y3 < RR ∧ z3 < RR ∧ a3 < RR ∧ b3 < RR ∧ el x3 = ((el Y + el X) * el a - (el Y - el X) * el s) * (el Z - el A * el B * el t) ∧ el y3 = (el Z + el A * el B * el t) * ((el Y + el X) * el a + (el Y - el X) * el s) ∧ el z3 = (el Z - el A * el B * el t) * (el Z + el A * el B * el t) ∧ el a3 = ((el Y + el X) * el a - (el Y - el X) * el s) ∧ el b3 = ((el Y + el X) * el a + (el Y - el X) * el s) ∧ v = .tuple #[] ∧ M' = M.set ip ⟨gP, TP, EE [x3, y3, z3, a3, b3]⟩) := by
  refine ct_of (vs := [.pointer (some ⟨gP, 0, none⟩), .pointer (some ⟨gQ, 0, none⟩)]) Tryz.func85 rfl Tryz.ntmps85 rfl fun w0 => ?_
  refine at_seq ?_
  refine at_draw (by kernel_rfl) (by kernel_rfl) (by kernel_rfl) (List.cons_ne_nil _ _) ?_
  refine dr_op rfl rfl (opr_move rfl rfl) ?_
  refine dr_op rfl rfl (opr_nilCheck rfl rfl) ?_
  refine dr_op rfl rfl (opr_fieldAddr rfl rfl Tryz.underlying111 rfl size60 rfl rfl) ?_
  refine dr_op rfl rfl (opr_move rfl rfl) ?_
  refine dr_op rfl rfl (opr_nilCheck rfl rfl) ?_
  refine dr_op rfl rfl (opr_fieldAddr rfl rfl Tryz.underlying111 rfl size60 rfl rfl) ?_
  refine dr_op rfl rfl (opr_move rfl rfl) ?_
  refine dr_op rfl rfl (opr_nilCheck rfl rfl) ?_
  refine dr_op rfl rfl (opr_fieldAddr rfl rfl Tryz.underlying111 rfl size60 rfl rfl) ?_
  refine dr_op rfl rfl (opr_move rfl rfl) ?_
  refine dr_op rfl rfl (opr_nilCheck rfl rfl) ?_
  refine dr_op rfl rfl (opr_fieldAddr rfl rfl Tryz.underlying111 rfl size60 rfl rfl) ?_
  refine dr_op rfl rfl (opr_move rfl rfl) ?_
  refine dr_op rfl rfl (opr_nilCheck rfl rfl) ?_
  refine dr_op rfl rfl (opr_fieldAddr rfl rfl Tryz.underlying111 rfl size60 rfl rfl) ?_
  refine dr_op rfl rfl (opr_assign rfl rfl) ?_
  refine dr_op rfl rfl (opr_assign rfl rfl) ?_
  refine dr_op rfl rfl (opr_assign rfl rfl) ?_
  refine dr_op rfl rfl (opr_assign rfl rfl) ?_
  refine dr_last rfl rfl (opr_assign rfl rfl) ?_
  refine at_then ?_
  refine at_seq ?_
  refine at_draw (by kernel_rfl) (by kernel_rfl) (by kernel_rfl) (List.cons_ne_nil _ _) ?_
  refine dr_op rfl rfl (opr_move rfl rfl) ?_
  refine dr_op rfl rfl (opr_nilCheck rfl rfl) ?_
  refine dr_op rfl rfl (opr_fieldAddr rfl rfl Tryz.underlying90 rfl size60 rfl rfl) ?_
  refine dr_op rfl rfl (opr_move rfl rfl) ?_
  refine dr_op rfl rfl (opr_nilCheck rfl rfl) ?_
  refine dr_op rfl rfl (opr_fieldAddr rfl rfl Tryz.underlying90 rfl size60 rfl rfl) ?_
  refine dr_op rfl rfl (opr_move rfl rfl) ?_
  refine dr_op rfl rfl (opr_nilCheck rfl rfl) ?_
  refine dr_op rfl rfl (opr_fieldAddr rfl rfl Tryz.underlying90 rfl size60 rfl rfl) ?_
  refine dr_op rfl rfl (opr_assign rfl rfl) ?_
  refine dr_op rfl rfl (opr_assign rfl rfl) ?_
  refine dr_last rfl rfl (opr_assign rfl rfl) ?_
  refine at_then ?_
  refine at_seq ?_
  refine at_region ?_
  refine at_d rfl rfl (opr_move rfl rfl) ?_
  refine at_d rfl rfl (opr_move rfl rfl) ?_
  refine at_d rfl rfl (opr_buildE (ds := E 0) rfl rfl builtz60 rfl) ?_
  refine at_n rfl rfl (opr_box (cs := EE [0]) rfl rfl (E_box _)) ?_
  intro g0
  refine at_d rfl rfl (opr_move rfl rfl) ?_
  refine at_d rfl rfl (opr_move rfl rfl) ?_
  refine at_d rfl rfl (opr_move rfl rfl) ?_
  refine at_d rfl rfl (opr_move rfl rfl) ?_
  refine at_d rfl rfl (opr_move rfl rfl) ?_
  refine at_d rfl rfl (opr_assign rfl rfl) ?_
  refine at_d rfl rfl (opr_assign rfl rfl) ?_
  refine at_d rfl rfl (opr_assign rfl rfl) ?_
  refine at_d rfl rfl (opr_assign rfl rfl) ?_
  refine at_d rfl rfl (opr_assign rfl rfl) ?_
  refine at_d rfl rfl (opr_assign rfl rfl) ?_
  refine at_d rfl rfl (opr_assign rfl rfl) ?_
  refine at_d rfl rfl (opr_assign rfl rfl) ?_
  refine at_nil ?_
  refine at_then ?_
  refine at_seq ?_
  refine at_region ?_
  refine at_d rfl rfl (opr_move rfl rfl) ?_
  refine at_d rfl rfl (opr_move rfl rfl) ?_
  refine at_d rfl rfl (opr_move rfl rfl) ?_
  refine at_c rfl rfl (opr_call rfl rfl rfl Tryz.func43 (by kernel_rfl) rfl (Mul_el (iz := 0) (ix := ip + 1) (iy := ip + 1) (kz := 0) (kx := 3) (ky := 4) rfl (Nat.le_of_ble_eq_true rfl) rfl hP rfl rfl hP rfl rfl hA hB)) ?_
  rintro _ _ ⟨r0, hr0, f0, rfl, rfl⟩
  refine at_nil ?_
  refine at_then ?_
  refine at_seq ?_
  refine at_region ?_
  refine at_d rfl rfl (opr_move rfl rfl) ?_
  refine at_d rfl rfl (opr_move rfl rfl) ?_
  refine at_d rfl rfl (opr_move rfl rfl) ?_
  refine at_c rfl rfl (opr_call rfl rfl rfl Tryz.func62 (by kernel_rfl) rfl (Sub_el (iz := ip + 1) (ix := ip + 1) (iy := ip + 1) (kz := 4) (kx := 1) (ky := 0) hP (Nat.le_of_ble_eq_true rfl) rfl hP rfl rfl hP rfl rfl hY hX)) ?_
  rintro _ _ ⟨r1, hr1, f1, rfl, rfl⟩
  have hb1 : (M.set ip ⟨gP, TP, EE [X, Y, Z, A, r1]⟩)[ip]? = some ⟨gP, TP, EE [X, Y, Z, A, r1]⟩ := get_set hP
  have hb1_gQ : (M.set ip ⟨gP, TP, EE [X, Y, Z, A, r1]⟩)[iq]? = some ⟨gQ, TQ, EE [a, s, t, u]⟩ := get_set_ne hQ hne
  refine at_mem (M2 := ⟨g0, 60, EE [r0]⟩ :: (M.set ip ⟨gP, TP, EE [X, Y, Z, A, r1]⟩)) (by simp) ?_
  refine at_nil ?_
  refine at_then ?_
  refine at_seq ?_
  refine at_region ?_
  refine at_d rfl rfl (opr_move rfl rfl) ?_
  refine at_d rfl rfl (opr_move rfl rfl) ?_
  refine at_d rfl rfl (opr_move rfl rfl) ?_
  refine at_c rfl rfl (opr_call rfl rfl rfl Tryz.func60 (by kernel_rfl) rfl (Add_el (iz := ip + 1) (ix := ip + 1) (iy := ip + 1) (kz := 1) (kx := 1) (ky := 0) hb1 (Nat.le_of_ble_eq_true rfl) rfl hb1 rfl rfl hb1 rfl rfl hY hX)) ?_
  rintro _ _ ⟨r2, hr2, f2, rfl, rfl⟩
  have hb2 : (M.set ip ⟨gP, TP, EE [X, r2, Z, A, r1]⟩)[ip]? = some ⟨gP, TP, EE [X, r2, Z, A, r1]⟩ := get_set hP
  have hb2_gQ : (M.set ip ⟨gP, TP, EE [X, r2, Z, A, r1]⟩)[iq]? = some ⟨gQ, TQ, EE [a, s, t, u]⟩ := get_set_ne hQ hne
  refine at_mem (M2 := ⟨g0, 60, EE [r0]⟩ :: (M.set ip ⟨gP, TP, EE [X, r2, Z, A, r1]⟩)) (by simp) ?_
  refine at_nil ?_
  refine at_then ?_
  refine at_seq ?_
  refine at_region ?_
  refine at_d rfl rfl (opr_move rfl rfl) ?_
  refine at_d rfl rfl (opr_move rfl rfl) ?_
  refine at_d rfl rfl (opr_move rfl rfl) ?_
  refine at_c rfl rfl (opr_call rfl rfl rfl Tryz.func43 (by kernel_rfl) rfl (Mul_el (iz := ip + 1) (ix := ip + 1) (iy := iq + 1) (kz := 0) (kx := 4) (ky := 1) hb2 (Nat.le_of_ble_eq_true rfl) rfl hb2 rfl rfl hb2_gQ rfl rfl hr1 hs)) ?_
  rintro _ _ ⟨r3, hr3, f3, rfl, rfl⟩
  have hb3 : (M.set ip ⟨gP, TP, EE [r3, r2, Z, A, r1]⟩)[ip]? = some ⟨gP, TP, EE [r3, r2, Z, A, r1]⟩ := get_set hP
  have hb3_gQ : (M.set ip ⟨gP, TP, EE [r3, r2, Z, A, r1]⟩)[iq]? = some ⟨gQ, TQ, EE [a, s, t, u]⟩ := get_set_ne hQ hne
  refine at_mem (M2 := ⟨g0, 60, EE [r0]⟩ :: (M.set ip ⟨gP, TP, EE [r3, r2, Z, A, r1]⟩)) (by simp) ?_
  refine at_nil ?_
  refine at_then ?_
  refine at_seq ?_
  refine at_region ?_
  refine at_d rfl rfl (opr_move rfl rfl) ?_
  refine at_d rfl rfl (opr_move rfl rfl) ?_
  refine at_d rfl rfl (opr_move rfl rfl) ?_
  refine at_c rfl rfl (opr_call rfl rfl rfl Tryz.func43 (by kernel_rfl) rfl (Mul_el (iz := ip + 1) (ix := ip + 1) (iy := iq + 1) (kz := 1) (kx := 1) (ky := 0) hb3 (Nat.le_of_ble_eq_true rfl) rfl hb3 rfl rfl hb3_gQ rfl rfl hr2 ha)) ?_
  rintro _ _ ⟨r4, hr4, f4, rfl, rfl⟩
  have hb4 : (M.set ip ⟨gP, TP, EE [r3, r4, Z, A, r1]⟩)[ip]? = some ⟨gP, TP, EE [r3, r4, Z, A, r1]⟩ := get_set hP
  have hb4_gQ : (M.set ip ⟨gP, TP, EE [r3, r4, Z, A, r1]⟩)[iq]? = some ⟨gQ, TQ, EE [a, s, t, u]⟩ := get_set_ne hQ hne
  refine at_mem (M2 := ⟨g0, 60, EE [r0]⟩ :: (M.set ip ⟨gP, TP, EE [r3, r4, Z, A, r1]⟩)) (by simp) ?_
  refine at_nil ?_
  refine at_then ?_
  refine at_seq ?_
  refine at_region ?_
  refine at_d rfl rfl (opr_move rfl rfl) ?_
  refine at_d rfl rfl (opr_move rfl rfl) ?_
  refine at_d rfl rfl (opr_move rfl rfl) ?_
  refine at_c rfl rfl (opr_call rfl rfl rfl Tryz.func43 (by kernel_rfl) rfl (Mul_el (iz := 0) (ix := 0) (iy := iq + 1) (kz := 0) (kx := 0) (ky := 2) rfl (Nat.le_of_ble_eq_true rfl) rfl rfl rfl rfl hb4_gQ rfl rfl hr0 ht)) ?_
  rintro _ _ ⟨r5, hr5, f5, rfl, rfl⟩
  refine at_nil ?_
  refine at_then ?_
  refine at_seq ?_
  refine at_region ?_
  refine at_d rfl rfl (opr_move rfl rfl) ?_
  refine at_d rfl rfl (opr_move rfl rfl) ?_
  refine at_d rfl rfl (opr_move rfl rfl) ?_
  refine at_c rfl rfl (opr_call rfl rfl rfl Tryz.func62 (by kernel_rfl) rfl (Sub_el (iz := ip + 1) (ix := ip + 1) (iy := ip + 1) (kz := 3) (kx := 1) (ky := 0) hb4 (Nat.le_of_ble_eq_true rfl) rfl hb4 rfl rfl hb4 rfl rfl hr4 hr3)) ?_
  rintro _ _ ⟨r6, hr6, f6, rfl, rfl⟩
  have hb5 : (M.set ip ⟨gP, TP, EE [r3, r4, Z, r6, r1]⟩)[ip]? = some ⟨gP, TP, EE [r3, r4, Z, r6, r1]⟩ := get_set hP
  have hb5_gQ : (M.set ip ⟨gP, TP, EE [r3, r4, Z, r6, r1]⟩)[iq]? = some ⟨gQ, TQ, EE [a, s, t, u]⟩ := get_set_ne hQ hne
  refine at_mem (M2 := ⟨g0, 60, EE [r5]⟩ :: (M.set ip ⟨gP, TP, EE [r3, r4, Z, r6, r1]⟩)) (by simp) ?_
  refine at_nil ?_
  refine at_then ?_
  refine at_seq ?_
  refine at_region ?_
  refine at_d rfl rfl (opr_move rfl rfl) ?_
  refine at_d rfl rfl (opr_move rfl rfl) ?_
  refine at_d rfl rfl (opr_move rfl rfl) ?_
  refine at_c rfl rfl (opr_call rfl rfl rfl Tryz.func60 (by kernel_rfl) rfl (Add_el (iz := ip + 1) (ix := ip + 1) (iy := ip + 1) (kz := 4) (kx := 1) (ky := 0) hb5 (Nat.le_of_ble_eq_true rfl) rfl hb5 rfl rfl hb5 rfl rfl hr4 hr3)) ?_
  rintro _ _ ⟨r7, hr7, f7, rfl, rfl⟩
  have hb6 : (M.set ip ⟨gP, TP, EE [r3, r4, Z, r6, r7]⟩)[ip]? = some ⟨gP, TP, EE [r3, r4, Z, r6, r7]⟩ := get_set hP
  have hb6_gQ : (M.set ip ⟨gP, TP, EE [r3, r4, Z, r6, r7]⟩)[iq]? = some ⟨gQ, TQ, EE [a, s, t, u]⟩ := get_set_ne hQ hne
  refine at_mem (M2 := ⟨g0, 60, EE [r5]⟩ :: (M.set ip ⟨gP, TP, EE [r3, r4, Z, r6, r7]⟩)) (by simp) ?_
  refine at_nil ?_
  refine at_then ?_
  refine at_seq ?_
  refine at_region ?_
  refine at_d rfl rfl (opr_move rfl rfl) ?_
  refine at_d rfl rfl (opr_move rfl rfl) ?_
  refine at_d rfl rfl (opr_move rfl rfl) ?_
  refine at_c rfl rfl (opr_call rfl rfl rfl Tryz.func62 (by kernel_rfl) rfl (Sub_el (iz := ip + 1) (ix := ip + 1) (iy := 0) (kz := 0) (kx := 2) (ky := 0) hb6 (Nat.le_of_ble_eq_true rfl) rfl hb6 rfl rfl rfl rfl rfl hZ hr5)) ?_
  rintro _ _ ⟨r8, hr8, f8, rfl, rfl⟩
  have hb7 : (M.set ip ⟨gP, TP, EE [r8, r4, Z, r6, r7]⟩)[ip]? = some ⟨gP, TP, EE [r8, r4, Z, r6, r7]⟩ := get_set hP
  have hb7_gQ : (M.set ip ⟨gP, TP, EE [r8, r4, Z, r6, r7]⟩)[iq]? = some ⟨gQ, TQ, EE [a, s, t, u]⟩ := get_set_ne hQ hne
  refine at_mem (M2 := ⟨g0, 60, EE [r5]⟩ :: (M.set ip ⟨gP, TP, EE [r8, r4, Z, r6, r7]⟩)) (by simp) ?_
  refine at_nil ?_
  refine at_then ?_
  refine at_seq ?_
  refine at_region ?_
  refine at_d rfl rfl (opr_move rfl rfl) ?_
  refine at_d rfl rfl (opr_move rfl rfl) ?_
  refine at_d rfl rfl (opr_move rfl rfl) ?_
  refine at_c rfl rfl (opr_call rfl rfl rfl Tryz.func60 (by kernel_rfl) rfl (Add_el (iz := ip + 1) (ix := ip + 1) (iy := 0) (kz := 1) (kx := 2) (ky := 0) hb7 (Nat.le_of_ble_eq_true rfl) rfl hb7 rfl rfl rfl rfl rfl hZ hr5)) ?_
  rintro _ _ ⟨r9, hr9, f9, rfl, rfl⟩
  have hb8 : (M.set ip ⟨gP, TP, EE [r8, r9, Z, r6, r7]⟩)[ip]? = some ⟨gP, TP, EE [r8, r9, Z, r6, r7]⟩ := get_set hP
  have hb8_gQ : (M.set ip ⟨gP, TP, EE [r8, r9, Z, r6, r7]⟩)[iq]? = some ⟨gQ, TQ, EE [a, s, t, u]⟩ := get_set_ne hQ hne
  refine at_mem (M2 := ⟨g0, 60, EE [r5]⟩ :: (M.set ip ⟨gP, TP, EE [r8, r9, Z, r6, r7]⟩)) (by simp) ?_
  refine at_nil ?_
  refine at_then ?_
  refine at_seq ?_
  refine at_region ?_
  refine at_d rfl rfl (opr_move rfl rfl) ?_
  refine at_d rfl rfl (opr_move rfl rfl) ?_
  refine at_d rfl rfl (opr_move rfl rfl) ?_
  refine at_c rfl rfl (opr_call rfl rfl rfl Tryz.func43 (by kernel_rfl) rfl (Mul_el (iz := ip + 1) (ix := ip + 1) (iy := ip + 1) (kz := 2) (kx := 0) (ky := 1) hb8 (Nat.le_of_ble_eq_true rfl) rfl hb8 rfl rfl hb8 rfl rfl hr8 hr9)) ?_
  rintro _ _ ⟨r10, hr10, f10, rfl, rfl⟩
  have hb9 : (M.set ip ⟨gP, TP, EE [r8, r9, r10, r6, r7]⟩)[ip]? = some ⟨gP, TP, EE [r8, r9, r10, r6, r7]⟩ := get_set hP
  have hb9_gQ : (M.set ip ⟨gP, TP, EE [r8, r9, r10, r6, r7]⟩)[iq]? = some ⟨gQ, TQ, EE [a, s, t, u]⟩ := get_set_ne hQ hne
  refine at_mem (M2 := ⟨g0, 60, EE [r5]⟩ :: (M.set ip ⟨gP, TP, EE [r8, r9, r10, r6, r7]⟩)) (by simp) ?_
  refine at_nil ?_
  refine at_then ?_
  refine at_seq ?_
  refine at_region ?_
  refine at_d rfl rfl (opr_move rfl rfl) ?_
  refine at_d rfl rfl (opr_move rfl rfl) ?_
  refine at_d rfl rfl (opr_move rfl rfl) ?_
  refine at_c rfl rfl (opr_call rfl rfl rfl Tryz.func43 (by kernel_rfl) rfl (Mul_el (iz := ip + 1) (ix := ip + 1) (iy := ip + 1) (kz := 0) (kx := 3) (ky := 0) hb9 (Nat.le_of_ble_eq_true rfl) rfl hb9 rfl rfl hb9 rfl rfl hr6 hr8)) ?_
  rintro _ _ ⟨r11, hr11, f11, rfl, rfl⟩
  have hb10 : (M.set ip ⟨gP, TP, EE [r11, r9, r10, r6, r7]⟩)[ip]? = some ⟨gP, TP, EE [r11, r9, r10, r6, r7]⟩ := get_set hP
  have hb10_gQ : (M.set ip ⟨gP, TP, EE [r11, r9, r10, r6, r7]⟩)[iq]? = some ⟨gQ, TQ, EE [a, s, t, u]⟩ := get_set_ne hQ hne
  refine at_mem (M2 := ⟨g0, 60, EE [r5]⟩ :: (M.set ip ⟨gP, TP, EE [r11, r9, r10, r6, r7]⟩)) (by simp) ?_
  refine at_nil ?_
  refine at_then ?_
  refine at_region ?_
  refine at_d rfl rfl (opr_move rfl rfl) ?_
  refine at_d rfl rfl (opr_move rfl rfl) ?_
  refine at_d rfl rfl (opr_move rfl rfl) ?_
  refine at_c rfl rfl (opr_call rfl rfl rfl Tryz.func43 (by kernel_rfl) rfl (Mul_el (iz := ip + 1) (ix := ip + 1) (iy := ip + 1) (kz := 1) (kx := 1) (ky := 4) hb10 (Nat.le_of_ble_eq_true rfl) rfl hb10 rfl rfl hb10 rfl rfl hr9 hr7)) ?_
  rintro _ _ ⟨r12, hr12, f12, rfl, rfl⟩
  have hb11 : (M.set ip ⟨gP, TP, EE [r11, r12, r10, r6, r7]⟩)[ip]? = some ⟨gP, TP, EE [r11, r12, r10, r6, r7]⟩ := get_set hP
  have hb11_gQ : (M.set ip ⟨gP, TP, EE [r11, r12, r10, r6, r7]⟩)[iq]? = some ⟨gQ, TQ, EE [a, s, t, u]⟩ := get_set_ne hQ hne
  refine at_mem (M2 := ⟨g0, 60, EE [r5]⟩ :: (M.set ip ⟨gP, TP, EE [r11, r12, r10, r6, r7]⟩)) (by simp) ?_
  refine at_nil ?_
  refine done_of (res0 Tryz.results85) ⟨r11, r12, r10, r6, r7, hr11, hr12, hr10, hr6, hr7, ?_, ?_, ?_, ?_, ?_, rfl, rfl⟩ (by repeat (first | exact List.Sublist.refl _ | apply List.Sublist.cons))
  all_goals simp only [f0, f1, f2, f3, f4, f5, f6, f7, f8, f9, f10, f11, f12]
  all_goals clear f12 f11 f10 f9 f8 f7 f6 f5 f4 f3 f2 f1 f0
  all_goals generalize el X = Y0, el Y = Y1, el Z = Y2, el A = Y3, el B = Y4, el a = Y5, el s = Y6, el t = Y7, el u = Y8
  all_goals grind
theorem twMixR_ct {M : Mem} {ip gP TP X Y Z A B : Nat} (hP : M[ip]? = some ⟨gP, TP, EE [X, Y, Z, A, B]⟩) {iq gQ TQ a s t u : Nat} (hQ : M[iq]? = some ⟨gQ, TQ, EE [a, s, t, u]⟩) (hne : ip ≠ iq) (hX : X < RR) (hY : Y < RR) (hZ : Z < RR) (hA : A < RR) (hB : B < RR) (ha : a < RR) (hs : s < RR) (ht : t < RR) (hu : u < RR) : Ct Tryz.prog 58 #[.pointer (some ⟨gP, 0, none⟩), .pointer (some ⟨gQ, 0, none⟩)] M (fun v M' => ∃ x3 y3 z3 a3 b3, x3 < RR ∧ y3 < RR ∧ z3 < RR ∧ a3 < RR ∧ b3 < RR ∧ el x3 = ((el Y + el X) * el a - (el Y - el X) * el s) * ((el Z * el u) - el A * el B * el t) ∧ el y3 = ((el Z * el u) + el A * el B * el t) * ((el Y + el X) * el a + (el Y - el X) * el s) ∧ el z3 = ((el Z * el u) - el A * el B * el t) * ((el Z * el u) + el A * el B * el t) ∧ el a3 = ((el Y + el X) * el a - (el Y - el X) * el s) ∧ el b3 = ((el Y + el X) * el a + (el Y - el X) * el s) ∧ v = .tuple #[] ∧ M' = M.set ip ⟨gP, TP, EE [x3, y3, z3, a3, b3]⟩) := by
  refine ct_of (vs := [.pointer (some ⟨gP, 0, none⟩), .pointer (some ⟨gQ, 0, none⟩)]) Tryz.func58 rfl Tryz.ntmps58 rfl fun w0 => ?_
  refine at_seq ?_
  refine at_drawR (by kernel_rfl) (by kernel_rfl) (by kernel_rfl) (List.cons_ne_nil _ _) ?_
  refine drR_op rfl rfl (opr_move rfl rfl) ?_
  refine drR_op rfl rfl (opr_nilCheck rfl rfl) ?_
  refine drR_op rfl rfl (opr_fieldAddr rfl rfl Tryz.underlying111 rfl size60 rfl rfl) ?_
  refine drR_op rfl rfl (opr_move rfl rfl) ?_
  refine drR_op rfl rfl (opr_nilCheck rfl rfl) ?_
  refine drR_op rfl rfl (opr_fieldAddr rfl rfl Tryz.underlying111 rfl size60 rfl rfl) ?_
  refine drR_op rfl rfl (opr_move rfl rfl) ?_
  refine drR_op rfl rfl (opr_nilCheck rfl rfl) ?_
  refine drR_op rfl rfl (opr_fieldAddr rfl rfl Tryz.underlying92 rfl size60 rfl rfl) ?_
  refine drR_last (v := .tuple #[]) rfl rfl (opr_call rfl rfl rfl Tryz.func43 (by kernel_rfl) rfl (Mul_el (iz := ip) (ix := ip) (iy := iq) (kz := 2) (kx := 2) (ky := 3) hP (Nat.le_of_ble_eq_true rfl) rfl hP rfl rfl hQ rfl rfl hZ hu)) ?_ ?_
  · rintro _ _ ⟨_, _, _, rfl, _⟩; rfl
  rintro _ _ ⟨r0, hr0, f0, rfl, rfl⟩
  have hb1 : (M.set ip ⟨gP, TP, EE [X, Y, r0, A, B]⟩)[ip]? = some ⟨gP, TP, EE [X, Y, r0, A, B]⟩ := get_set hP
  have hb1_gQ : (M.set ip ⟨gP, TP, EE [X, Y, r0, A, B]⟩)[iq]? = some ⟨gQ, TQ, EE [a, s, t, u]⟩ := get_set_ne hQ hne
  refine at_mem (M2 := (M.set ip ⟨gP, TP, EE [X, Y, r0, A, B]⟩)) (by simp) ?_
  refine at_then ?_
  refine at_region ?_
  refine at_d rfl rfl (opr_move rfl rfl) ?_
  refine at_d rfl rfl (opr_move rfl rfl) ?_
  refine at_d rfl rfl (opr_nilCheck rfl rfl) ?_
  refine at_d rfl rfl (opr_fieldAddr rfl rfl Tryz.underlying92 rfl size90 rfl rfl) ?_
  refine at_c rfl rfl (opr_call rfl rfl rfl Tryz.func85 (by kernel_rfl) rfl (twCore_ct (ip := ip) (iq := iq) hb1 hb1_gQ hne hX hY hr0 hA hB ha hs ht hu)) ?_
  rintro _ _ ⟨r1x, r1y, r1z, r1a, r1b, hr1x, hr1y, hr1z, hr1a, hr1b, f1x, f1y, f1z, f1a, f1b, rfl, rfl⟩
  have hb2 : (M.set ip ⟨gP, TP, EE [r1x, r1y, r1z, r1a, r1b]⟩)[ip]? = some ⟨gP, TP, EE [r1x, r1y, r1z, r1a, r1b]⟩ := get_set hP
  have hb2_gQ : (M.set ip ⟨gP, TP, EE [r1x, r1y, r1z, r1a, r1b]⟩)[iq]? = some ⟨gQ, TQ, EE [a, s, t, u]⟩ := get_set_ne hQ hne
  refine at_mem (M2 := (M.set ip ⟨gP, TP, EE [r1x, r1y, r1z, r1a, r1b]⟩)) (by simp) ?_
  refine at_nil ?_
  refine done_of (res0 Tryz.results58) ⟨r1x, r1y, r1z, r1a, r1b, hr1x, hr1y, hr1z, hr1a, hr1b, ?_, ?_, ?_, ?_, ?_, rfl, rfl⟩ (by repeat (first | exact List.Sublist.refl _ | apply List.Sublist.cons))
  all_goals simp only [f0, f1x, f1y, f1z, f1a, f1b]
  all_goals clear f1b f1a f1z f1y f1x f0
  all_goals generalize el X = Y0, el Y = Y1, el Z = Y2, el A = Y3, el B = Y4, el a = Y5, el s = Y6, el t = Y7, el u = Y8
  all_goals grind
theorem twMix_ct {M : Mem} {ip gP TP X Y Z A B : Nat} (hP : M[ip]? = some ⟨gP, TP, EE [X, Y, Z, A, B]⟩) {iq gQ TQ a s t u : Nat} (hQ : M[iq]? = some ⟨gQ, TQ, EE [a, s, t, u]⟩) (hne : ip ≠ iq) {p q : Pt} (hp : OnG p) (hq : OnG q) (h : TwB p X Y Z A B) (k : PrB q a s t u) : Ct Tryz.prog 58 #[.pointer (some ⟨gP, 0, none⟩), .pointer (some ⟨gQ, 0, none⟩)] M (fun v M' => ∃ x3 y3 z3 a3 b3, TwB (pa p q) x3 y3 z3 a3 b3 ∧ v = .tuple #[] ∧ M' = M.set ip ⟨gP, TP, EE [x3, y3, z3, a3, b3]⟩) := by
  refine (twMixR_ct hP hQ hne h.hX h.hY h.hZ h.hA h.hB k.ha k.hs k.ht k.hz).mono ?_
  rintro _ _ ⟨x, y, z, c, d, hx, hy, hz, hc, hd, ex, ey, ez, ec, ed, rfl, rfl⟩
  exact ⟨x, y, z, c, d, h.mix hp hq k hx hy hz hc hd ex ey ez ec ed, rfl, rfl⟩
theorem twFromR_ct {M : Mem} {ip gP TP X Y Z A B : Nat} (hP : M[ip]? = some ⟨gP, TP, EE [X, Y, Z, A, B]⟩) {jt Tt : Nat} (hT : M[jt]? = some ⟨6, Tt, EE [dT]⟩) {iz gz Tz kz oz : Nat} {lz : List Nat} (hz4 : M[iz]? = some ⟨gz, Tz, EE lz⟩) (hkz : kz + 3 < lz.length) (hoz : 56 * kz = oz) (hne : iz ≠ ip) (hnt : iz ≠ jt) (hX : X < RR) (hY : Y < RR) (hZ : Z < RR) (hA : A < RR) (hB : B < RR) : Ct Tryz.prog 80 #[.pointer (some ⟨gz, oz, none⟩), .pointer (some ⟨gP, 0, none⟩)] M (fun v M' => ∃ a s t u, (a < RR ∧ s < RR ∧ t < RR ∧ u < RR ∧ el a = el Y + el X ∧ el s = el Y - el X ∧ el t = 2 * (el dP - 1) * (el A * el B) ∧ el u = 2 * el Z) ∧ v = .tuple #[] ∧ M' = M.set iz ⟨gz, Tz, EE ((((lz.set (kz + 0) a).set (kz + 1) s).set (kz + 2) t).set (kz + 3) u)⟩) := by
  refine ct_of (vs := [.pointer (some ⟨gz, oz, none⟩), .pointer (some ⟨gP, 0, none⟩)]) Tryz.func80 rfl Tryz.ntmps80 rfl fun w0 => ?_
  refine at_seq ?_
  refine at_drawR (by kernel_rfl) (by kernel_rfl) (by kernel_rfl) (List.cons_ne_nil _ _) ?_
  refine drR_op rfl rfl (opr_move rfl rfl) ?_
  refine drR_op rfl rfl (opr_nilCheck rfl rfl) ?_
  refine drR_op rfl rfl (opr_fieldAddr rfl rfl Tryz.underlying92 rfl size90 rfl rfl) ?_
  refine drR_op rfl rfl (opr_fieldAddr rfl rfl Tryz.underlying90 rfl size60 rfl rfl) ?_
  refine drR_op rfl rfl (opr_move rfl rfl) ?_
  refine drR_op rfl rfl (opr_nilCheck rfl rfl) ?_
  refine drR_op rfl rfl (opr_fieldAddr rfl rfl Tryz.underlying111 rfl size60 rfl rfl) ?_
  refine drR_op rfl rfl (opr_move rfl rfl) ?_
  refine drR_op rfl rfl (opr_nilCheck rfl rfl) ?_
  refine drR_op rfl rfl (opr_fieldAddr rfl rfl Tryz.underlying111 rfl size60 rfl rfl) ?_
  refine drR_last (v := .tuple #[]) rfl rfl (opr_call rfl rfl rfl Tryz.func60 (by kernel_rfl) rfl (Add_el (iz := iz) (ix := ip) (iy := ip) (kz := kz + 0) (kx := 1) (ky := 0) hz4 (by (try simp only [List.length_set]); omega) (show 56 * (kz + 0) = oz from by omega) hP rfl rfl hP rfl rfl hY hX)) ?_ ?_
  · rintro _ _ ⟨_, _, _, rfl, _⟩; rfl
  rintro _ _ ⟨r0, hr0, f0, rfl, rfl⟩
  have hb1 : (M.set iz ⟨gz, Tz, EE (lz.set (kz + 0) r0)⟩)[iz]? = some ⟨gz, Tz, EE (lz.set (kz + 0) r0)⟩ := get_set hz4
  have hb1_gP : (M.set iz ⟨gz, Tz, EE (lz.set (kz + 0) r0)⟩)[ip]? = some ⟨gP, TP, EE [X, Y, Z, A, B]⟩ := get_set_ne hP hne
  have hb1_6 : (M.set iz ⟨gz, Tz, EE (lz.set (kz + 0) r0)⟩)[jt]? = some ⟨6, Tt, EE [dT]⟩ := get_set_ne hT hnt
  refine at_mem (M2 := (M.set iz ⟨gz, Tz, EE (lz.set (kz + 0) r0)⟩)) (by simp) ?_
  refine at_then ?_
  refine at_seq ?_
  refine at_drawR (by kernel_rfl) (by kernel_rfl) (by kernel_rfl) (List.cons_ne_nil _ _) ?_
  refine drR_op rfl rfl (opr_move rfl rfl) ?_
  refine drR_op rfl rfl (opr_nilCheck rfl rfl) ?_
  refine drR_op rfl rfl (opr_fieldAddr rfl rfl Tryz.underlying92 rfl size90 rfl rfl) ?_
  refine drR_op rfl rfl (opr_fieldAddr rfl rfl Tryz.underlying90 rfl size60 rfl rfl) ?_
  refine drR_op rfl rfl (opr_move rfl rfl) ?_
  refine drR_op rfl rfl (opr_nilCheck rfl rfl) ?_
  refine drR_op rfl rfl (opr_fieldAddr rfl rfl Tryz.underlying111 rfl size60 rfl rfl) ?_
  refine drR_op rfl rfl (opr_move rfl rfl) ?_
  refine drR_op rfl rfl (opr_nilCheck rfl rfl) ?_
  refine drR_op rfl rfl (opr_fieldAddr rfl rfl Tryz.underlying111 rfl size60 rfl rfl) ?_
  refine drR_last (v := .tuple #[]) rfl rfl (opr_call rfl rfl rfl Tryz.func62 (by kernel_rfl) rfl (Sub_el (iz := iz) (ix := ip) (iy := ip) (kz := kz + 1) (kx := 1) (ky := 0) hb1 (by (try simp only [List.length_set]); omega) (show 56 * (kz + 1) = oz + 56 from by omega) hb1_gP rfl rfl hb1_gP rfl rfl hY hX)) ?_ ?_
  · rintro _ _ ⟨_, _, _, rfl, _⟩; rfl
  rintro _ _ ⟨r1, hr1, f1, rfl, rfl⟩
  have hb2 : (M.set iz ⟨gz, Tz, EE ((lz.set (kz + 0) r0).set (kz + 1) r1)⟩)[iz]? = some ⟨gz, Tz, EE ((lz.set (kz + 0) r0).set (kz + 1) r1)⟩ := get_set hz4
  have hb2_gP : (M.set iz ⟨gz, Tz, EE ((lz.set (kz + 0) r0).set (kz + 1) r1)⟩)[ip]? = some ⟨gP, TP, EE [X, Y, Z, A, B]⟩ := get_set_ne hP hne
  have hb2_6 : (M.set iz ⟨gz, Tz, EE ((lz.set (kz + 0) r0).set (kz + 1) r1)⟩)[jt]? = some ⟨6, Tt, EE [dT]⟩ := get_set_ne hT hnt
  refine at_mem (M2 := (M.set iz ⟨gz, Tz, EE ((lz.set (kz + 0) r0).set (kz + 1) r1)⟩)) (by simp) ?_
  refine at_then ?_
  refine at_seq ?_
  refine at_drawR (by kernel_rfl) (by kernel_rfl) (by kernel_rfl) (List.cons_ne_nil _ _) ?_
  refine drR_op rfl rfl (opr_move rfl rfl) ?_
  refine drR_op rfl rfl (opr_nilCheck rfl rfl) ?_
  refine drR_op rfl rfl (opr_fieldAddr rfl rfl Tryz.underlying92 rfl size90 rfl rfl) ?_
  refine drR_op rfl rfl (opr_fieldAddr rfl rfl Tryz.underlying90 rfl size60 rfl rfl) ?_
  refine drR_op rfl rfl (opr_move rfl rfl) ?_
  refine drR_op rfl rfl (opr_nilCheck rfl rfl) ?_
  refine drR_op rfl rfl (opr_fieldAddr rfl rfl Tryz.underlying111 rfl size60 rfl rfl) ?_
  refine drR_op rfl rfl (opr_move rfl rfl) ?_
  refine drR_op rfl rfl (opr_nilCheck rfl rfl) ?_
  refine drR_op rfl rfl (opr_fieldAddr rfl rfl Tryz.underlying111 rfl size60 rfl rfl) ?_
  refine drR_last (v := .tuple #[]) rfl rfl (opr_call rfl rfl rfl Tryz.func43 (by kernel_rfl) rfl (Mul_el (iz := iz) (ix := ip) (iy := ip) (kz := kz + 2) (kx := 3) (ky := 4) hb2 (by (try simp only [List.length_set]); omega) (show 56 * (kz + 2) = oz + 112 from by omega) hb2_gP rfl rfl hb2_gP rfl rfl hA hB)) ?_ ?_
  · rintro _ _ ⟨_, _, _, rfl, _⟩; rfl
  rintro _ _ ⟨r2, hr2, f2, rfl, rfl⟩
  have hb3 : (M.set iz ⟨gz, Tz, EE (((lz.set (kz + 0) r0).set (kz + 1) r1).set (kz + 2) r2)⟩)[iz]? = some ⟨gz, Tz, EE (((lz.set (kz + 0) r0).set (kz + 1) r1).set (kz + 2) r2)⟩ := get_set hz4
  have hb3_gP : (M.set iz ⟨gz, Tz, EE (((lz.set (kz + 0) r0).set (kz + 1) r1).set (kz + 2) r2)⟩)[ip]? = some ⟨gP, TP, EE [X, Y, Z, A, B]⟩ := get_set_ne hP hne
  have hb3_6 : (M.set iz ⟨gz, Tz, EE (((lz.set (kz + 0) r0).set (kz + 1) r1).set (kz + 2) r2)⟩)[jt]? = some ⟨6, Tt, EE [dT]⟩ := get_set_ne hT hnt
  refine at_mem (M2 := (M.set iz ⟨gz, Tz, EE (((lz.set (kz + 0) r0).set (kz + 1) r1).set (kz + 2) r2)⟩)) (by simp) ?_
  refine at_then ?_
  refine at_seq ?_
  refine at_region ?_
  refine at_d rfl rfl (opr_load (i := jt) rfl rfl hb3_6 Tryz.underlying60 rfl size60 (E_length _) (EE_at (k := 0) rfl rfl rfl)) ?_
  refine at_n rfl rfl (opr_alloc rfl zero60 rfl) ?_
  intro g0
  refine at_d rfl rfl (opr_store (i := 0) rfl rfl rfl rfl rfl size60 (E_length _) (by rw [EE_length]; exact Nat.le_of_ble_eq_true rfl) (E_flat _) (EE_set (k := 0) (Nat.le_of_ble_eq_true rfl) rfl)) ?_
  refine at_nil ?_
  refine at_then ?_
  refine at_seq ?_
  refine at_drawR (by kernel_rfl) (by kernel_rfl) (by kernel_rfl) (List.cons_ne_nil _ _) ?_
  refine drR_op rfl rfl (opr_move rfl rfl) ?_
  refine drR_op rfl rfl (opr_nilCheck rfl rfl) ?_
  refine drR_op rfl rfl (opr_fieldAddr rfl rfl Tryz.underlying92 rfl size90 rfl rfl) ?_
  refine drR_op rfl rfl (opr_fieldAddr rfl rfl Tryz.underlying90 rfl size60 rfl rfl) ?_
  refine drR_op rfl rfl (opr_move rfl rfl) ?_
  refine drR_op rfl rfl (opr_nilCheck rfl rfl) ?_
  refine drR_op rfl rfl (opr_fieldAddr rfl rfl Tryz.underlying92 rfl size90 rfl rfl) ?_
  refine drR_op rfl rfl (opr_fieldAddr rfl rfl Tryz.underlying90 rfl size60 rfl rfl) ?_
  refine drR_last (v := .tuple #[]) rfl rfl (opr_call rfl rfl rfl Tryz.func43 (by kernel_rfl) rfl (Mul_el (iz := iz + 1) (ix := iz + 1) (iy := 0) (kz := kz + 2) (kx := kz + 2) (ky := 0) hb3 (by (try simp only [List.length_set]); omega) (show 56 * (kz + 2) = oz + 112 from by omega) hb3 (List.getElem?_set_self (by (try simp only [List.length_set]); omega)) (show 56 * (kz + 2) = oz + 112 from by omega) rfl rfl rfl hr2 (by decide))) ?_ ?_
  · rintro _ _ ⟨_, _, _, rfl, _⟩; rfl
  rintro _ _ ⟨r3, hr3, f3, rfl, rfl⟩
  have hb4 : (M.set iz ⟨gz, Tz, EE ((((lz.set (kz + 0) r0).set (kz + 1) r1).set (kz + 2) r2).set (kz + 2) r3)⟩)[iz]? = some ⟨gz, Tz, EE ((((lz.set (kz + 0) r0).set (kz + 1) r1).set (kz + 2) r2).set (kz + 2) r3)⟩ := get_set hz4
  have hb4_gP : (M.set iz ⟨gz, Tz, EE ((((lz.set (kz + 0) r0).set (kz + 1) r1).set (kz + 2) r2).set (kz + 2) r3)⟩)[ip]? = some ⟨gP, TP, EE [X, Y, Z, A, B]⟩ := get_set_ne hP hne
  have hb4_6 : (M.set iz ⟨gz, Tz, EE ((((lz.set (kz + 0) r0).set (kz + 1) r1).set (kz + 2) r2).set (kz + 2) r3)⟩)[jt]? = some ⟨6, Tt, EE [dT]⟩ := get_set_ne hT hnt
  refine at_mem (M2 := ⟨g0, 60, EE [dT]⟩ :: (M.set iz ⟨gz, Tz, EE ((((lz.set (kz + 0) r0).set (kz + 1) r1).set (kz + 2) r2).set (kz + 2) r3)⟩)) (by simp) ?_
  refine at_then ?_
  refine at_seq ?_
  refine at_drawR (by kernel_rfl) (by kernel_rfl) (by kernel_rfl) (List.cons_ne_nil _ _) ?_
  refine drR_op rfl rfl (opr_move rfl rfl) ?_
  refine drR_op rfl rfl (opr_nilCheck rfl rfl) ?_
  refine drR_op rfl rfl (opr_fieldAddr rfl rfl Tryz.underlying92 rfl size90 rfl rfl) ?_
  refine drR_op rfl rfl (opr_fieldAddr rfl rfl Tryz.underlying90 rfl size60 rfl rfl) ?_
  refine drR_op rfl rfl (opr_move rfl rfl) ?_
  refine drR_op rfl rfl (opr_nilCheck rfl rfl) ?_
  refine drR_op rfl rfl (opr_fieldAddr rfl rfl Tryz.underlying92 rfl size90 rfl rfl) ?_
  refine drR_op rfl rfl (opr_fieldAddr rfl rfl Tryz.underlying90 rfl size60 rfl rfl) ?_
  refine drR_op rfl rfl (opr_move rfl rfl) ?_
  refine drR_op rfl rfl (opr_nilCheck rfl rfl) ?_
  refine drR_op rfl rfl (opr_fieldAddr rfl rfl Tryz.underlying92 rfl size90 rfl rfl) ?_
  refine drR_op rfl rfl (opr_fieldAddr rfl rfl Tryz.underlying90 rfl size60 rfl rfl) ?_
  refine drR_last (v := .tuple #[]) rfl rfl (opr_call rfl rfl rfl Tryz.func60 (by kernel_rfl) rfl (Add_el (iz := iz + 1) (ix := iz + 1) (iy := iz + 1) (kz := kz + 2) (kx := kz + 2) (ky := kz + 2) hb4 (by (try simp only [List.length_set]); omega) (show 56 * (kz + 2) = oz + 112 from by omega) hb4 (List.getElem?_set_self (by (try simp only [List.length_set]); omega)) (show 56 * (kz + 2) = oz + 112 from by omega) hb4 (List.getElem?_set_self (by (try simp only [List.length_set]); omega)) (show 56 * (kz + 2) = oz + 112 from by omega) hr3 hr3)) ?_ ?_
  · rintro _ _ ⟨_, _, _, rfl, _⟩; rfl
  rintro _ _ ⟨r4, hr4, f4, rfl, rfl⟩
  have hb5 : (M.set iz ⟨gz, Tz, EE (((((lz.set (kz + 0) r0).set (kz + 1) r1).set (kz + 2) r2).set (kz + 2) r3).set (kz + 2) r4)⟩)[iz]? = some ⟨gz, Tz, EE (((((lz.set (kz + 0) r0).set (kz + 1) r1).set (kz + 2) r2).set (kz + 2) r3).set (kz + 2) r4)⟩ := get_set hz4
  have hb5_gP : (M.set iz ⟨gz, Tz, EE (((((lz.set (kz + 0) r0).set (kz + 1) r1).set (kz + 2) r2).set (kz + 2) r3).set (kz + 2) r4)⟩)[ip]? = some ⟨gP, TP, EE [X, Y, Z, A, B]⟩ := get_set_ne hP hne
  have hb5_6 : (M.set iz ⟨gz, Tz, EE (((((lz.set (kz + 0) r0).set (kz + 1) r1).set (kz + 2) r2).set (kz + 2) r3).set (kz + 2) r4)⟩)[jt]? = some ⟨6, Tt, EE [dT]⟩ := get_set_ne hT hnt
  refine at_mem (M2 := ⟨g0, 60, EE [dT]⟩ :: (M.set iz ⟨gz, Tz, EE (((((lz.set (kz + 0) r0).set (kz + 1) r1).set (kz + 2) r2).set (kz + 2) r3).set (kz + 2) r4)⟩)) (by simp) ?_
  refine at_then ?_
  refine at_drawR (by kernel_rfl) (by kernel_rfl) (by kernel_rfl) (List.cons_ne_nil _ _) ?_
  refine drR_op rfl rfl (opr_move rfl rfl) ?_
  refine drR_op rfl rfl (opr_nilCheck rfl rfl) ?_
  refine drR_op rfl rfl (opr_fieldAddr rfl rfl Tryz.underlying92 rfl size60 rfl rfl) ?_
  refine drR_op rfl rfl (opr_move rfl rfl) ?_
  refine drR_op rfl rfl (opr_nilCheck rfl rfl) ?_
  refine drR_op rfl rfl (opr_fieldAddr rfl rfl Tryz.underlying111 rfl size60 rfl rfl) ?_
  refine drR_op rfl rfl (opr_move rfl rfl) ?_
  refine drR_op rfl rfl (opr_nilCheck rfl rfl) ?_
  refine drR_op rfl rfl (opr_fieldAddr rfl rfl Tryz.underlying111 rfl size60 rfl rfl) ?_
  refine drR_last (v := .tuple #[]) rfl rfl (opr_call rfl rfl rfl Tryz.func60 (by kernel_rfl) rfl (Add_el (iz := iz + 1) (ix := ip + 1) (iy := ip + 1) (kz := kz + 3) (kx := 2) (ky := 2) hb5 (by (try simp only [List.length_set]); omega) (show 56 * (kz + 3) = oz + 168 from by omega) hb5_gP rfl rfl hb5_gP rfl rfl hZ hZ)) ?_ ?_
  · rintro _ _ ⟨_, _, _, rfl, _⟩; rfl
  rintro _ _ ⟨r5, hr5, f5, rfl, rfl⟩
  have hb6 : (M.set iz ⟨gz, Tz, EE ((((((lz.set (kz + 0) r0).set (kz + 1) r1).set (kz + 2) r2).set (kz + 2) r3).set (kz + 2) r4).set (kz + 3) r5)⟩)[iz]? = some ⟨gz, Tz, EE ((((((lz.set (kz + 0) r0).set (kz + 1) r1).set (kz + 2) r2).set (kz + 2) r3).set (kz + 2) r4).set (kz + 3) r5)⟩ := get_set hz4
  have hb6_gP : (M.set iz ⟨gz, Tz, EE ((((((lz.set (kz + 0) r0).set (kz + 1) r1).set (kz + 2) r2).set (kz + 2) r3).set (kz + 2) r4).set (kz + 3) r5)⟩)[ip]? = some ⟨gP, TP, EE [X, Y, Z, A, B]⟩ := get_set_ne hP hne
  have hb6_6 : (M.set iz ⟨gz, Tz, EE ((((((lz.set (kz + 0) r0).set (kz + 1) r1).set (kz + 2) r2).set (kz + 2) r3).set (kz + 2) r4).set (kz + 3) r5)⟩)[jt]? = some ⟨6, Tt, EE [dT]⟩ := get_set_ne hT hnt
  refine at_mem (M2 := ⟨g0, 60, EE [dT]⟩ :: (M.set iz ⟨gz, Tz, EE ((((((lz.set (kz + 0) r0).set (kz + 1) r1).set (kz + 2) r2).set (kz + 2) r3).set (kz + 2) r4).set (kz + 3) r5)⟩)) (by simp) ?_
  refine at_mem (M2 := ⟨g0, 60, EE [dT]⟩ :: (M.set iz ⟨gz, Tz, EE ((((lz.set (kz + 0) r0).set (kz + 1) r1).set (kz + 2) r4).set (kz + 3) r5)⟩)) (by simp only [List.set_set]) ?_
  refine done_of (res0 Tryz.results80) ⟨r0, r1, r4, r5, ⟨hr0, hr1, hr4, hr5, ?_, ?_, ?_, ?_⟩, rfl, rfl⟩ (by repeat (first | exact List.Sublist.refl _ | apply List.Sublist.cons))
  all_goals simp only [f0, f1, f2, f3, f4, f5, el_dT]
  all_goals clear f5 f4 f3 f2 f1 f0
  all_goals generalize el X = Y0, el Y = Y1, el Z = Y2, el A = Y3, el B = Y4, el dP = Y5
  all_goals grind
theorem twFrom_ct {M : Mem} {ip gP TP X Y Z A B : Nat} (hP : M[ip]? = some ⟨gP, TP, EE [X, Y, Z, A, B]⟩) {jt Tt : Nat} (hT : M[jt]? = some ⟨6, Tt, EE [dT]⟩) {iz gz Tz kz oz : Nat} {lz : List Nat} (hz4 : M[iz]? = some ⟨gz, Tz, EE lz⟩) (hkz : kz + 3 < lz.length) (hoz : 56 * kz = oz) (hne : iz ≠ ip) (hnt : iz ≠ jt) {p : Pt} (h : TwB p X Y Z A B) : Ct Tryz.prog 80 #[.pointer (some ⟨gz, oz, none⟩), .pointer (some ⟨gP, 0, none⟩)] M (fun v M' => ∃ a s t u, PrB p a s t u ∧ v = .tuple #[] ∧ M' = M.set iz ⟨gz, Tz, EE ((((lz.set (kz + 0) a).set (kz + 1) s).set (kz + 2) t).set (kz + 3) u)⟩) := by
  refine (twFromR_ct hP hT hz4 hkz hoz hne hnt h.hX h.hY h.hZ h.hA h.hB).mono ?_
  rintro _ _ ⟨a, s, t, u, ⟨ha, hs, ht, hu, ea, es, et, eu⟩, rfl, rfl⟩
  exact ⟨a, s, t, u, h.pre ha hs ht hu ea es et eu, rfl, rfl⟩
end Go.Proofs.YtjlhhcdefcofkaaGreatDoor

/- Moves under a bit, opposites, there and back. -/
namespace Go.Proofs.YtjlhhcdefcofkaaGreatDoor
open Go
set_option maxRecDepth 100000
theorem zero111 : (Tryz.prog.info? 111).bind (·.zero) = some (.agg (EE [0, 0, 0, 0, 0]).toArray) := by kernel_rfl
theorem builtp111 (ps : List (Nat × Nat)) (h : (ps.all fun p => decide (p.1 < 5) && decide ((([(0, 56), (56, 56), (112, 56), (168, 56), (224, 56)] : List (Nat × Nat)).toArray[p.1]? : Option (Nat × Nat)) = some (56 * p.1, 56))) = true) : Tryz.prog.built 111 (ps.map fun p => (p.1, .agg (E p.2).toArray)) = some (EE (ps.foldl (fun l p => l.set p.1 p.2) [0, 0, 0, 0, 0])).toArray := by
  rw [built_str (pl := [(0, 56), (56, 56), (112, 56), (168, 56), (224, 56)]) Tryz.underlying111 zero111 (by kernel_rfl)]
  exact fillEE ps [0, 0, 0, 0, 0] h
theorem cmovA_ct {M : Mem} {b : Nat} (hb : b = 0 ∨ b = 1) {is gS TS a s t u : Nat} (hS : M[is]? = some ⟨gS, TS, EE [a, s, t, u]⟩) {iz gz Tz kz oz a' s' t' u' : Nat} {lz : List Nat} (hz4 : M[iz]? = some ⟨gz, Tz, EE lz⟩) (hkz : kz + 3 < lz.length) (hoz : 56 * kz = oz) (q0 : lz[kz + 0]? = some a') (q1 : lz[kz + 1]? = some s') (q2 : lz[kz + 2]? = some t') (q3 : lz[kz + 3]? = some u') (hne : is ≠ iz) (ha : a < RR) (hs : s < RR) (ht : t < RR) (hu : u < RR) (ha' : a' < RR) (hs' : s' < RR) (ht' : t' < RR) (hu' : u' < RR) : Ct Tryz.prog 81 #[.pointer (some ⟨gS, 0, none⟩), .pointer (some ⟨gz, oz, none⟩), .int .u64 (b : Int)] M (Det (.tuple #[]) (M.set is ⟨gS, TS, EE [sel b a a', sel b s s', sel b t t', u]⟩)) := by
  refine ct_of (vs := [.pointer (some ⟨gS, 0, none⟩), .pointer (some ⟨gz, oz, none⟩), .int .u64 (b : Int)]) Tryz.func81 rfl Tryz.ntmps81 rfl fun w0 => ?_
  refine at_seq ?_
  refine at_draw (by kernel_rfl) (by kernel_rfl) (by kernel_rfl) (List.cons_ne_nil _ _) ?_
  refine dr_op rfl rfl (opr_move rfl rfl) ?_
  refine dr_op rfl rfl (opr_nilCheck rfl rfl) ?_
  refine dr_op rfl rfl (opr_fieldAddr rfl rfl Tryz.underlying90 rfl size60 rfl rfl) ?_
  refine dr_op rfl rfl (opr_move rfl rfl) ?_
  refine dr_op rfl rfl (opr_nilCheck rfl rfl) ?_
  refine dr_op rfl rfl (opr_fieldAddr rfl rfl Tryz.underlying90 rfl size60 rfl rfl) ?_
  refine dr_op rfl rfl (opr_move rfl rfl) ?_
  refine dr_last rfl rfl (opr_call rfl rfl rfl Tryz.func82 (by kernel_rfl) rfl (Cmov_ct hb (ix := is) (iy := iz) (kx := 0) (ky := kz + 0) hS rfl rfl hz4 q0 (show 56 * (kz + 0) = oz from by omega) ha ha')) ?_
  have hb1 : (M.set is ⟨gS, TS, EE [(sel b a a'), s, t, u]⟩)[is]? = some ⟨gS, TS, EE [(sel b a a'), s, t, u]⟩ := get_set hS
  have hb1_gz : (M.set is ⟨gS, TS, EE [(sel b a a'), s, t, u]⟩)[iz]? = some ⟨gz, Tz, EE lz⟩ := get_set_ne hz4 hne
  refine at_mem (M2 := (M.set is ⟨gS, TS, EE [(sel b a a'), s, t, u]⟩)) (by simp) ?_
  refine at_then ?_
  refine at_seq ?_
  refine at_draw (by kernel_rfl) (by kernel_rfl) (by kernel_rfl) (List.cons_ne_nil _ _) ?_
  refine dr_op rfl rfl (opr_move rfl rfl) ?_
  refine dr_op rfl rfl (opr_nilCheck rfl rfl) ?_
  refine dr_op rfl rfl (opr_fieldAddr rfl rfl Tryz.underlying90 rfl size60 rfl rfl) ?_
  refine dr_op rfl rfl (opr_move rfl rfl) ?_
  refine dr_op rfl rfl (opr_nilCheck rfl rfl) ?_
  refine dr_op rfl rfl (opr_fieldAddr rfl rfl Tryz.underlying90 rfl size60 rfl rfl) ?_
  refine dr_op rfl rfl (opr_move rfl rfl) ?_
  refine dr_last rfl rfl (opr_call rfl rfl rfl Tryz.func82 (by kernel_rfl) rfl (Cmov_ct hb (ix := is) (iy := iz) (kx := 1) (ky := kz + 1) hb1 rfl rfl hb1_gz q1 (show 56 * (kz + 1) = oz + 56 from by omega) hs hs')) ?_
  have hb2 : (M.set is ⟨gS, TS, EE [(sel b a a'), (sel b s s'), t, u]⟩)[is]? = some ⟨gS, TS, EE [(sel b a a'), (sel b s s'), t, u]⟩ := get_set hS
  have hb2_gz : (M.set is ⟨gS, TS, EE [(sel b a a'), (sel b s s'), t, u]⟩)[iz]? = some ⟨gz, Tz, EE lz⟩ := get_set_ne hz4 hne
  refine at_mem (M2 := (M.set is ⟨gS, TS, EE [(sel b a a'), (sel b s s'), t, u]⟩)) (by simp) ?_
  refine at_then ?_
  refine at_draw (by kernel_rfl) (by kernel_rfl) (by kernel_rfl) (List.cons_ne_nil _ _) ?_
  refine dr_op rfl rfl (opr_move rfl rfl) ?_
  refine dr_op rfl rfl (opr_nilCheck rfl rfl) ?_
  refine dr_op rfl rfl (opr_fieldAddr rfl rfl Tryz.underlying90 rfl size60 rfl rfl) ?_
  refine dr_op rfl rfl (opr_move rfl rfl) ?_
  refine dr_op rfl rfl (opr_nilCheck rfl rfl) ?_
  refine dr_op rfl rfl (opr_fieldAddr rfl rfl Tryz.underlying90 rfl size60 rfl rfl) ?_
  refine dr_op rfl rfl (opr_move rfl rfl) ?_
  refine dr_last rfl rfl (opr_call rfl rfl rfl Tryz.func82 (by kernel_rfl) rfl (Cmov_ct hb (ix := is) (iy := iz) (kx := 2) (ky := kz + 2) hb2 rfl rfl hb2_gz q2 (show 56 * (kz + 2) = oz + 112 from by omega) ht ht')) ?_
  have hb3 : (M.set is ⟨gS, TS, EE [(sel b a a'), (sel b s s'), (sel b t t'), u]⟩)[is]? = some ⟨gS, TS, EE [(sel b a a'), (sel b s s'), (sel b t t'), u]⟩ := get_set hS
  have hb3_gz : (M.set is ⟨gS, TS, EE [(sel b a a'), (sel b s s'), (sel b t t'), u]⟩)[iz]? = some ⟨gz, Tz, EE lz⟩ := get_set_ne hz4 hne
  refine at_mem (M2 := (M.set is ⟨gS, TS, EE [(sel b a a'), (sel b s s'), (sel b t t'), u]⟩)) (by simp) ?_
  exact done_of (res0 Tryz.results81) ⟨rfl, rfl⟩ (by repeat (first | exact List.Sublist.refl _ | apply List.Sublist.cons))
theorem cmovP_ct {M : Mem} {b : Nat} (hb : b = 0 ∨ b = 1) {is gS TS a s t u : Nat} (hS : M[is]? = some ⟨gS, TS, EE [a, s, t, u]⟩) {iz gz Tz kz oz a' s' t' u' : Nat} {lz : List Nat} (hz4 : M[iz]? = some ⟨gz, Tz, EE lz⟩) (hkz : kz + 3 < lz.length) (hoz : 56 * kz = oz) (q0 : lz[kz + 0]? = some a') (q1 : lz[kz + 1]? = some s') (q2 : lz[kz + 2]? = some t') (q3 : lz[kz + 3]? = some u') (hne : is ≠ iz) (ha : a < RR) (hs : s < RR) (ht : t < RR) (hu : u < RR) (ha' : a' < RR) (hs' : s' < RR) (ht' : t' < RR) (hu' : u' < RR) : Ct Tryz.prog 55 #[.pointer (some ⟨gS, 0, none⟩), .pointer (some ⟨gz, oz, none⟩), .int .u64 (b : Int)] M (Det (.tuple #[]) (M.set is ⟨gS, TS, EE [sel b a a', sel b s s', sel b t t', sel b u u']⟩)) := by
  refine ct_of (vs := [.pointer (some ⟨gS, 0, none⟩), .pointer (some ⟨gz, oz, none⟩), .int .u64 (b : Int)]) Tryz.func55 rfl Tryz.ntmps55 rfl fun w0 => ?_
  refine at_seq ?_
  refine at_draw (by kernel_rfl) (by kernel_rfl) (by kernel_rfl) (List.cons_ne_nil _ _) ?_
  refine dr_op rfl rfl (opr_move rfl rfl) ?_
  refine dr_op rfl rfl (opr_nilCheck rfl rfl) ?_
  refine dr_op rfl rfl (opr_fieldAddr rfl rfl Tryz.underlying92 rfl size90 rfl rfl) ?_
  refine dr_op rfl rfl (opr_move rfl rfl) ?_
  refine dr_op rfl rfl (opr_nilCheck rfl rfl) ?_
  refine dr_op rfl rfl (opr_fieldAddr rfl rfl Tryz.underlying92 rfl size90 rfl rfl) ?_
  refine dr_op rfl rfl (opr_move rfl rfl) ?_
  refine dr_last rfl rfl (opr_call rfl rfl rfl Tryz.func81 (by kernel_rfl) rfl (cmovA_ct (is := is) (iz := iz) (kz := kz) hb hS hz4 hkz (show 56 * kz = oz from hoz) q0 q1 q2 q3 hne ha hs ht hu ha' hs' ht' hu')) ?_
  have hb1 : (M.set is ⟨gS, TS, EE [(sel b a a'), (sel b s s'), (sel b t t'), u]⟩)[is]? = some ⟨gS, TS, EE [(sel b a a'), (sel b s s'), (sel b t t'), u]⟩ := get_set hS
  have hb1_gz : (M.set is ⟨gS, TS, EE [(sel b a a'), (sel b s s'), (sel b t t'), u]⟩)[iz]? = some ⟨gz, Tz, EE lz⟩ := get_set_ne hz4 hne
  refine at_mem (M2 := (M.set is ⟨gS, TS, EE [(sel b a a'), (sel b s s'), (sel b t t'), u]⟩)) (by simp) ?_
  refine at_then ?_
  refine at_draw (by kernel_rfl) (by kernel_rfl) (by kernel_rfl) (List.cons_ne_nil _ _) ?_
  refine dr_op rfl rfl (opr_move rfl rfl) ?_
  refine dr_op rfl rfl (opr_nilCheck rfl rfl) ?_
  refine dr_op rfl rfl (opr_fieldAddr rfl rfl Tryz.underlying92 rfl size60 rfl rfl) ?_
  refine dr_op rfl rfl (opr_move rfl rfl) ?_
  refine dr_op rfl rfl (opr_nilCheck rfl rfl) ?_
  refine dr_op rfl rfl (opr_fieldAddr rfl rfl Tryz.underlying92 rfl size60 rfl rfl) ?_
  refine dr_op rfl rfl (opr_move rfl rfl) ?_
  refine dr_last rfl rfl (opr_call rfl rfl rfl Tryz.func82 (by kernel_rfl) rfl (Cmov_ct hb (ix := is) (iy := iz) (kx := 3) (ky := kz + 3) hb1 rfl rfl hb1_gz q3 (show 56 * (kz + 3) = oz + 168 from by omega) hu hu')) ?_
  have hb2 : (M.set is ⟨gS, TS, EE [(sel b a a'), (sel b s s'), (sel b t t'), (sel b u u')]⟩)[is]? = some ⟨gS, TS, EE [(sel b a a'), (sel b s s'), (sel b t t'), (sel b u u')]⟩ := get_set hS
  have hb2_gz : (M.set is ⟨gS, TS, EE [(sel b a a'), (sel b s s'), (sel b t t'), (sel b u u')]⟩)[iz]? = some ⟨gz, Tz, EE lz⟩ := get_set_ne hz4 hne
  refine at_mem (M2 := (M.set is ⟨gS, TS, EE [(sel b a a'), (sel b s s'), (sel b t t'), (sel b u u')]⟩)) (by simp) ?_
  exact done_of (res0 Tryz.results55) ⟨rfl, rfl⟩ (by repeat (first | exact List.Sublist.refl _ | apply List.Sublist.cons))
theorem cnegPR_ct {M : Mem} {ig Tp : Nat} (hG : M[ig]? = some ⟨3, Tp, EE [pp]⟩) {b : Nat} (hb : b = 0 ∨ b = 1) {is gS TS a s t u : Nat} (hS : M[is]? = some ⟨gS, TS, EE [a, s, t, u]⟩) (hng : is ≠ ig) (ha : a < RR) (hs : s < RR) (ht : t < RR) (hu : u < RR) : Ct Tryz.prog 57 #[.pointer (some ⟨gS, 0, none⟩), .int .i64 (b : Int)] M (fun v M' => ∃ c, c < RR ∧ el c = -el t ∧ v = .tuple #[] ∧ M' = M.set is ⟨gS, TS, EE [sel b a s, sel b s a, sel b t c, u]⟩) := by
  refine ct_of (vs := [.pointer (some ⟨gS, 0, none⟩), .int .i64 (b : Int)]) Tryz.func57 rfl Tryz.ntmps57 rfl fun w0 => ?_
  refine at_seq ?_
  refine at_region ?_
  refine at_d rfl rfl (opr_buildE (ds := E 0) rfl rfl builtz60 rfl) ?_
  refine at_n rfl rfl (opr_box (cs := EE [0]) rfl rfl (E_box _)) ?_
  intro g0
  refine at_d rfl rfl (opr_assign rfl rfl) ?_
  refine at_nil ?_
  refine at_then ?_
  refine at_seq ?_
  refine at_draw (by kernel_rfl) (by kernel_rfl) (by kernel_rfl) (List.cons_ne_nil _ _) ?_
  refine dr_op rfl rfl (opr_move rfl rfl) ?_
  refine dr_op rfl rfl (opr_nilCheck rfl rfl) ?_
  refine dr_op rfl rfl (opr_fieldAddr rfl rfl Tryz.underlying90 rfl size60 rfl rfl) ?_
  refine dr_op rfl rfl (opr_move rfl rfl) ?_
  refine dr_op rfl rfl (opr_nilCheck rfl rfl) ?_
  refine dr_op rfl rfl (opr_fieldAddr rfl rfl Tryz.underlying90 rfl size60 rfl rfl) ?_
  refine dr_op rfl rfl (opr_move rfl rfl) ?_
  refine dr_op rfl rfl (opr_to64 (n := b) rfl rfl Tryz.underlying3 Tryz.underlying104 (by omega)) ?_
  refine dr_last rfl rfl (opr_call rfl rfl rfl Tryz.func84 (by kernel_rfl) rfl (CswapS_ct hb (ix := is + 1) (kx := 0) (ky := 1) hS rfl rfl rfl rfl (by decide) ha hs)) ?_
  have hb1 : (M.set is ⟨gS, TS, EE [(sel b a s), (sel b s a), t, u]⟩)[is]? = some ⟨gS, TS, EE [(sel b a s), (sel b s a), t, u]⟩ := get_set hS
  have hb1_3 : (M.set is ⟨gS, TS, EE [(sel b a s), (sel b s a), t, u]⟩)[ig]? = some ⟨3, Tp, EE [pp]⟩ := get_set_ne hG hng
  refine at_mem (M2 := ⟨g0, 60, EE [0]⟩ :: (M.set is ⟨gS, TS, EE [(sel b a s), (sel b s a), t, u]⟩)) (by simp) ?_
  refine at_then ?_
  refine at_seq ?_
  refine at_region ?_
  refine at_d rfl rfl (opr_move rfl rfl) ?_
  refine at_d rfl rfl (opr_move rfl rfl) ?_
  refine at_d rfl rfl (opr_nilCheck rfl rfl) ?_
  refine at_d rfl rfl (opr_fieldAddr rfl rfl Tryz.underlying90 rfl size60 rfl rfl) ?_
  refine at_c rfl rfl (opr_call rfl rfl rfl Tryz.func75 (by kernel_rfl) rfl (Neg_el (ig := ig + 1) (iz := 0) (ix := is + 1) (kz := 0) (kx := 2) hb1_3 rfl (Nat.le_of_ble_eq_true rfl) rfl hb1 rfl rfl ht)) ?_
  rintro _ _ ⟨r0, hr0, f0, rfl, rfl⟩
  refine at_nil ?_
  refine at_then ?_
  refine at_region ?_
  refine at_d rfl rfl (opr_move rfl rfl) ?_
  refine at_d rfl rfl (opr_nilCheck rfl rfl) ?_
  refine at_d rfl rfl (opr_fieldAddr rfl rfl Tryz.underlying90 rfl size60 rfl rfl) ?_
  refine at_d rfl rfl (opr_move rfl rfl) ?_
  refine at_d rfl rfl (opr_move rfl rfl) ?_
  refine at_d rfl rfl (opr_to64 (n := b) rfl rfl Tryz.underlying3 Tryz.underlying104 (by omega)) ?_
  refine at_d rfl rfl (opr_call rfl rfl rfl Tryz.func82 (by kernel_rfl) rfl (Cmov_ct hb (ix := is + 1) (iy := 0) (kx := 2) (ky := 0) hb1 rfl rfl rfl rfl rfl ht hr0)) ?_
  have hb2 : (M.set is ⟨gS, TS, EE [(sel b a s), (sel b s a), (sel b t r0), u]⟩)[is]? = some ⟨gS, TS, EE [(sel b a s), (sel b s a), (sel b t r0), u]⟩ := get_set hS
  have hb2_3 : (M.set is ⟨gS, TS, EE [(sel b a s), (sel b s a), (sel b t r0), u]⟩)[ig]? = some ⟨3, Tp, EE [pp]⟩ := get_set_ne hG hng
  refine at_mem (M2 := ⟨g0, 60, EE [r0]⟩ :: (M.set is ⟨gS, TS, EE [(sel b a s), (sel b s a), (sel b t r0), u]⟩)) (by simp) ?_
  refine at_nil ?_
  refine done_of (res0 Tryz.results57) ⟨r0, hr0, ?_, rfl, rfl⟩ (by repeat (first | exact List.Sublist.refl _ | apply List.Sublist.cons))
  exact f0
theorem cnegP_ct {M : Mem} {ig Tp : Nat} (hG : M[ig]? = some ⟨3, Tp, EE [pp]⟩) {b : Nat} (hb : b = 0 ∨ b = 1) {is gS TS a s t u : Nat} (hS : M[is]? = some ⟨gS, TS, EE [a, s, t, u]⟩) (hng : is ≠ ig) {q : Pt} (k : PrB q a s t u) : Ct Tryz.prog 57 #[.pointer (some ⟨gS, 0, none⟩), .int .i64 (b : Int)] M (fun v M' => ∃ a s t u, PrB (pif b q) a s t u ∧ v = .tuple #[] ∧ M' = M.set is ⟨gS, TS, EE [a, s, t, u]⟩) := by
  refine (cnegPR_ct hG hb hS hng k.ha k.hs k.ht k.hz).mono ?_
  rintro _ _ ⟨c, hc, ec, rfl, rfl⟩
  exact ⟨_, _, _, _, k.cneg hb hc ec, rfl, rfl⟩
theorem cnegTR_ct {M : Mem} {ig Tp : Nat} (hG : M[ig]? = some ⟨3, Tp, EE [pp]⟩) {b : Nat} (hb : b = 0 ∨ b = 1) {ip gP TP X Y Z A B : Nat} (hP : M[ip]? = some ⟨gP, TP, EE [X, Y, Z, A, B]⟩) (hng : ip ≠ ig) (hX : X < RR) (hY : Y < RR) (hZ : Z < RR) (hA : A < RR) (hB : B < RR) : Ct Tryz.prog 59 #[.pointer (some ⟨gP, 0, none⟩), .int .u64 (b : Int)] M (fun v M' => ∃ x a, x < RR ∧ a < RR ∧ el x = -el X ∧ el a = -el A ∧ v = .tuple #[] ∧ M' = M.set ip ⟨gP, TP, EE [sel b X x, Y, Z, sel b A a, B]⟩) := by
  refine ct_of (vs := [.pointer (some ⟨gP, 0, none⟩), .int .u64 (b : Int)]) Tryz.func59 rfl Tryz.ntmps59 rfl fun w0 => ?_
  refine at_seq ?_
  refine at_region ?_
  refine at_d rfl rfl (opr_buildE (ds := E 0) rfl rfl builtz60 rfl) ?_
  refine at_n rfl rfl (opr_box (cs := EE [0]) rfl rfl (E_box _)) ?_
  intro g0
  refine at_d rfl rfl (opr_assign rfl rfl) ?_
  refine at_nil ?_
  refine at_then ?_
  refine at_seq ?_
  refine at_region ?_
  refine at_d rfl rfl (opr_move rfl rfl) ?_
  refine at_d rfl rfl (opr_move rfl rfl) ?_
  refine at_d rfl rfl (opr_nilCheck rfl rfl) ?_
  refine at_d rfl rfl (opr_fieldAddr rfl rfl Tryz.underlying111 rfl size60 rfl rfl) ?_
  refine at_c rfl rfl (opr_call rfl rfl rfl Tryz.func75 (by kernel_rfl) rfl (Neg_el (ig := ig + 1) (iz := 0) (ix := ip + 1) (kz := 0) (kx := 0) hG rfl (Nat.le_of_ble_eq_true rfl) rfl hP rfl rfl hX)) ?_
  rintro _ _ ⟨r0, hr0, f0, rfl, rfl⟩
  refine at_nil ?_
  refine at_then ?_
  refine at_seq ?_
  refine at_region ?_
  refine at_d rfl rfl (opr_move rfl rfl) ?_
  refine at_d rfl rfl (opr_nilCheck rfl rfl) ?_
  refine at_d rfl rfl (opr_fieldAddr rfl rfl Tryz.underlying111 rfl size60 rfl rfl) ?_
  refine at_d rfl rfl (opr_move rfl rfl) ?_
  refine at_d rfl rfl (opr_move rfl rfl) ?_
  refine at_d rfl rfl (opr_call rfl rfl rfl Tryz.func82 (by kernel_rfl) rfl (Cmov_ct hb (ix := ip + 1) (iy := 0) (kx := 0) (ky := 0) hP rfl rfl rfl rfl rfl hX hr0)) ?_
  have hb1 : (M.set ip ⟨gP, TP, EE [(sel b X r0), Y, Z, A, B]⟩)[ip]? = some ⟨gP, TP, EE [(sel b X r0), Y, Z, A, B]⟩ := get_set hP
  have hb1_3 : (M.set ip ⟨gP, TP, EE [(sel b X r0), Y, Z, A, B]⟩)[ig]? = some ⟨3, Tp, EE [pp]⟩ := get_set_ne hG hng
  refine at_mem (M2 := ⟨g0, 60, EE [r0]⟩ :: (M.set ip ⟨gP, TP, EE [(sel b X r0), Y, Z, A, B]⟩)) (by simp) ?_
  refine at_nil ?_
  refine at_then ?_
  refine at_seq ?_
  refine at_region ?_
  refine at_d rfl rfl (opr_move rfl rfl) ?_
  refine at_d rfl rfl (opr_move rfl rfl) ?_
  refine at_d rfl rfl (opr_nilCheck rfl rfl) ?_
  refine at_d rfl rfl (opr_fieldAddr rfl rfl Tryz.underlying111 rfl size60 rfl rfl) ?_
  refine at_c rfl rfl (opr_call rfl rfl rfl Tryz.func75 (by kernel_rfl) rfl (Neg_el (ig := ig + 1) (iz := 0) (ix := ip + 1) (kz := 0) (kx := 3) hb1_3 rfl (Nat.le_of_ble_eq_true rfl) rfl hb1 rfl rfl hA)) ?_
  rintro _ _ ⟨r1, hr1, f1, rfl, rfl⟩
  refine at_nil ?_
  refine at_then ?_
  refine at_region ?_
  refine at_d rfl rfl (opr_move rfl rfl) ?_
  refine at_d rfl rfl (opr_nilCheck rfl rfl) ?_
  refine at_d rfl rfl (opr_fieldAddr rfl rfl Tryz.underlying111 rfl size60 rfl rfl) ?_
  refine at_d rfl rfl (opr_move rfl rfl) ?_
  refine at_d rfl rfl (opr_move rfl rfl) ?_
  refine at_d rfl rfl (opr_call rfl rfl rfl Tryz.func82 (by kernel_rfl) rfl (Cmov_ct hb (ix := ip + 1) (iy := 0) (kx := 3) (ky := 0) hb1 rfl rfl rfl rfl rfl hA hr1)) ?_
  have hb2 : (M.set ip ⟨gP, TP, EE [(sel b X r0), Y, Z, (sel b A r1), B]⟩)[ip]? = some ⟨gP, TP, EE [(sel b X r0), Y, Z, (sel b A r1), B]⟩ := get_set hP
  have hb2_3 : (M.set ip ⟨gP, TP, EE [(sel b X r0), Y, Z, (sel b A r1), B]⟩)[ig]? = some ⟨3, Tp, EE [pp]⟩ := get_set_ne hG hng
  refine at_mem (M2 := ⟨g0, 60, EE [r1]⟩ :: (M.set ip ⟨gP, TP, EE [(sel b X r0), Y, Z, (sel b A r1), B]⟩)) (by simp) ?_
  refine at_nil ?_
  exact done_of (res0 Tryz.results59) ⟨r0, r1, hr0, hr1, f0, f1, rfl, rfl⟩ (by repeat (first | exact List.Sublist.refl _ | apply List.Sublist.cons))
theorem cnegT_ct {M : Mem} {ig Tp : Nat} (hG : M[ig]? = some ⟨3, Tp, EE [pp]⟩) {b : Nat} (hb : b = 0 ∨ b = 1) {ip gP TP X Y Z A B : Nat} (hP : M[ip]? = some ⟨gP, TP, EE [X, Y, Z, A, B]⟩) (hng : ip ≠ ig) {p : Pt} (h : TwB p X Y Z A B) : Ct Tryz.prog 59 #[.pointer (some ⟨gP, 0, none⟩), .int .u64 (b : Int)] M (fun v M' => ∃ x3 y3 z3 a3 b3, TwB (pif b p) x3 y3 z3 a3 b3 ∧ v = .tuple #[] ∧ M' = M.set ip ⟨gP, TP, EE [x3, y3, z3, a3, b3]⟩) := by
  refine (cnegTR_ct hG hb hP hng h.hX h.hY h.hZ h.hA h.hB).mono ?_
  rintro _ _ ⟨x, a, hx, ha, ex, ea, rfl, rfl⟩
  exact ⟨_, _, _, _, _, h.cneg hb hx ha ex ea, rfl, rfl⟩
theorem twId_ct {M : Mem} : Ct Tryz.prog 53 #[.agg ([] : List Value).toArray] M (fun v M' => ∃ g, v = .pointer (some ⟨g, 0, none⟩) ∧ M' = ⟨g, 111, EE [0, 1, 1, 0, 0]⟩ :: M) := by
  refine ct_of (vs := [.agg ([] : List Value).toArray]) Tryz.func53 rfl Tryz.ntmps53 rfl fun w0 => ?_
  refine at_seq ?_
  refine at_region ?_
  refine at_n rfl rfl (opr_box rfl rfl rfl) ?_
  intro g0
  refine at_d rfl rfl (opr_assign rfl rfl) ?_
  refine at_nil ?_
  refine at_then ?_
  refine at_seq ?_
  refine at_region ?_
  refine at_d rfl rfl (opr_call rfl rfl rfl Tryz.func39 (by kernel_rfl) rfl (fOne_ct)) ?_
  refine at_d rfl rfl (opr_call rfl rfl rfl Tryz.func39 (by kernel_rfl) rfl (fOne_ct)) ?_
  refine at_d rfl rfl (opr_buildE (ds := EE [0, 1, 1, 0, 0]) rfl rfl (builtp111 [(1, 1), (2, 1)] rfl) rfl) ?_
  refine at_n rfl rfl (opr_box rfl rfl rfl) ?_
  intro g1
  refine at_d rfl rfl (opr_assign rfl rfl) ?_
  refine at_nil ?_
  refine at_then ?_
  refine at_ret ?_
  exact done_of (res1 Tryz.results53 (res_tmp rfl)) ⟨_, rfl, rfl⟩ (by repeat (first | exact List.Sublist.refl _ | apply List.Sublist.cons_cons | apply List.Sublist.cons))
set_option maxHeartbeats 1000000 in
theorem pushR_ct {M : Mem} {ig Tp : Nat} (hG : M[ig]? = some ⟨3, Tp, EE [pp]⟩) {ip gP TP X Y Z A B : Nat} (hP : M[ip]? = some ⟨gP, TP, EE [X, Y, Z, A, B]⟩) (hX : X < RR) (hY : Y < RR) (hZ : Z < RR) : Ct Tryz.prog 32 #[.agg ([] : List Value).toArray, .pointer (some ⟨gP, 0, none⟩)] M (fun v M' => ∃ g x3 y3 z3 a3 b3, x3 < RR ∧ y3 < RR ∧ z3 < RR ∧ a3 < RR ∧ b3 < RR ∧ el x3 = (2 * (el X * el Y)) * (2 * (el Z * el Z) - (el Y * el Y + el X * el X)) ∧ el y3 = (el Y * el Y - el X * el X) * (el Y * el Y + el X * el X) ∧ el z3 = (2 * (el Z * el Z) - (el Y * el Y + el X * el X)) * (el Y * el Y - el X * el X) ∧ el a3 = (2 * (el X * el Y)) ∧ el b3 = (el Y * el Y + el X * el X) ∧ v = .pointer (some ⟨g, 0, none⟩) ∧ M' = ⟨g, 111, EE [x3, y3, z3, a3, b3]⟩ :: M) := by
  refine ct_of (vs := [.agg ([] : List Value).toArray, .pointer (some ⟨gP, 0, none⟩)]) Tryz.func32 rfl Tryz.ntmps32 rfl fun w0 => ?_
  refine at_seq ?_
  refine at_region ?_
  refine at_n rfl rfl (opr_box rfl rfl rfl) ?_
  intro g0
  refine at_d rfl rfl (opr_assign rfl rfl) ?_
  refine at_nil ?_
  refine at_then ?_
  refine at_seq ?_
  refine at_region ?_
  refine at_d rfl rfl (opr_buildE (ds := EE [0, 0, 0, 0, 0]) rfl rfl (builtp111 [] rfl) rfl) ?_
  refine at_n rfl rfl (opr_box rfl rfl rfl) ?_
  intro g1
  refine at_d rfl rfl (opr_assign rfl rfl) ?_
  refine at_nil ?_
  refine at_then ?_
  refine at_seq ?_
  refine at_draw (by kernel_rfl) (by kernel_rfl) (by kernel_rfl) (List.cons_ne_nil _ _) ?_
  refine dr_op rfl rfl (opr_move rfl rfl) ?_
  refine dr_op rfl rfl (opr_nilCheck rfl rfl) ?_
  refine dr_op rfl rfl (opr_fieldAddr rfl rfl Tryz.underlying82 rfl size60 rfl rfl) ?_
  refine dr_op rfl rfl (opr_move rfl rfl) ?_
  refine dr_op rfl rfl (opr_nilCheck rfl rfl) ?_
  refine dr_op rfl rfl (opr_fieldAddr rfl rfl Tryz.underlying82 rfl size60 rfl rfl) ?_
  refine dr_op rfl rfl (opr_move rfl rfl) ?_
  refine dr_op rfl rfl (opr_nilCheck rfl rfl) ?_
  refine dr_op rfl rfl (opr_fieldAddr rfl rfl Tryz.underlying82 rfl size60 rfl rfl) ?_
  refine dr_op rfl rfl (opr_assign rfl rfl) ?_
  refine dr_op rfl rfl (opr_assign rfl rfl) ?_
  refine dr_last rfl rfl (opr_assign rfl rfl) ?_
  refine at_then ?_
  refine at_seq ?_
  refine at_drawG (B := [⟨g1, 111, EE [0, 0, 0, 0, 0]⟩, ⟨g0, 47, []⟩]) (E := [⟨.pure [], 0, [], .v (.pointer (some ⟨g1, 0, none⟩))⟩, ⟨.pure [], 0, [], .v (.pointer (some ⟨g1, 0, none⟩))⟩, ⟨.pure [], 0, [], .v (.pointer (some ⟨g1, 0, none⟩))⟩, ⟨.pure [], 0, [], .v (.pointer (some ⟨g1, 0, none⟩))⟩, ⟨.pure [], 0, [], .v (.pointer (some ⟨g1, 0, none⟩))⟩, ⟨.pure [], 0, [], .v (.pointer (some ⟨g1, 56, none⟩))⟩, ⟨.pure [], 0, [], .v (.pointer (some ⟨g1, 0, none⟩))⟩, ⟨.pure [], 0, [], .v (.pointer (some ⟨g1, 0, none⟩))⟩, ⟨.pure [], 0, [], .v (.pointer (some ⟨g1, 112, none⟩))⟩, ⟨.pure [], 0, [], .v (.agg (E (0)).toArray)⟩, ⟨.alloc, 60, EE [0], .p 10 0⟩, ⟨.pure [], 0, [], .v (.pointer (some ⟨g1, 0, none⟩))⟩, ⟨.pure [], 0, [], .v (.pointer (some ⟨g1, 0, none⟩))⟩, ⟨.pure [], 0, [], .v (.pointer (some ⟨g1, 168, none⟩))⟩, ⟨.pure [], 0, [], .v (.pointer (some ⟨g1, 0, none⟩))⟩, ⟨.pure [], 0, [], .v (.pointer (some ⟨g1, 0, none⟩))⟩, ⟨.pure [], 0, [], .v (.pointer (some ⟨g1, 0, none⟩))⟩, ⟨.pure [], 0, [], .v (.pointer (some ⟨g1, 0, none⟩))⟩, ⟨.pure [], 0, [], .v (.pointer (some ⟨g1, 0, none⟩))⟩, ⟨.pure [], 0, [], .v (.pointer (some ⟨g1, 56, none⟩))⟩, ⟨.pure [], 0, [], .v (.pointer (some ⟨g1, 0, none⟩))⟩, ⟨.pure [], 0, [], .v (.pointer (some ⟨g1, 0, none⟩))⟩, ⟨.pure [], 0, [], .v (.pointer (some ⟨g1, 224, none⟩))⟩, ⟨.pure [], 0, [], .v (.pointer (some ⟨g1, 0, none⟩))⟩, ⟨.pure [], 0, [], .v (.pointer (some ⟨g1, 56, none⟩))⟩, ⟨.pure [], 0, [], .v (.pointer (some ⟨g1, 112, none⟩))⟩, ⟨.pure [], 0, [], .p 10 0⟩, ⟨.pure [], 0, [], .v (.pointer (some ⟨g1, 168, none⟩))⟩, ⟨.pure [], 0, [], .v (.pointer (some ⟨g1, 0, none⟩))⟩, ⟨.pure [], 0, [], .v (.pointer (some ⟨g1, 56, none⟩))⟩, ⟨.pure [], 0, [], .v (.pointer (some ⟨g1, 224, none⟩))⟩]) (by kernel_rfl) (by kernel_rfl) (by kernel_rfl) (fun γ0 => ?_)
  refine gs_pure rfl rfl (fun M' sB sT => ?_) ?_
  · exact opr_move rfl rfl
  refine gs_pure rfl rfl (fun M' sB sT => ?_) ?_
  · exact opr_nilCheck rfl rfl
  refine gs_pure rfl rfl (fun M' sB sT => ?_) ?_
  · exact opr_fieldAddr rfl rfl Tryz.underlying111 rfl size60 rfl rfl
  refine gs_pure rfl rfl (fun M' sB sT => ?_) ?_
  · exact opr_move rfl rfl
  refine gs_pure rfl rfl (fun M' sB sT => ?_) ?_
  · exact opr_nilCheck rfl rfl
  refine gs_pure rfl rfl (fun M' sB sT => ?_) ?_
  · exact opr_fieldAddr rfl rfl Tryz.underlying111 rfl size60 rfl rfl
  refine gs_pure rfl rfl (fun M' sB sT => ?_) ?_
  · exact opr_move rfl rfl
  refine gs_pure rfl rfl (fun M' sB sT => ?_) ?_
  · exact opr_nilCheck rfl rfl
  refine gs_pure rfl rfl (fun M' sB sT => ?_) ?_
  · exact opr_fieldAddr rfl rfl Tryz.underlying111 rfl size60 rfl rfl
  refine gs_pure rfl rfl (fun M' sB sT => ?_) ?_
  · exact opr_buildE (ds := E 0) rfl rfl builtz60 rfl
  refine gs_alloc rfl rfl (fun M' => opr_box (cs := EE [0]) rfl rfl (E_box _)) ?_
  refine gs_pure rfl rfl (fun M' sB sT => ?_) ?_
  · exact opr_move rfl rfl
  refine gs_pure rfl rfl (fun M' sB sT => ?_) ?_
  · exact opr_nilCheck rfl rfl
  refine gs_pure rfl rfl (fun M' sB sT => ?_) ?_
  · exact opr_fieldAddr rfl rfl Tryz.underlying111 rfl size60 rfl rfl
  refine gs_pure rfl rfl (fun M' sB sT => ?_) ?_
  · exact opr_move rfl rfl
  refine gs_pure rfl rfl (fun M' sB sT => ?_) ?_
  · exact opr_nilCheck rfl rfl
  refine gs_pure rfl rfl (fun M' sB sT => ?_) ?_
  · exact opr_fieldAddr rfl rfl Tryz.underlying111 rfl size60 rfl rfl
  refine gs_pure rfl rfl (fun M' sB sT => ?_) ?_
  · exact opr_move rfl rfl
  refine gs_pure rfl rfl (fun M' sB sT => ?_) ?_
  · exact opr_nilCheck rfl rfl
  refine gs_pure rfl rfl (fun M' sB sT => ?_) ?_
  · exact opr_fieldAddr rfl rfl Tryz.underlying111 rfl size60 rfl rfl
  refine gs_pure rfl rfl (fun M' sB sT => ?_) ?_
  · exact opr_move rfl rfl
  refine gs_pure rfl rfl (fun M' sB sT => ?_) ?_
  · exact opr_nilCheck rfl rfl
  refine gs_pure rfl rfl (fun M' sB sT => ?_) ?_
  · exact opr_fieldAddr rfl rfl Tryz.underlying111 rfl size60 rfl rfl
  refine gs_pure rfl rfl (fun M' sB sT => ?_) ?_
  · exact opr_assign rfl rfl
  refine gs_pure rfl rfl (fun M' sB sT => ?_) ?_
  · exact opr_assign rfl rfl
  refine gs_pure rfl rfl (fun M' sB sT => ?_) ?_
  · exact opr_assign rfl rfl
  refine gs_pure rfl rfl (fun M' sB sT => ?_) ?_
  · exact opr_assign rfl rfl
  refine gs_pure rfl rfl (fun M' sB sT => ?_) ?_
  · exact opr_assign rfl rfl
  refine gs_pure rfl rfl (fun M' sB sT => ?_) ?_
  · exact opr_assign rfl rfl
  refine gs_pure rfl rfl (fun M' sB sT => ?_) ?_
  · exact opr_assign rfl rfl
  refine gs_pure rfl rfl (fun M' sB sT => ?_) ?_
  · exact opr_assign rfl rfl
  refine gs_nil ?_
  refine (show At _ _ (⟨(γ0 10), 60, EE [0]⟩ :: ⟨g1, 111, EE [0, 0, 0, 0, 0]⟩ :: ⟨g0, 47, []⟩ :: _) _ from ?_)
  refine at_then ?_
  refine at_seq ?_
  refine at_region ?_
  refine at_d rfl rfl (opr_move rfl rfl) ?_
  refine at_d rfl rfl (opr_move rfl rfl) ?_
  refine at_d rfl rfl (opr_move rfl rfl) ?_
  refine at_c rfl rfl (opr_call rfl rfl rfl Tryz.func60 (by kernel_rfl) rfl (Add_el (iz := 1) (ix := ip + 3) (iy := ip + 3) (kz := 3) (kx := 0) (ky := 1) rfl (Nat.le_of_ble_eq_true rfl) rfl hP rfl rfl hP rfl rfl hX hY)) ?_
  rintro _ _ ⟨r0, hr0, f0, rfl, rfl⟩
  refine at_nil ?_
  refine at_then ?_
  refine at_seq ?_
  refine at_region ?_
  refine at_d rfl rfl (opr_move rfl rfl) ?_
  refine at_d rfl rfl (opr_move rfl rfl) ?_
  refine at_c rfl rfl (opr_call rfl rfl rfl Tryz.func61 (by kernel_rfl) rfl (Sqr_el (iz := 1) (ix := ip + 3) (kz := 0) (kx := 0) rfl (Nat.le_of_ble_eq_true rfl) rfl hP rfl rfl hX)) ?_
  rintro _ _ ⟨r1, hr1, f1, rfl, rfl⟩
  refine at_nil ?_
  refine at_then ?_
  refine at_seq ?_
  refine at_region ?_
  refine at_d rfl rfl (opr_move rfl rfl) ?_
  refine at_d rfl rfl (opr_move rfl rfl) ?_
  refine at_c rfl rfl (opr_call rfl rfl rfl Tryz.func61 (by kernel_rfl) rfl (Sqr_el (iz := 1) (ix := ip + 3) (kz := 1) (kx := 1) rfl (Nat.le_of_ble_eq_true rfl) rfl hP rfl rfl hY)) ?_
  rintro _ _ ⟨r2, hr2, f2, rfl, rfl⟩
  refine at_nil ?_
  refine at_then ?_
  refine at_seq ?_
  refine at_region ?_
  refine at_d rfl rfl (opr_move rfl rfl) ?_
  refine at_d rfl rfl (opr_move rfl rfl) ?_
  refine at_c rfl rfl (opr_call rfl rfl rfl Tryz.func61 (by kernel_rfl) rfl (Sqr_el (iz := 1) (ix := ip + 3) (kz := 2) (kx := 2) rfl (Nat.le_of_ble_eq_true rfl) rfl hP rfl rfl hZ)) ?_
  rintro _ _ ⟨r3, hr3, f3, rfl, rfl⟩
  refine at_nil ?_
  refine at_then ?_
  refine at_seq ?_
  refine at_region ?_
  refine at_d rfl rfl (opr_move rfl rfl) ?_
  refine at_d rfl rfl (opr_move rfl rfl) ?_
  refine at_d rfl rfl (opr_move rfl rfl) ?_
  refine at_c rfl rfl (opr_call rfl rfl rfl Tryz.func60 (by kernel_rfl) rfl (Add_el (iz := 1) (ix := 1) (iy := 1) (kz := 2) (kx := 2) (ky := 2) rfl (Nat.le_of_ble_eq_true rfl) rfl rfl rfl rfl rfl rfl rfl hr3 hr3)) ?_
  rintro _ _ ⟨r4, hr4, f4, rfl, rfl⟩
  refine at_nil ?_
  refine at_then ?_
  refine at_seq ?_
  refine at_region ?_
  refine at_d rfl rfl (opr_move rfl rfl) ?_
  refine at_d rfl rfl (opr_move rfl rfl) ?_
  refine at_d rfl rfl (opr_nilCheck rfl rfl) ?_
  refine at_d rfl rfl (opr_load (i := 1) rfl rfl rfl Tryz.underlying60 rfl size60 (E_length _) (EE_at (k := 0) rfl rfl rfl)) ?_
  refine at_d rfl rfl (opr_nilCheck rfl rfl) ?_
  refine at_d rfl rfl (opr_store (i := 0) rfl rfl rfl rfl rfl size60 (E_length _) (by rw [EE_length]; exact Nat.le_of_ble_eq_true rfl) (E_flat _) (EE_set (k := 0) (Nat.le_of_ble_eq_true rfl) rfl)) ?_
  refine at_nil ?_
  refine at_then ?_
  refine at_seq ?_
  refine at_region ?_
  refine at_d rfl rfl (opr_move rfl rfl) ?_
  refine at_d rfl rfl (opr_move rfl rfl) ?_
  refine at_c rfl rfl (opr_call rfl rfl rfl Tryz.func61 (by kernel_rfl) rfl (Sqr_el (iz := 1) (ix := 1) (kz := 3) (kx := 3) rfl (Nat.le_of_ble_eq_true rfl) rfl rfl rfl rfl hr0)) ?_
  rintro _ _ ⟨r5, hr5, f5, rfl, rfl⟩
  refine at_nil ?_
  refine at_then ?_
  refine at_seq ?_
  refine at_region ?_
  refine at_d rfl rfl (opr_move rfl rfl) ?_
  refine at_d rfl rfl (opr_move rfl rfl) ?_
  refine at_d rfl rfl (opr_move rfl rfl) ?_
  refine at_c rfl rfl (opr_call rfl rfl rfl Tryz.func62 (by kernel_rfl) rfl (Sub_el (iz := 1) (ix := 1) (iy := 1) (kz := 3) (kx := 3) (ky := 0) rfl (Nat.le_of_ble_eq_true rfl) rfl rfl rfl rfl rfl rfl rfl hr5 hr1)) ?_
  rintro _ _ ⟨r6, hr6, f6, rfl, rfl⟩
  refine at_nil ?_
  refine at_then ?_
  refine at_seq ?_
  refine at_region ?_
  refine at_d rfl rfl (opr_move rfl rfl) ?_
  refine at_d rfl rfl (opr_move rfl rfl) ?_
  refine at_d rfl rfl (opr_move rfl rfl) ?_
  refine at_c rfl rfl (opr_call rfl rfl rfl Tryz.func62 (by kernel_rfl) rfl (Sub_el (iz := 1) (ix := 1) (iy := 1) (kz := 3) (kx := 3) (ky := 1) rfl (Nat.le_of_ble_eq_true rfl) rfl rfl rfl rfl rfl rfl rfl hr6 hr2)) ?_
  rintro _ _ ⟨r7, hr7, f7, rfl, rfl⟩
  refine at_nil ?_
  refine at_then ?_
  refine at_seq ?_
  refine at_region ?_
  refine at_d rfl rfl (opr_move rfl rfl) ?_
  refine at_d rfl rfl (opr_move rfl rfl) ?_
  refine at_d rfl rfl (opr_move rfl rfl) ?_
  refine at_c rfl rfl (opr_call rfl rfl rfl Tryz.func60 (by kernel_rfl) rfl (Add_el (iz := 1) (ix := 1) (iy := 0) (kz := 4) (kx := 1) (ky := 0) rfl (Nat.le_of_ble_eq_true rfl) rfl rfl rfl rfl rfl rfl rfl hr2 hr1)) ?_
  rintro _ _ ⟨r8, hr8, f8, rfl, rfl⟩
  refine at_nil ?_
  refine at_then ?_
  refine at_seq ?_
  refine at_region ?_
  refine at_d rfl rfl (opr_move rfl rfl) ?_
  refine at_d rfl rfl (opr_move rfl rfl) ?_
  refine at_d rfl rfl (opr_move rfl rfl) ?_
  refine at_c rfl rfl (opr_call rfl rfl rfl Tryz.func62 (by kernel_rfl) rfl (Sub_el (iz := 1) (ix := 1) (iy := 0) (kz := 1) (kx := 1) (ky := 0) rfl (Nat.le_of_ble_eq_true rfl) rfl rfl rfl rfl rfl rfl rfl hr2 hr1)) ?_
  rintro _ _ ⟨r9, hr9, f9, rfl, rfl⟩
  refine at_nil ?_
  refine at_then ?_
  refine at_seq ?_
  refine at_region ?_
  refine at_d rfl rfl (opr_move rfl rfl) ?_
  refine at_d rfl rfl (opr_move rfl rfl) ?_
  refine at_d rfl rfl (opr_move rfl rfl) ?_
  refine at_c rfl rfl (opr_call rfl rfl rfl Tryz.func62 (by kernel_rfl) rfl (Sub_el (iz := 1) (ix := 1) (iy := 1) (kz := 0) (kx := 2) (ky := 4) rfl (Nat.le_of_ble_eq_true rfl) rfl rfl rfl rfl rfl rfl rfl hr4 hr8)) ?_
  rintro _ _ ⟨r10, hr10, f10, rfl, rfl⟩
  refine at_nil ?_
  refine at_then ?_
  refine at_seq ?_
  refine at_region ?_
  refine at_d rfl rfl (opr_move rfl rfl) ?_
  refine at_d rfl rfl (opr_nilCheck rfl rfl) ?_
  refine at_d rfl rfl (opr_fieldAddr rfl rfl Tryz.underlying111 rfl size60 rfl rfl) ?_
  refine at_d rfl rfl (opr_move rfl rfl) ?_
  refine at_d rfl rfl (opr_move rfl rfl) ?_
  refine at_c rfl rfl (opr_call rfl rfl rfl Tryz.func43 (by kernel_rfl) rfl (Mul_el (iz := 1) (ix := 1) (iy := 1) (kz := 2) (kx := 0) (ky := 1) rfl (Nat.le_of_ble_eq_true rfl) rfl rfl rfl rfl rfl rfl rfl hr10 hr9)) ?_
  rintro _ _ ⟨r11, hr11, f11, rfl, rfl⟩
  refine at_nil ?_
  refine at_then ?_
  refine at_seq ?_
  refine at_region ?_
  refine at_d rfl rfl (opr_move rfl rfl) ?_
  refine at_d rfl rfl (opr_nilCheck rfl rfl) ?_
  refine at_d rfl rfl (opr_fieldAddr rfl rfl Tryz.underlying111 rfl size60 rfl rfl) ?_
  refine at_d rfl rfl (opr_move rfl rfl) ?_
  refine at_d rfl rfl (opr_move rfl rfl) ?_
  refine at_c rfl rfl (opr_call rfl rfl rfl Tryz.func43 (by kernel_rfl) rfl (Mul_el (iz := 1) (ix := 1) (iy := 1) (kz := 0) (kx := 3) (ky := 0) rfl (Nat.le_of_ble_eq_true rfl) rfl rfl rfl rfl rfl rfl rfl hr7 hr10)) ?_
  rintro _ _ ⟨r12, hr12, f12, rfl, rfl⟩
  refine at_nil ?_
  refine at_then ?_
  refine at_seq ?_
  refine at_region ?_
  refine at_d rfl rfl (opr_move rfl rfl) ?_
  refine at_d rfl rfl (opr_nilCheck rfl rfl) ?_
  refine at_d rfl rfl (opr_fieldAddr rfl rfl Tryz.underlying111 rfl size60 rfl rfl) ?_
  refine at_d rfl rfl (opr_move rfl rfl) ?_
  refine at_d rfl rfl (opr_move rfl rfl) ?_
  refine at_c rfl rfl (opr_call rfl rfl rfl Tryz.func43 (by kernel_rfl) rfl (Mul_el (iz := 1) (ix := 1) (iy := 1) (kz := 1) (kx := 1) (ky := 4) rfl (Nat.le_of_ble_eq_true rfl) rfl rfl rfl rfl rfl rfl rfl hr9 hr8)) ?_
  rintro _ _ ⟨r13, hr13, f13, rfl, rfl⟩
  refine at_nil ?_
  refine at_then ?_
  refine at_seq ?_
  refine at_region ?_
  refine at_d rfl rfl (opr_move rfl rfl) ?_
  refine at_d rfl rfl (opr_assign rfl rfl) ?_
  refine at_nil ?_
  refine at_then ?_
  refine at_ret ?_
  refine done_of (res1 Tryz.results32 (res_tmp rfl)) ⟨g1, r12, r13, r11, r7, r8, hr12, hr13, hr11, hr7, hr8, ?_, ?_, ?_, ?_, ?_, rfl, rfl⟩ (by repeat (first | exact List.Sublist.refl _ | apply List.Sublist.cons_cons | apply List.Sublist.cons))
  all_goals simp only [f0, f1, f2, f3, f4, f5, f6, f7, f8, f9, f10, f11, f12, f13]
  all_goals clear f13 f12 f11 f10 f9 f8 f7 f6 f5 f4 f3 f2 f1 f0
  all_goals generalize el X = Y0, el Y = Y1, el Z = Y2
  all_goals grind
set_option maxHeartbeats 1000000 in
theorem pullR_ct {M : Mem} {ig Tp : Nat} (hG : M[ig]? = some ⟨3, Tp, EE [pp]⟩) {ip gP TP X Y Z A B : Nat} (hP : M[ip]? = some ⟨gP, TP, EE [X, Y, Z, A, B]⟩) (hX : X < RR) (hY : Y < RR) (hZ : Z < RR) : Ct Tryz.prog 47 #[.agg ([] : List Value).toArray, .pointer (some ⟨gP, 0, none⟩)] M (fun v M' => ∃ g x3 y3 z3 a3 b3, x3 < RR ∧ y3 < RR ∧ z3 < RR ∧ a3 < RR ∧ b3 < RR ∧ el x3 = (2 * (el X * el Y)) * (2 * (el Z * el Z) - (el Y * el Y - el X * el X)) ∧ el y3 = (el Y * el Y + el X * el X) * (el Y * el Y - el X * el X) ∧ el z3 = (2 * (el Z * el Z) - (el Y * el Y - el X * el X)) * (el Y * el Y + el X * el X) ∧ el a3 = (2 * (el X * el Y)) ∧ el b3 = (el Y * el Y - el X * el X) ∧ v = .pointer (some ⟨g, 0, none⟩) ∧ M' = ⟨g, 82, EE [x3, y3, z3, a3, b3]⟩ :: M) := by
  refine ct_of (vs := [.agg ([] : List Value).toArray, .pointer (some ⟨gP, 0, none⟩)]) Tryz.func47 rfl Tryz.ntmps47 rfl fun w0 => ?_
  refine at_seq ?_
  refine at_region ?_
  refine at_n rfl rfl (opr_box rfl rfl rfl) ?_
  intro g0
  refine at_d rfl rfl (opr_assign rfl rfl) ?_
  refine at_nil ?_
  refine at_then ?_
  refine at_seq ?_
  refine at_region ?_
  refine at_d rfl rfl (opr_buildE (ds := EE [0, 0, 0, 0, 0]) rfl rfl (builtp82 [] rfl) rfl) ?_
  refine at_n rfl rfl (opr_box rfl rfl rfl) ?_
  intro g1
  refine at_d rfl rfl (opr_assign rfl rfl) ?_
  refine at_nil ?_
  refine at_then ?_
  refine at_seq ?_
  refine at_draw (by kernel_rfl) (by kernel_rfl) (by kernel_rfl) (List.cons_ne_nil _ _) ?_
  refine dr_op rfl rfl (opr_move rfl rfl) ?_
  refine dr_op rfl rfl (opr_nilCheck rfl rfl) ?_
  refine dr_op rfl rfl (opr_fieldAddr rfl rfl Tryz.underlying111 rfl size60 rfl rfl) ?_
  refine dr_op rfl rfl (opr_move rfl rfl) ?_
  refine dr_op rfl rfl (opr_nilCheck rfl rfl) ?_
  refine dr_op rfl rfl (opr_fieldAddr rfl rfl Tryz.underlying111 rfl size60 rfl rfl) ?_
  refine dr_op rfl rfl (opr_move rfl rfl) ?_
  refine dr_op rfl rfl (opr_nilCheck rfl rfl) ?_
  refine dr_op rfl rfl (opr_fieldAddr rfl rfl Tryz.underlying111 rfl size60 rfl rfl) ?_
  refine dr_op rfl rfl (opr_assign rfl rfl) ?_
  refine dr_op rfl rfl (opr_assign rfl rfl) ?_
  refine dr_last rfl rfl (opr_assign rfl rfl) ?_
  refine at_then ?_
  refine at_seq ?_
  refine at_drawG (B := [⟨g1, 82, EE [0, 0, 0, 0, 0]⟩, ⟨g0, 72, []⟩]) (E := [⟨.pure [], 0, [], .v (.pointer (some ⟨g1, 0, none⟩))⟩, ⟨.pure [], 0, [], .v (.pointer (some ⟨g1, 0, none⟩))⟩, ⟨.pure [], 0, [], .v (.pointer (some ⟨g1, 0, none⟩))⟩, ⟨.pure [], 0, [], .v (.pointer (some ⟨g1, 0, none⟩))⟩, ⟨.pure [], 0, [], .v (.pointer (some ⟨g1, 0, none⟩))⟩, ⟨.pure [], 0, [], .v (.pointer (some ⟨g1, 56, none⟩))⟩, ⟨.pure [], 0, [], .v (.pointer (some ⟨g1, 0, none⟩))⟩, ⟨.pure [], 0, [], .v (.pointer (some ⟨g1, 0, none⟩))⟩, ⟨.pure [], 0, [], .v (.pointer (some ⟨g1, 112, none⟩))⟩, ⟨.pure [], 0, [], .v (.agg (E (0)).toArray)⟩, ⟨.alloc, 60, EE [0], .p 10 0⟩, ⟨.pure [], 0, [], .v (.pointer (some ⟨g1, 0, none⟩))⟩, ⟨.pure [], 0, [], .v (.pointer (some ⟨g1, 0, none⟩))⟩, ⟨.pure [], 0, [], .v (.pointer (some ⟨g1, 168, none⟩))⟩, ⟨.pure [], 0, [], .v (.pointer (some ⟨g1, 0, none⟩))⟩, ⟨.pure [], 0, [], .v (.pointer (some ⟨g1, 0, none⟩))⟩, ⟨.pure [], 0, [], .v (.pointer (some ⟨g1, 0, none⟩))⟩, ⟨.pure [], 0, [], .v (.pointer (some ⟨g1, 0, none⟩))⟩, ⟨.pure [], 0, [], .v (.pointer (some ⟨g1, 0, none⟩))⟩, ⟨.pure [], 0, [], .v (.pointer (some ⟨g1, 56, none⟩))⟩, ⟨.pure [], 0, [], .v (.pointer (some ⟨g1, 0, none⟩))⟩, ⟨.pure [], 0, [], .v (.pointer (some ⟨g1, 0, none⟩))⟩, ⟨.pure [], 0, [], .v (.pointer (some ⟨g1, 224, none⟩))⟩, ⟨.pure [], 0, [], .v (.pointer (some ⟨g1, 0, none⟩))⟩, ⟨.pure [], 0, [], .v (.pointer (some ⟨g1, 56, none⟩))⟩, ⟨.pure [], 0, [], .v (.pointer (some ⟨g1, 112, none⟩))⟩, ⟨.pure [], 0, [], .p 10 0⟩, ⟨.pure [], 0, [], .v (.pointer (some ⟨g1, 168, none⟩))⟩, ⟨.pure [], 0, [], .v (.pointer (some ⟨g1, 0, none⟩))⟩, ⟨.pure [], 0, [], .v (.pointer (some ⟨g1, 56, none⟩))⟩, ⟨.pure [], 0, [], .v (.pointer (some ⟨g1, 224, none⟩))⟩]) (by kernel_rfl) (by kernel_rfl) (by kernel_rfl) (fun γ0 => ?_)
  refine gs_pure rfl rfl (fun M' sB sT => ?_) ?_
  · exact opr_move rfl rfl
  refine gs_pure rfl rfl (fun M' sB sT => ?_) ?_
  · exact opr_nilCheck rfl rfl
  refine gs_pure rfl rfl (fun M' sB sT => ?_) ?_
  · exact opr_fieldAddr rfl rfl Tryz.underlying82 rfl size60 rfl rfl
  refine gs_pure rfl rfl (fun M' sB sT => ?_) ?_
  · exact opr_move rfl rfl
  refine gs_pure rfl rfl (fun M' sB sT => ?_) ?_
  · exact opr_nilCheck rfl rfl
  refine gs_pure rfl rfl (fun M' sB sT => ?_) ?_
  · exact opr_fieldAddr rfl rfl Tryz.underlying82 rfl size60 rfl rfl
  refine gs_pure rfl rfl (fun M' sB sT => ?_) ?_
  · exact opr_move rfl rfl
  refine gs_pure rfl rfl (fun M' sB sT => ?_) ?_
  · exact opr_nilCheck rfl rfl
  refine gs_pure rfl rfl (fun M' sB sT => ?_) ?_
  · exact opr_fieldAddr rfl rfl Tryz.underlying82 rfl size60 rfl rfl
  refine gs_pure rfl rfl (fun M' sB sT => ?_) ?_
  · exact opr_buildE (ds := E 0) rfl rfl builtz60 rfl
  refine gs_alloc rfl rfl (fun M' => opr_box (cs := EE [0]) rfl rfl (E_box _)) ?_
  refine gs_pure rfl rfl (fun M' sB sT => ?_) ?_
  · exact opr_move rfl rfl
  refine gs_pure rfl rfl (fun M' sB sT => ?_) ?_
  · exact opr_nilCheck rfl rfl
  refine gs_pure rfl rfl (fun M' sB sT => ?_) ?_
  · exact opr_fieldAddr rfl rfl Tryz.underlying82 rfl size60 rfl rfl
  refine gs_pure rfl rfl (fun M' sB sT => ?_) ?_
  · exact opr_move rfl rfl
  refine gs_pure rfl rfl (fun M' sB sT => ?_) ?_
  · exact opr_nilCheck rfl rfl
  refine gs_pure rfl rfl (fun M' sB sT => ?_) ?_
  · exact opr_fieldAddr rfl rfl Tryz.underlying82 rfl size60 rfl rfl
  refine gs_pure rfl rfl (fun M' sB sT => ?_) ?_
  · exact opr_move rfl rfl
  refine gs_pure rfl rfl (fun M' sB sT => ?_) ?_
  · exact opr_nilCheck rfl rfl
  refine gs_pure rfl rfl (fun M' sB sT => ?_) ?_
  · exact opr_fieldAddr rfl rfl Tryz.underlying82 rfl size60 rfl rfl
  refine gs_pure rfl rfl (fun M' sB sT => ?_) ?_
  · exact opr_move rfl rfl
  refine gs_pure rfl rfl (fun M' sB sT => ?_) ?_
  · exact opr_nilCheck rfl rfl
  refine gs_pure rfl rfl (fun M' sB sT => ?_) ?_
  · exact opr_fieldAddr rfl rfl Tryz.underlying82 rfl size60 rfl rfl
  refine gs_pure rfl rfl (fun M' sB sT => ?_) ?_
  · exact opr_assign rfl rfl
  refine gs_pure rfl rfl (fun M' sB sT => ?_) ?_
  · exact opr_assign rfl rfl
  refine gs_pure rfl rfl (fun M' sB sT => ?_) ?_
  · exact opr_assign rfl rfl
  refine gs_pure rfl rfl (fun M' sB sT => ?_) ?_
  · exact opr_assign rfl rfl
  refine gs_pure rfl rfl (fun M' sB sT => ?_) ?_
  · exact opr_assign rfl rfl
  refine gs_pure rfl rfl (fun M' sB sT => ?_) ?_
  · exact opr_assign rfl rfl
  refine gs_pure rfl rfl (fun M' sB sT => ?_) ?_
  · exact opr_assign rfl rfl
  refine gs_pure rfl rfl (fun M' sB sT => ?_) ?_
  · exact opr_assign rfl rfl
  refine gs_nil ?_
  refine (show At _ _ (⟨(γ0 10), 60, EE [0]⟩ :: ⟨g1, 82, EE [0, 0, 0, 0, 0]⟩ :: ⟨g0, 72, []⟩ :: _) _ from ?_)
  refine at_then ?_
  refine at_seq ?_
  refine at_region ?_
  refine at_d rfl rfl (opr_move rfl rfl) ?_
  refine at_d rfl rfl (opr_move rfl rfl) ?_
  refine at_d rfl rfl (opr_move rfl rfl) ?_
  refine at_c rfl rfl (opr_call rfl rfl rfl Tryz.func60 (by kernel_rfl) rfl (Add_el (iz := 1) (ix := ip + 3) (iy := ip + 3) (kz := 3) (kx := 0) (ky := 1) rfl (Nat.le_of_ble_eq_true rfl) rfl hP rfl rfl hP rfl rfl hX hY)) ?_
  rintro _ _ ⟨r0, hr0, f0, rfl, rfl⟩
  refine at_nil ?_
  refine at_then ?_
  refine at_seq ?_
  refine at_region ?_
  refine at_d rfl rfl (opr_move rfl rfl) ?_
  refine at_d rfl rfl (opr_move rfl rfl) ?_
  refine at_c rfl rfl (opr_call rfl rfl rfl Tryz.func61 (by kernel_rfl) rfl (Sqr_el (iz := 1) (ix := ip + 3) (kz := 0) (kx := 0) rfl (Nat.le_of_ble_eq_true rfl) rfl hP rfl rfl hX)) ?_
  rintro _ _ ⟨r1, hr1, f1, rfl, rfl⟩
  refine at_nil ?_
  refine at_then ?_
  refine at_seq ?_
  refine at_region ?_
  refine at_d rfl rfl (opr_move rfl rfl) ?_
  refine at_d rfl rfl (opr_move rfl rfl) ?_
  refine at_c rfl rfl (opr_call rfl rfl rfl Tryz.func61 (by kernel_rfl) rfl (Sqr_el (iz := 1) (ix := ip + 3) (kz := 1) (kx := 1) rfl (Nat.le_of_ble_eq_true rfl) rfl hP rfl rfl hY)) ?_
  rintro _ _ ⟨r2, hr2, f2, rfl, rfl⟩
  refine at_nil ?_
  refine at_then ?_
  refine at_seq ?_
  refine at_region ?_
  refine at_d rfl rfl (opr_move rfl rfl) ?_
  refine at_d rfl rfl (opr_move rfl rfl) ?_
  refine at_c rfl rfl (opr_call rfl rfl rfl Tryz.func61 (by kernel_rfl) rfl (Sqr_el (iz := 1) (ix := ip + 3) (kz := 2) (kx := 2) rfl (Nat.le_of_ble_eq_true rfl) rfl hP rfl rfl hZ)) ?_
  rintro _ _ ⟨r3, hr3, f3, rfl, rfl⟩
  refine at_nil ?_
  refine at_then ?_
  refine at_seq ?_
  refine at_region ?_
  refine at_d rfl rfl (opr_move rfl rfl) ?_
  refine at_d rfl rfl (opr_move rfl rfl) ?_
  refine at_d rfl rfl (opr_move rfl rfl) ?_
  refine at_c rfl rfl (opr_call rfl rfl rfl Tryz.func60 (by kernel_rfl) rfl (Add_el (iz := 1) (ix := 1) (iy := 1) (kz := 2) (kx := 2) (ky := 2) rfl (Nat.le_of_ble_eq_true rfl) rfl rfl rfl rfl rfl rfl rfl hr3 hr3)) ?_
  rintro _ _ ⟨r4, hr4, f4, rfl, rfl⟩
  refine at_nil ?_
  refine at_then ?_
  refine at_seq ?_
  refine at_region ?_
  refine at_d rfl rfl (opr_move rfl rfl) ?_
  refine at_d rfl rfl (opr_move rfl rfl) ?_
  refine at_c rfl rfl (opr_call rfl rfl rfl Tryz.func75 (by kernel_rfl) rfl (Neg_el (ig := ig + 3) (iz := 0) (ix := 1) (kz := 0) (kx := 0) hG rfl (Nat.le_of_ble_eq_true rfl) rfl rfl rfl rfl hr1)) ?_
  rintro _ _ ⟨r5, hr5, f5, rfl, rfl⟩
  refine at_nil ?_
  refine at_then ?_
  refine at_seq ?_
  refine at_region ?_
  refine at_d rfl rfl (opr_move rfl rfl) ?_
  refine at_d rfl rfl (opr_move rfl rfl) ?_
  refine at_c rfl rfl (opr_call rfl rfl rfl Tryz.func61 (by kernel_rfl) rfl (Sqr_el (iz := 1) (ix := 1) (kz := 3) (kx := 3) rfl (Nat.le_of_ble_eq_true rfl) rfl rfl rfl rfl hr0)) ?_
  rintro _ _ ⟨r6, hr6, f6, rfl, rfl⟩
  refine at_nil ?_
  refine at_then ?_
  refine at_seq ?_
  refine at_region ?_
  refine at_d rfl rfl (opr_move rfl rfl) ?_
  refine at_d rfl rfl (opr_move rfl rfl) ?_
  refine at_d rfl rfl (opr_move rfl rfl) ?_
  refine at_c rfl rfl (opr_call rfl rfl rfl Tryz.func62 (by kernel_rfl) rfl (Sub_el (iz := 1) (ix := 1) (iy := 1) (kz := 3) (kx := 3) (ky := 0) rfl (Nat.le_of_ble_eq_true rfl) rfl rfl rfl rfl rfl rfl rfl hr6 hr1)) ?_
  rintro _ _ ⟨r7, hr7, f7, rfl, rfl⟩
  refine at_nil ?_
  refine at_then ?_
  refine at_seq ?_
  refine at_region ?_
  refine at_d rfl rfl (opr_move rfl rfl) ?_
  refine at_d rfl rfl (opr_move rfl rfl) ?_
  refine at_d rfl rfl (opr_move rfl rfl) ?_
  refine at_c rfl rfl (opr_call rfl rfl rfl Tryz.func62 (by kernel_rfl) rfl (Sub_el (iz := 1) (ix := 1) (iy := 1) (kz := 3) (kx := 3) (ky := 1) rfl (Nat.le_of_ble_eq_true rfl) rfl rfl rfl rfl rfl rfl rfl hr7 hr2)) ?_
  rintro _ _ ⟨r8, hr8, f8, rfl, rfl⟩
  refine at_nil ?_
  refine at_then ?_
  refine at_seq ?_
  refine at_region ?_
  refine at_d rfl rfl (opr_move rfl rfl) ?_
  refine at_d rfl rfl (opr_move rfl rfl) ?_
  refine at_d rfl rfl (opr_move rfl rfl) ?_
  refine at_c rfl rfl (opr_call rfl rfl rfl Tryz.func60 (by kernel_rfl) rfl (Add_el (iz := 1) (ix := 1) (iy := 0) (kz := 4) (kx := 1) (ky := 0) rfl (Nat.le_of_ble_eq_true rfl) rfl rfl rfl rfl rfl rfl rfl hr2 hr5)) ?_
  rintro _ _ ⟨r9, hr9, f9, rfl, rfl⟩
  refine at_nil ?_
  refine at_then ?_
  refine at_seq ?_
  refine at_region ?_
  refine at_d rfl rfl (opr_move rfl rfl) ?_
  refine at_d rfl rfl (opr_move rfl rfl) ?_
  refine at_d rfl rfl (opr_move rfl rfl) ?_
  refine at_c rfl rfl (opr_call rfl rfl rfl Tryz.func62 (by kernel_rfl) rfl (Sub_el (iz := 1) (ix := 1) (iy := 0) (kz := 1) (kx := 1) (ky := 0) rfl (Nat.le_of_ble_eq_true rfl) rfl rfl rfl rfl rfl rfl rfl hr2 hr5)) ?_
  rintro _ _ ⟨r10, hr10, f10, rfl, rfl⟩
  refine at_nil ?_
  refine at_then ?_
  refine at_seq ?_
  refine at_region ?_
  refine at_d rfl rfl (opr_move rfl rfl) ?_
  refine at_d rfl rfl (opr_move rfl rfl) ?_
  refine at_d rfl rfl (opr_move rfl rfl) ?_
  refine at_c rfl rfl (opr_call rfl rfl rfl Tryz.func62 (by kernel_rfl) rfl (Sub_el (iz := 1) (ix := 1) (iy := 1) (kz := 0) (kx := 2) (ky := 4) rfl (Nat.le_of_ble_eq_true rfl) rfl rfl rfl rfl rfl rfl rfl hr4 hr9)) ?_
  rintro _ _ ⟨r11, hr11, f11, rfl, rfl⟩
  refine at_nil ?_
  refine at_then ?_
  refine at_seq ?_
  refine at_region ?_
  refine at_d rfl rfl (opr_move rfl rfl) ?_
  refine at_d rfl rfl (opr_nilCheck rfl rfl) ?_
  refine at_d rfl rfl (opr_fieldAddr rfl rfl Tryz.underlying82 rfl size60 rfl rfl) ?_
  refine at_d rfl rfl (opr_move rfl rfl) ?_
  refine at_d rfl rfl (opr_move rfl rfl) ?_
  refine at_c rfl rfl (opr_call rfl rfl rfl Tryz.func43 (by kernel_rfl) rfl (Mul_el (iz := 1) (ix := 1) (iy := 1) (kz := 2) (kx := 0) (ky := 1) rfl (Nat.le_of_ble_eq_true rfl) rfl rfl rfl rfl rfl rfl rfl hr11 hr10)) ?_
  rintro _ _ ⟨r12, hr12, f12, rfl, rfl⟩
  refine at_nil ?_
  refine at_then ?_
  refine at_seq ?_
  refine at_region ?_
  refine at_d rfl rfl (opr_move rfl rfl) ?_
  refine at_d rfl rfl (opr_nilCheck rfl rfl) ?_
  refine at_d rfl rfl (opr_fieldAddr rfl rfl Tryz.underlying82 rfl size60 rfl rfl) ?_
  refine at_d rfl rfl (opr_move rfl rfl) ?_
  refine at_d rfl rfl (opr_move rfl rfl) ?_
  refine at_c rfl rfl (opr_call rfl rfl rfl Tryz.func43 (by kernel_rfl) rfl (Mul_el (iz := 1) (ix := 1) (iy := 1) (kz := 0) (kx := 3) (ky := 0) rfl (Nat.le_of_ble_eq_true rfl) rfl rfl rfl rfl rfl rfl rfl hr8 hr11)) ?_
  rintro _ _ ⟨r13, hr13, f13, rfl, rfl⟩
  refine at_nil ?_
  refine at_then ?_
  refine at_seq ?_
  refine at_region ?_
  refine at_d rfl rfl (opr_move rfl rfl) ?_
  refine at_d rfl rfl (opr_nilCheck rfl rfl) ?_
  refine at_d rfl rfl (opr_fieldAddr rfl rfl Tryz.underlying82 rfl size60 rfl rfl) ?_
  refine at_d rfl rfl (opr_move rfl rfl) ?_
  refine at_d rfl rfl (opr_move rfl rfl) ?_
  refine at_c rfl rfl (opr_call rfl rfl rfl Tryz.func43 (by kernel_rfl) rfl (Mul_el (iz := 1) (ix := 1) (iy := 1) (kz := 1) (kx := 1) (ky := 4) rfl (Nat.le_of_ble_eq_true rfl) rfl rfl rfl rfl rfl rfl rfl hr10 hr9)) ?_
  rintro _ _ ⟨r14, hr14, f14, rfl, rfl⟩
  refine at_nil ?_
  refine at_then ?_
  refine at_seq ?_
  refine at_region ?_
  refine at_d rfl rfl (opr_move rfl rfl) ?_
  refine at_d rfl rfl (opr_assign rfl rfl) ?_
  refine at_nil ?_
  refine at_then ?_
  refine at_ret ?_
  refine done_of (res1 Tryz.results47 (res_tmp rfl)) ⟨g1, r13, r14, r12, r8, r9, hr13, hr14, hr12, hr8, hr9, ?_, ?_, ?_, ?_, ?_, rfl, rfl⟩ (by repeat (first | exact List.Sublist.refl _ | apply List.Sublist.cons_cons | apply List.Sublist.cons))
  all_goals simp only [f0, f1, f2, f3, f4, f5, f6, f7, f8, f9, f10, f11, f12, f13, f14]
  all_goals clear f14 f13 f12 f11 f10 f9 f8 f7 f6 f5 f4 f3 f2 f1 f0
  all_goals generalize el X = Y0, el Y = Y1, el Z = Y2
  all_goals grind
end Go.Proofs.YtjlhhcdefcofkaaGreatDoor

/- Odd multiples. -/
namespace Go.Proofs.YtjlhhcdefcofkaaGreatDoor
open Go
set_option maxRecDepth 100000
theorem size92 : (Tryz.prog.info? 92).map (·.size) = some 224 := by kernel_rfl
theorem size111 : (Tryz.prog.info? 111).map (·.size) = some 280 := by kernel_rfl
noncomputable abbrev pG (p : Pt) (k : Nat) : Pt := pm (el dP) p k
theorem pG_on {p : Pt} (hp : OnG p) (k : Nat) : OnG (pG p k) := pm_on goldC hp k
def put4 (l : List Nat) (k a s t u : Nat) : List Nat := (((l.set (k + 0) a).set (k + 1) s).set (k + 2) t).set (k + 3) u
theorem put4_length (l : List Nat) (k a s t u : Nat) : (put4 l k a s t u).length = l.length := by simp [put4]
theorem put4_get {l : List Nat} {k a s t u : Nat} (h : k + 3 < l.length) : (put4 l k a s t u)[k + 0]? = some a ∧ (put4 l k a s t u)[k + 1]? = some s ∧ (put4 l k a s t u)[k + 2]? = some t ∧ (put4 l k a s t u)[k + 3]? = some u := by
  unfold put4
  refine ⟨?_, ?_, ?_, ?_⟩
  · rw [List.getElem?_set_ne (by omega), List.getElem?_set_ne (by omega), List.getElem?_set_ne (by omega), List.getElem?_set_self (by omega)]
  · rw [List.getElem?_set_ne (by omega), List.getElem?_set_ne (by omega), List.getElem?_set_self (by simp only [List.length_set]; omega)]
  · rw [List.getElem?_set_ne (by omega), List.getElem?_set_self (by simp only [List.length_set]; omega)]
  · rw [List.getElem?_set_self (by simp only [List.length_set]; omega)]
theorem put4_ne {l : List Nat} {k a s t u j : Nat} (h : j < k ∨ k + 3 < j) : (put4 l k a s t u)[j]? = l[j]? := by
  unfold put4
  rw [List.getElem?_set_ne (by omega), List.getElem?_set_ne (by omega), List.getElem?_set_ne (by omega), List.getElem?_set_ne (by omega)]
/-- At place i of the table stands q, ready to be added. -/
def PrAt (l : List Nat) (i : Nat) (q : Pt) : Prop := ∃ a s t u, l[4 * i + 0]? = some a ∧ l[4 * i + 1]? = some s ∧ l[4 * i + 2]? = some t ∧ l[4 * i + 3]? = some u ∧ PrB q a s t u
theorem PrAt.put {l : List Nat} {i a s t u : Nat} {q : Pt} (hl : l.length = 32) (hi : i < 8) (h : PrB q a s t u) : PrAt (put4 l (4 * i) a s t u) i q := by
  obtain ⟨h0, h1, h2, h3⟩ := put4_get (l := l) (k := 4 * i) (a := a) (s := s) (t := t) (u := u) (by omega)
  exact ⟨a, s, t, u, h0, h1, h2, h3, h⟩
theorem PrAt.put_ne {l : List Nat} {i j a s t u : Nat} {q : Pt} (hij : i ≠ j) (h : PrAt l i q) : PrAt (put4 l (4 * j) a s t u) i q := by
  obtain ⟨a', s', t', u', h0, h1, h2, h3, h4⟩ := h
  exact ⟨a', s', t', u', by rw [put4_ne (by omega)]; exact h0, by rw [put4_ne (by omega)]; exact h1, by rw [put4_ne (by omega)]; exact h2, by rw [put4_ne (by omega)]; exact h3, h4⟩
structure OddI (p : Pt) (i : Nat) (lp l : List Nat) : Prop where
  len : l.length = 32
  tab : ∀ j, j ≤ i → PrAt l j (pG p (2 * j + 1))
  cur : ∃ X Y Z A B, lp = [X, Y, Z, A, B] ∧ TwB (pG p (2 * i + 1)) X Y Z A B
theorem OddI.start {p : Pt} {l : List Nat} {X Y Z A B a s t u : Nat} (hp : OnG p) (hl : l.length = 32) (h : TwB p X Y Z A B) (k : PrB p a s t u) : OddI p 0 [X, Y, Z, A, B] (put4 l 0 a s t u) := by
  have e : pG p (2 * 0 + 1) = p := pm_one goldC hp
  refine ⟨by rw [put4_length]; exact hl, fun j hj => ?_, ⟨X, Y, Z, A, B, rfl, by rw [e]; exact h⟩⟩
  obtain rfl : j = 0 := by omega
  rw [e]
  exact PrAt.put (i := 0) hl (by decide) k
theorem odd_next {p : Pt} (hp : OnG p) (i : Nat) : pa (pG p (2 * i + 1)) (pG p 2) = pG p (2 * (i + 1) + 1) := (pm_add goldC hp (2 * i + 1) 2).symm
theorem dbl_two {p : Pt} (hp : OnG p) : pa p p = pG p 2 := by
  have := pm_two goldC hp 1
  rw [pm_one goldC hp] at this
  exact this.symm
theorem OddI.next {p : Pt} {i : Nat} {lp l : List Nat} {X Y Z A B a s t u : Nat} (hp : OnG p) (hi : i + 1 < 8) (h : OddI p i lp l) (c : TwB (pG p (2 * (i + 1) + 1)) X Y Z A B) (k : PrB (pG p (2 * (i + 1) + 1)) a s t u) : OddI p (i + 1) [X, Y, Z, A, B] (put4 l (4 * (i + 1)) a s t u) := by
  refine ⟨by rw [put4_length]; exact h.len, fun j hj => ?_, ⟨X, Y, Z, A, B, rfl, c⟩⟩
  by_cases e : j = i + 1
  · subst e
    exact PrAt.put h.len hi k
  · exact (h.tab j (by omega)).put_ne e
theorem builtPr : Tryz.prog.built 92 [] = some (EE [0, 0, 0, 0]).toArray := by kernel_rfl
theorem oddM_ct {M : Mem} {jt Tt : Nat} (hT : M[jt]? = some ⟨6, Tt, EE [dT]⟩) {gP TP gT TT X Y Z A B : Nat} {l : List Nat} {p : Pt} (hp : OnG p) (hl : l.length = 32) (hT0 : TwB p X Y Z A B) : Ct Tryz.prog 52 #[.pointer (some ⟨gP, 0, none⟩), .slice (some ⟨gT, 0, none⟩) 8 8] (⟨gP, TP, EE [X, Y, Z, A, B]⟩ :: ⟨gT, TT, EE l⟩ :: M) (fun v M' => ∃ X Y Z A B l, l.length = 32 ∧ (∀ j, j < 8 → PrAt l j (pG p (2 * j + 1))) ∧ v = .tuple #[] ∧ M' = ⟨gP, TP, EE [X, Y, Z, A, B]⟩ :: ⟨gT, TT, EE l⟩ :: M) := by
  refine ct_of (vs := [.pointer (some ⟨gP, 0, none⟩), .slice (some ⟨gT, 0, none⟩) 8 8]) Tryz.func52 rfl Tryz.ntmps52 rfl fun w0 => ?_
  refine at_seq ?_
  refine at_region ?_
  refine at_d rfl rfl (opr_move rfl rfl) ?_
  refine at_d rfl rfl (opr_lenS (n := 8) rfl rfl Tryz.underlying102) ?_
  refine at_d rfl rfl (opr_assign rfl rfl) ?_
  refine at_nil ?_
  refine at_then ?_
  refine at_seq ?_
  refine at_region ?_
  refine at_d rfl rfl (opr_move rfl rfl) ?_
  refine at_d rfl rfl (opr_eq' (v' := .bool true) (opr_gtr (a := 8) (b := 0) rfl rfl rfl) rfl) ?_
  refine at_nil ?_
  refine at_then ?_
  refine at_cond_true rfl ?_
  refine at_seq ?_
  refine at_region ?_
  refine at_d rfl rfl (opr_move rfl rfl) ?_
  refine at_d rfl rfl (opr_indexAddrS (j := 0) (off' := 0) rfl rfl rfl Tryz.underlying102 (by decide) size92 rfl) ?_
  refine at_d rfl rfl (opr_move rfl rfl) ?_
  refine at_c rfl rfl (opr_call rfl rfl rfl Tryz.func80 (by kernel_rfl) rfl (twFrom_ct (ip := 0) (jt := jt + 2) (iz := 1) (kz := 0) rfl hT rfl (by rw [hl]; decide) rfl (by decide) (by omega) hT0)) ?_
  rintro _ _ ⟨a0, s0, t0, u0, hk0, rfl, rfl⟩
  refine at_nil ?_
  refine at_then ?_
  refine at_seq ?_
  refine at_region ?_
  refine at_d rfl rfl (opr_move rfl rfl) ?_
  refine at_d rfl rfl (opr_nilCheck rfl rfl) ?_
  refine at_d rfl rfl (opr_load (i := 0) rfl rfl rfl Tryz.underlying111 rfl size111 (EE_length _) (EE_all rfl)) ?_
  refine at_n rfl rfl (opr_alloc rfl zero111 rfl) ?_
  intro g0
  refine at_d rfl rfl (opr_store (i := 0) rfl rfl rfl rfl rfl size111 (EE_length _) (by rw [EE_length]; exact Nat.le_of_ble_eq_true rfl) (EE_flat _) (EE_over rfl)) ?_
  refine at_nil ?_
  refine at_then ?_
  refine at_seq ?_
  refine at_region ?_
  refine at_c rfl rfl (opr_call rfl rfl rfl Tryz.func54 (by kernel_rfl) rfl (twDbl_ct (ip := 0) rfl hp hT0)) ?_
  rintro _ _ ⟨X2, Y2, Z2, A2, B2, hT2, rfl, rfl⟩
  rw [dbl_two hp] at hT2
  refine at_nil ?_
  refine at_then ?_
  refine at_seq ?_
  refine at_region ?_
  refine at_d rfl rfl (opr_buildE (ds := EE [0, 0, 0, 0]) rfl rfl builtPr rfl) ?_
  refine at_n rfl rfl (opr_box rfl rfl rfl) ?_
  intro g1
  refine at_d rfl rfl (opr_assign rfl rfl) ?_
  refine at_nil ?_
  refine at_then ?_
  refine at_seq ?_
  refine at_region ?_
  refine at_d rfl rfl (opr_move rfl rfl) ?_
  refine at_c rfl rfl (opr_call rfl rfl rfl Tryz.func80 (by kernel_rfl) rfl (twFrom_ct (ip := 1) (jt := jt + 4) (iz := 0) (kz := 0) rfl hT rfl (by decide) rfl (by decide) (by omega) hT2)) ?_
  rintro _ _ ⟨a1, s1, t1, u1, hk1, rfl, rfl⟩
  refine at_nil ?_
  refine at_then ?_
  refine at_seq ?_
  refine at_region ?_
  refine at_d rfl rfl (opr_assign rfl rfl) ?_
  refine at_nil ?_
  refine at_then ?_
  refine at_block ?_
  refine at_loop3 (fun (i : Nat) (lp : List Nat) (l : List Nat) => [(0, .pointer (some ⟨gP, 0, none⟩)), (1, .slice (some ⟨gT, 0, none⟩) 8 8), (4, .int .i64 8), (6, .pointer (some ⟨g1, 0, none⟩)), (7, .int .i64 ((i + 1 : Nat) : Int))]) (fun (i : Nat) (lp : List Nat) (l : List Nat) => ⟨g1, 92, EE [a1, s1, t1, u1]⟩ :: ⟨g0, 111, EE [X2, Y2, Z2, A2, B2]⟩ :: ⟨gP, TP, EE lp⟩ :: ⟨gT, TT, EE l⟩ :: M) (fun (i : Nat) (lp : List Nat) (l : List Nat) => 7 - i) (fun (i : Nat) (lp : List Nat) (l : List Nat) => i ≤ 7 ∧ OddI p i lp l) 0 [X, Y, Z, A, B] (put4 l 0 a0 s0 t0 u0) ⟨Nat.zero_le _, OddI.start hp hl hT0 hk0⟩ (allIn ⟨rfl, rfl, rfl, rfl, rfl, trivial⟩) (List.Sublist.refl _) ?_
  rintro i lp l ⟨hi, hI⟩
  obtain ⟨X1, Y1, Z1, A1, B1, rfl, hT1⟩ := hI.cur
  dsimp only
  refine at_seq ?_
  refine at_seq ?_
  refine at_region ?_
  refine at_d rfl rfl (opr_move rfl rfl) ?_
  refine at_d rfl rfl (opr_move rfl rfl) ?_
  refine at_d rfl rfl (opr_lss (a := i + 1) (b := 8) rfl rfl rfl) ?_
  refine at_nil ?_
  refine at_then ?_
  refine at_cond rfl (fun ht => ?_) (fun ht => ?_)
  ·
    have hlt : i + 1 < 8 := of_decide_eq_true ht
    refine at_skip ?_
    refine at_then ?_
    refine at_seq ?_
    refine at_block ?_
    refine at_seq ?_
    refine at_region ?_
    refine at_d rfl rfl (opr_move rfl rfl) ?_
    refine at_d rfl rfl (opr_move rfl rfl) ?_
    refine at_c rfl rfl (opr_call rfl rfl rfl Tryz.func58 (by kernel_rfl) rfl (twMix_ct (ip := 2) (iq := 0) rfl rfl (by decide) (pG_on hp _) (pG_on hp _) hT1 hk1)) ?_
    rintro _ _ ⟨X3, Y3, Z3, A3, B3, hT3, rfl, rfl⟩
    rw [odd_next hp] at hT3
    refine at_nil ?_
    refine at_then ?_
    refine at_region ?_
    refine at_d rfl rfl (opr_move rfl rfl) ?_
    refine at_d rfl rfl (opr_move rfl rfl) ?_
    refine at_d rfl rfl (opr_indexAddrS (j := i + 1) (off' := 224 * (i + 1)) rfl rfl rfl Tryz.underlying102 hlt size92 (by omega)) ?_
    refine at_d rfl rfl (opr_move rfl rfl) ?_
    refine at_c rfl rfl (opr_call rfl rfl rfl Tryz.func80 (by kernel_rfl) rfl (twFrom_ct (ip := 2) (jt := jt + 4) (iz := 3) (kz := 4 * (i + 1)) rfl hT rfl (by rw [hI.len]; omega) (by omega) (by decide) (by omega) hT3)) ?_
    rintro _ _ ⟨a2, s2, t2, u2, hk2, rfl, rfl⟩
    refine at_nil ?_
    refine at_inBlock_normal ?_
    refine at_then ?_
    refine at_region ?_
    refine at_d rfl rfl (opr_move rfl rfl) ?_
    refine at_d rfl rfl (opr_addI (a := i + 1) (b := 1) rfl rfl rfl (by omega)) ?_
    refine at_d rfl rfl (opr_assign rfl rfl) ?_
    refine at_nil ?_
    exact at_round3 (i + 1) _ _ ⟨by omega, hI.next hp hlt hT3 hk2⟩ (by omega) (allIn ⟨rfl, rfl, rfl, rfl, rfl, trivial⟩) (by repeat (first | exact List.Sublist.refl _ | apply List.Sublist.cons_cons | apply List.Sublist.cons))
  ·
    obtain rfl : i = 7 := by have := of_decide_eq_false ht; omega
    refine at_exit ?_
    refine at_then_exit ?_
    refine at_then_exit ?_
    refine at_inBlock_same ?_
    exact done_of (res0 Tryz.results52) ⟨_, _, _, _, _, _, hI.len, fun j hj => hI.tab j (by omega), rfl, rfl⟩ (by repeat (first | exact List.Sublist.refl _ | apply List.Sublist.cons_cons | apply List.Sublist.cons))
end Go.Proofs.YtjlhhcdefcofkaaGreatDoor
