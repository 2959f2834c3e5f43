/- Inverses. -/
import Derived.Test.YtjlhhcdefcofkaaGreatDoorLaws4
import Derived.Test.YtjlhhcdefcofkaaGreatDoorField
namespace Go.Proofs.YtjlhhcdefcofkaaGreatDoor
open Go
set_option maxRecDepth 100000

theorem at_mem {C : Ctx} {St : Slots} {M1 M2 : Mem} {F : Act → World → Prop} (h : M1 = M2) (k : At C St M2 F) : At C St M1 F := h ▸ k
theorem pw_round {x e k r s : Nat} (h : Pw x (2 ^ k * e) r) (hl : s < RR) (hs : s % pp = r * r % pp) : Pw x (2 ^ (k + 1) * e) s :=
  pw_cast (pw_sqr h hl hs) (by rw [Nat.pow_succ, Nat.mul_comm (2 ^ k) 2, Nat.mul_assoc])
theorem pw_start {x e r : Nat} (h : Pw x e r) : Pw x (2 ^ 0 * e) r := pw_cast h (by rw [Nat.pow_zero, Nat.one_mul])
/-- The inverse modulo pp as a power; of 0 it is 0. -/
noncomputable def invp (a : Nat) : Nat := Classical.choose (⟨a ^ (pp - 2) % pp, rfl⟩ : ∃ y, y = a ^ (pp - 2) % pp)
theorem invp_eq (a : Nat) : invp a = a ^ (pp - 2) % pp := Classical.choose_spec (⟨a ^ (pp - 2) % pp, rfl⟩ : ∃ y, y = a ^ (pp - 2) % pp)
theorem invp_of {a e r : Nat} (h : Pw a e r) (he : e = pp - 2) : r % pp = invp a := by
  rw [invp_eq, ← he]; exact h.2
theorem invp_lt (a : Nat) : invp a < pp := by rw [invp_eq]; exact Nat.mod_lt _ (by decide)
theorem invp_RR (a : Nat) : invp a < RR := Nat.lt_trans (invp_lt a) RR_pp
theorem invp_mod (a : Nat) : invp a % pp = invp a := Nat.mod_eq_of_lt (invp_lt a)
theorem invp_congr {a b : Nat} (h : a % pp = b % pp) : invp a = invp b := by
  rw [invp_eq, invp_eq, Nat.pow_mod, h, ← Nat.pow_mod]
theorem mul_invp {a : Nat} (h : ¬ a % pp = 0) : a * invp a % pp = 1 := by
  have ha : ¬ pp ∣ a := fun hd => h (Nat.mod_eq_zero_of_dvd hd)
  have k := fermat1 prime_pp ha
  rw [invp_eq, Nat.mul_mod_mod, Nat.mul_comm]
  have e2 : a ^ (pp - 2) * a = a ^ (pp - 1) := by rw [← Nat.pow_succ]; rfl
  rw [e2, k]; rfl
theorem invp_zero {a : Nat} (h : a % pp = 0) : invp a = 0 := by
  rw [invp_congr (b := 0) h, invp_eq, Nat.zero_pow (by decide)]; rfl
theorem invp_ne {a : Nat} (h : ¬ a % pp = 0) : ¬ invp a % pp = 0 := by
  intro h0
  have := mul_invp h
  rw [Nat.mul_mod, h0, Nat.mul_zero] at this
  exact absurd this (by decide)
theorem invp_uniq {a b : Nat} (h : a * b % pp = 1) : b % pp = invp a := by
  have ha : ¬ a % pp = 0 := by
    intro h0
    rw [Nat.mul_mod, h0, Nat.zero_mul] at h
    exact absurd h (by decide)
  have hd : ¬ pp ∣ a := fun hd => ha (Nat.mod_eq_zero_of_dvd hd)
  rw [← invp_mod a]
  exact cancel_mod prime_pp hd (h.trans (mul_invp ha).symm)
theorem invp_invp {a : Nat} (h : ¬ a % pp = 0) : invp (invp a) = a % pp :=
  (invp_uniq ((congrArg (· % pp) (Nat.mul_comm _ _)).trans (mul_invp h))).symm
theorem el_invp (a : Nat) (h : el a ≠ 0) : el a * el (invp a) = 1 := by
  rw [← el_mul, ← el_one, el_eq, mul_invp fun h0 => h (el_eq_zero.2 h0)]; rfl
def PowR (M : Mem) (iz gz Tz kz a e : Nat) (lz : List Nat) : Value → Mem → Prop := fun v M' => ∃ r, Pw a e r ∧ v = .tuple #[] ∧ M' = M.set iz ⟨gz, Tz, EE (lz.set kz r)⟩
theorem pow_ct {M : Mem} {iz ix gz gx Tz Tx kz kx oz ox a : Nat} {lz lx : List Nat} (hz : M[iz]? = some ⟨gz, Tz, EE lz⟩) (hkz : kz < lz.length) (hoz : 56 * kz = oz) (hx : M[ix]? = some ⟨gx, Tx, EE lx⟩) (hkx : lx[kx]? = some a) (hox : 56 * kx = ox) (hne : iz ≠ ix) (ha : a < RR) : Ct Tryz.prog 66 #[.pointer (some ⟨gz, oz, none⟩), .pointer (some ⟨gx, ox, none⟩)] M (PowR M iz gz Tz kz a 181709681073901722637330951972001133588410340171829515070372549795153082041682693171599095924669136482522221115460909340263374504591359 lz) := by
  refine ct_of (vs := [.pointer (some ⟨gz, oz, none⟩), .pointer (some ⟨gx, ox, none⟩)]) Tryz.func66 rfl Tryz.ntmps66 rfl fun w0 => ?_
  refine at_seq ?_
  refine at_region ?_
  refine at_d rfl rfl (opr_buildE rfl rfl built_zero E_zero0) ?_
  refine at_n rfl rfl (opr_box (cs := EE [0]) rfl rfl (E_box _)) ?_
  intro g0
  refine at_d rfl rfl (opr_buildE rfl rfl built_zero E_zero0) ?_
  refine at_n rfl rfl (opr_box (cs := EE [0]) rfl rfl (E_box _)) ?_
  intro g1
  refine at_d rfl rfl (opr_assign rfl rfl) ?_
  refine at_d rfl rfl (opr_assign rfl rfl) ?_
  refine at_nil ?_
  refine at_then ?_
  refine at_seq ?_
  refine at_region ?_
  refine at_d rfl rfl (opr_move rfl rfl) ?_
  refine at_d rfl rfl (opr_move rfl rfl) ?_
  refine at_c rfl rfl (opr_call rfl rfl rfl Tryz.func61 (by kernel_rfl) rfl (Sqr_ct (iz := iz + 2) (ix := ix + 2) (kz := kz) (kx := kx) hz hkz hoz hx hkx hox ha)) ?_
  rintro _ _ ⟨r0, hl0, hm0, rfl, rfl⟩
  have p0 : Pw a 2 r0 := pw_sqr (pw_one ha) hl0 hm0
  clear hl0 hm0
  have hb1 : (M.set iz ⟨gz, Tz, EE (lz.set kz r0)⟩)[iz]? = some ⟨gz, Tz, EE (lz.set kz r0)⟩ := get_set hz
  have hb1_gx : (M.set iz ⟨gz, Tz, EE (lz.set kz r0)⟩)[ix]? = some ⟨gx, Tx, EE lx⟩ := get_set_ne hx hne
  refine at_mem (M2 := ⟨g1, 60, EE [0]⟩ :: ⟨g0, 60, EE [0]⟩ :: (M.set iz ⟨gz, Tz, EE (lz.set kz r0)⟩)) (by simp) ?_
  refine at_nil ?_
  refine at_then ?_
  refine at_seq ?_
  refine at_region ?_
  refine at_d rfl rfl (opr_move rfl rfl) ?_
  refine at_d rfl rfl (opr_move rfl rfl) ?_
  refine at_d rfl rfl (opr_move rfl rfl) ?_
  refine at_c rfl rfl (opr_call rfl rfl rfl Tryz.func43 (by kernel_rfl) rfl (Mul_ct (iz := iz + 2) (ix := iz + 2) (iy := ix + 2) (kz := kz) (kx := kz) (ky := kx) hb1 (lset_lt hkz) hoz hb1 (lset hkz) hoz hb1_gx hkx hox p0.1 ha)) ?_
  rintro _ _ ⟨r1, hl1, hm1, rfl, rfl⟩
  have p1 : Pw a 3 r1 := pw_mul p0 (pw_one ha) hl1 hm1
  clear hl1 hm1
  have hb2 : (M.set iz ⟨gz, Tz, EE (lz.set kz r1)⟩)[iz]? = some ⟨gz, Tz, EE (lz.set kz r1)⟩ := get_set hz
  have hb2_gx : (M.set iz ⟨gz, Tz, EE (lz.set kz r1)⟩)[ix]? = some ⟨gx, Tx, EE lx⟩ := get_set_ne hx hne
  refine at_mem (M2 := ⟨g1, 60, EE [0]⟩ :: ⟨g0, 60, EE [0]⟩ :: (M.set iz ⟨gz, Tz, EE (lz.set kz r1)⟩)) (by simp) ?_
  refine at_nil ?_
  refine at_then ?_
  refine at_seq ?_
  refine at_region ?_
  refine at_d rfl rfl (opr_move rfl rfl) ?_
  refine at_d rfl rfl (opr_move rfl rfl) ?_
  refine at_c rfl rfl (opr_call rfl rfl rfl Tryz.func61 (by kernel_rfl) rfl (Sqr_ct (iz := 1) (ix := iz + 2) (kz := 0) (kx := kz) rfl (Nat.le_of_ble_eq_true rfl) rfl hb2 (lset hkz) hoz p1.1)) ?_
  rintro _ _ ⟨r2, hl2, hm2, rfl, rfl⟩
  have p2 : Pw a 6 r2 := pw_sqr p1 hl2 hm2
  clear hl2 hm2
  refine at_nil ?_
  refine at_then ?_
  refine at_seq ?_
  refine at_region ?_
  refine at_d rfl rfl (opr_move rfl rfl) ?_
  refine at_d rfl rfl (opr_move rfl rfl) ?_
  refine at_d rfl rfl (opr_move rfl rfl) ?_
  refine at_c rfl rfl (opr_call rfl rfl rfl Tryz.func43 (by kernel_rfl) rfl (Mul_ct (iz := 1) (ix := 1) (iy := ix + 2) (kz := 0) (kx := 0) (ky := kx) rfl (Nat.le_of_ble_eq_true rfl) rfl rfl rfl rfl hb2_gx hkx hox p2.1 ha)) ?_
  rintro _ _ ⟨r3, hl3, hm3, rfl, rfl⟩
  have p3 : Pw a 7 r3 := pw_mul p2 (pw_one ha) hl3 hm3
  clear hl3 hm3
  refine at_nil ?_
  refine at_then ?_
  refine at_seq ?_
  refine at_region ?_
  refine at_d rfl rfl (opr_move rfl rfl) ?_
  refine at_d rfl rfl (opr_move rfl rfl) ?_
  refine at_c rfl rfl (opr_call rfl rfl rfl Tryz.func61 (by kernel_rfl) rfl (Sqr_ct (iz := iz + 2) (ix := 1) (kz := kz) (kx := 0) hb2 (lset_lt hkz) hoz rfl rfl rfl p3.1)) ?_
  rintro _ _ ⟨r4, hl4, hm4, rfl, rfl⟩
  have p4 : Pw a 14 r4 := pw_sqr p3 hl4 hm4
  clear hl4 hm4
  have hb3 : (M.set iz ⟨gz, Tz, EE (lz.set kz r4)⟩)[iz]? = some ⟨gz, Tz, EE (lz.set kz r4)⟩ := get_set hz
  have hb3_gx : (M.set iz ⟨gz, Tz, EE (lz.set kz r4)⟩)[ix]? = some ⟨gx, Tx, EE lx⟩ := get_set_ne hx hne
  refine at_mem (M2 := ⟨g1, 60, EE [0]⟩ :: ⟨g0, 60, EE [r3]⟩ :: (M.set iz ⟨gz, Tz, EE (lz.set kz r4)⟩)) (by simp) ?_
  refine at_nil ?_
  refine at_then ?_
  refine at_seq ?_
  refine at_region ?_
  refine at_d rfl rfl (opr_move rfl rfl) ?_
  refine at_d rfl rfl (opr_move rfl rfl) ?_
  refine at_c rfl rfl (opr_call rfl rfl rfl Tryz.func61 (by kernel_rfl) rfl (Sqr_ct (iz := iz + 2) (ix := iz + 2) (kz := kz) (kx := kz) hb3 (lset_lt hkz) hoz hb3 (lset hkz) hoz p4.1)) ?_
  rintro _ _ ⟨r5, hl5, hm5, rfl, rfl⟩
  have p5 : Pw a 28 r5 := pw_sqr p4 hl5 hm5
  clear hl5 hm5
  have hb4 : (M.set iz ⟨gz, Tz, EE (lz.set kz r5)⟩)[iz]? = some ⟨gz, Tz, EE (lz.set kz r5)⟩ := get_set hz
  have hb4_gx : (M.set iz ⟨gz, Tz, EE (lz.set kz r5)⟩)[ix]? = some ⟨gx, Tx, EE lx⟩ := get_set_ne hx hne
  refine at_mem (M2 := ⟨g1, 60, EE [0]⟩ :: ⟨g0, 60, EE [r3]⟩ :: (M.set iz ⟨gz, Tz, EE (lz.set kz r5)⟩)) (by simp) ?_
  refine at_nil ?_
  refine at_then ?_
  refine at_seq ?_
  refine at_region ?_
  refine at_d rfl rfl (opr_move rfl rfl) ?_
  refine at_d rfl rfl (opr_move rfl rfl) ?_
  refine at_c rfl rfl (opr_call rfl rfl rfl Tryz.func61 (by kernel_rfl) rfl (Sqr_ct (iz := iz + 2) (ix := iz + 2) (kz := kz) (kx := kz) hb4 (lset_lt hkz) hoz hb4 (lset hkz) hoz p5.1)) ?_
  rintro _ _ ⟨r6, hl6, hm6, rfl, rfl⟩
  have p6 : Pw a 56 r6 := pw_sqr p5 hl6 hm6
  clear hl6 hm6
  have hb5 : (M.set iz ⟨gz, Tz, EE (lz.set kz r6)⟩)[iz]? = some ⟨gz, Tz, EE (lz.set kz r6)⟩ := get_set hz
  have hb5_gx : (M.set iz ⟨gz, Tz, EE (lz.set kz r6)⟩)[ix]? = some ⟨gx, Tx, EE lx⟩ := get_set_ne hx hne
  refine at_mem (M2 := ⟨g1, 60, EE [0]⟩ :: ⟨g0, 60, EE [r3]⟩ :: (M.set iz ⟨gz, Tz, EE (lz.set kz r6)⟩)) (by simp) ?_
  refine at_nil ?_
  refine at_then ?_
  refine at_seq ?_
  refine at_region ?_
  refine at_d rfl rfl (opr_move rfl rfl) ?_
  refine at_d rfl rfl (opr_move rfl rfl) ?_
  refine at_d rfl rfl (opr_move rfl rfl) ?_
  refine at_c rfl rfl (opr_call rfl rfl rfl Tryz.func43 (by kernel_rfl) rfl (Mul_ct (iz := iz + 2) (ix := iz + 2) (iy := 1) (kz := kz) (kx := kz) (ky := 0) hb5 (lset_lt hkz) hoz hb5 (lset hkz) hoz rfl rfl rfl p6.1 p3.1)) ?_
  rintro _ _ ⟨r7, hl7, hm7, rfl, rfl⟩
  have p7 : Pw a 63 r7 := pw_mul p6 p3 hl7 hm7
  clear hl7 hm7
  have hb6 : (M.set iz ⟨gz, Tz, EE (lz.set kz r7)⟩)[iz]? = some ⟨gz, Tz, EE (lz.set kz r7)⟩ := get_set hz
  have hb6_gx : (M.set iz ⟨gz, Tz, EE (lz.set kz r7)⟩)[ix]? = some ⟨gx, Tx, EE lx⟩ := get_set_ne hx hne
  refine at_mem (M2 := ⟨g1, 60, EE [0]⟩ :: ⟨g0, 60, EE [r3]⟩ :: (M.set iz ⟨gz, Tz, EE (lz.set kz r7)⟩)) (by simp) ?_
  refine at_nil ?_
  refine at_then ?_
  refine at_seq ?_
  refine at_region ?_
  refine at_d rfl rfl (opr_move rfl rfl) ?_
  refine at_d rfl rfl (opr_move rfl rfl) ?_
  refine at_c rfl rfl (opr_call rfl rfl rfl Tryz.func61 (by kernel_rfl) rfl (Sqr_ct (iz := 0) (ix := iz + 2) (kz := 0) (kx := kz) rfl (Nat.le_of_ble_eq_true rfl) rfl hb6 (lset hkz) hoz p7.1)) ?_
  rintro _ _ ⟨r8, hl8, hm8, rfl, rfl⟩
  have p8 : Pw a 126 r8 := pw_sqr p7 hl8 hm8
  clear hl8 hm8
  refine at_nil ?_
  refine at_then ?_
  refine at_seq ?_
  refine at_seq ?_
  refine at_region ?_
  refine at_d rfl rfl (opr_assign rfl rfl) ?_
  refine at_nil ?_
  refine at_then ?_
  refine at_block ?_
  refine at_loop2 (fun (x : Nat) (y : Nat) => [(0, .pointer (some ⟨gz, oz, none⟩)), (1, .pointer (some ⟨gx, ox, none⟩)), (4, .pointer (some ⟨g0, 0, none⟩)), (5, .pointer (some ⟨g1, 0, none⟩)), (6, .int .i64 (x : Int))]) (fun (x : Nat) (y : Nat) => ⟨g1, 60, EE [y]⟩ :: ⟨g0, 60, EE [r3]⟩ :: (M.set iz ⟨gz, Tz, EE (lz.set kz r7)⟩)) (fun (x : Nat) (y : Nat) => 5 - x) (fun (x : Nat) (y : Nat) => x ≤ 5 ∧ Pw a (2 ^ x * 126) y) 0 r8 ⟨Nat.zero_le _, pw_start p8⟩ (allIn ⟨rfl, rfl, rfl, rfl, rfl, trivial⟩) (List.Sublist.refl _) ?_
  rintro k s0 ⟨hk, hr⟩
  dsimp only
  refine at_seq ?_
  refine at_seq ?_
  refine at_region ?_
  refine at_d rfl rfl (opr_move rfl rfl) ?_
  refine at_d rfl rfl (opr_lss (a := k) (b := 5) rfl rfl rfl) ?_
  refine at_nil ?_
  refine at_then ?_
  refine at_cond rfl (fun ht => ?_) (fun ht => ?_)
  ·
    have hlt : k < 5 := of_decide_eq_true ht
    refine at_skip ?_
    refine at_then ?_
    refine at_seq ?_
    refine at_block ?_
    refine at_region ?_
    refine at_d rfl rfl (opr_move rfl rfl) ?_
    refine at_d rfl rfl (opr_move rfl rfl) ?_
    refine at_c rfl rfl (opr_call rfl rfl rfl Tryz.func61 (by kernel_rfl) rfl (Sqr_ct (iz := 0) (ix := 0) (kz := 0) (kx := 0) rfl (Nat.le_of_ble_eq_true rfl) rfl rfl rfl rfl hr.1)) ?_
    rintro _ _ ⟨r9, hl9, hm9, rfl, rfl⟩
    have p9 := pw_round hr hl9 hm9
    clear hl9 hm9
    refine at_nil ?_
    refine at_inBlock_normal ?_
    refine at_then ?_
    refine at_region ?_
    refine at_d rfl rfl (opr_move rfl rfl) ?_
    refine at_d rfl rfl (opr_addI (a := k) (b := 1) rfl rfl rfl (by omega)) ?_
    refine at_d rfl rfl (opr_assign rfl rfl) ?_
    refine at_nil ?_
    exact at_round2 (k + 1) r9 ⟨by omega, p9⟩ (by omega) (allIn ⟨rfl, rfl, rfl, rfl, rfl, trivial⟩) (List.Sublist.refl _)
  ·
    obtain rfl : k = 5 := by have := of_decide_eq_false ht; omega
    have q0 : Pw a 4032 s0 := hr
    clear hr hk ht
    refine at_exit ?_
    refine at_then_exit ?_
    refine at_then_exit ?_
    refine at_inBlock_same ?_
    refine at_then ?_
    refine at_seq ?_
    refine at_region ?_
    refine at_d rfl rfl (opr_move rfl rfl) ?_
    refine at_d rfl rfl (opr_move rfl rfl) ?_
    refine at_d rfl rfl (opr_move rfl rfl) ?_
    refine at_c rfl rfl (opr_call rfl rfl rfl Tryz.func43 (by kernel_rfl) rfl (Mul_ct (iz := 0) (ix := 0) (iy := iz + 2) (kz := 0) (kx := 0) (ky := kz) rfl (Nat.le_of_ble_eq_true rfl) rfl rfl rfl rfl hb6 (lset hkz) hoz q0.1 p7.1)) ?_
    rintro _ _ ⟨r10, hl10, hm10, rfl, rfl⟩
    have p10 : Pw a 4095 r10 := pw_mul q0 p7 hl10 hm10
    clear hl10 hm10
    refine at_nil ?_
    refine at_then ?_
    refine at_seq ?_
    refine at_region ?_
    refine at_d rfl rfl (opr_move rfl rfl) ?_
    refine at_d rfl rfl (opr_move rfl rfl) ?_
    refine at_c rfl rfl (opr_call rfl rfl rfl Tryz.func61 (by kernel_rfl) rfl (Sqr_ct (iz := iz + 2) (ix := 0) (kz := kz) (kx := 0) hb6 (lset_lt hkz) hoz rfl rfl rfl p10.1)) ?_
    rintro _ _ ⟨r11, hl11, hm11, rfl, rfl⟩
    have p11 : Pw a 8190 r11 := pw_sqr p10 hl11 hm11
    clear hl11 hm11
    have hb7 : (M.set iz ⟨gz, Tz, EE (lz.set kz r11)⟩)[iz]? = some ⟨gz, Tz, EE (lz.set kz r11)⟩ := get_set hz
    have hb7_gx : (M.set iz ⟨gz, Tz, EE (lz.set kz r11)⟩)[ix]? = some ⟨gx, Tx, EE lx⟩ := get_set_ne hx hne
    refine at_mem (M2 := ⟨g1, 60, EE [r10]⟩ :: ⟨g0, 60, EE [r3]⟩ :: (M.set iz ⟨gz, Tz, EE (lz.set kz r11)⟩)) (by simp) ?_
    refine at_nil ?_
    refine at_then ?_
    refine at_seq ?_
    refine at_seq ?_
    refine at_region ?_
    refine at_d rfl rfl (opr_assign rfl rfl) ?_
    refine at_nil ?_
    refine at_then ?_
    refine at_block ?_
    refine at_loop2 (fun (x : Nat) (y : Nat) => [(0, .pointer (some ⟨gz, oz, none⟩)), (1, .pointer (some ⟨gx, ox, none⟩)), (4, .pointer (some ⟨g0, 0, none⟩)), (5, .pointer (some ⟨g1, 0, none⟩)), (7, .int .i64 (x : Int))]) (fun (x : Nat) (y : Nat) => ⟨g1, 60, EE [r10]⟩ :: ⟨g0, 60, EE [r3]⟩ :: (M.set iz ⟨gz, Tz, EE (lz.set kz y)⟩)) (fun (x : Nat) (y : Nat) => 11 - x) (fun (x : Nat) (y : Nat) => x ≤ 11 ∧ Pw a (2 ^ x * 8190) y) 0 r11 ⟨Nat.zero_le _, pw_start p11⟩ (allIn ⟨rfl, rfl, rfl, rfl, rfl, trivial⟩) (List.Sublist.refl _) ?_
    rintro k s1 ⟨hk, hr⟩
    dsimp only
    have hb8 : (M.set iz ⟨gz, Tz, EE (lz.set kz s1)⟩)[iz]? = some ⟨gz, Tz, EE (lz.set kz s1)⟩ := get_set hz
    have hb8_gx : (M.set iz ⟨gz, Tz, EE (lz.set kz s1)⟩)[ix]? = some ⟨gx, Tx, EE lx⟩ := get_set_ne hx hne
    refine at_seq ?_
    refine at_seq ?_
    refine at_region ?_
    refine at_d rfl rfl (opr_move rfl rfl) ?_
    refine at_d rfl rfl (opr_lss (a := k) (b := 11) rfl rfl rfl) ?_
    refine at_nil ?_
    refine at_then ?_
    refine at_cond rfl (fun ht => ?_) (fun ht => ?_)
    ·
      have hlt : k < 11 := of_decide_eq_true ht
      refine at_skip ?_
      refine at_then ?_
      refine at_seq ?_
      refine at_block ?_
      refine at_region ?_
      refine at_d rfl rfl (opr_move rfl rfl) ?_
      refine at_d rfl rfl (opr_move rfl rfl) ?_
      refine at_c rfl rfl (opr_call rfl rfl rfl Tryz.func61 (by kernel_rfl) rfl (Sqr_ct (iz := iz + 2) (ix := iz + 2) (kz := kz) (kx := kz) hb8 (lset_lt hkz) hoz hb8 (lset hkz) hoz hr.1)) ?_
      rintro _ _ ⟨r12, hl12, hm12, rfl, rfl⟩
      have p12 := pw_round hr hl12 hm12
      clear hl12 hm12
      have hb9 : (M.set iz ⟨gz, Tz, EE (lz.set kz r12)⟩)[iz]? = some ⟨gz, Tz, EE (lz.set kz r12)⟩ := get_set hz
      have hb9_gx : (M.set iz ⟨gz, Tz, EE (lz.set kz r12)⟩)[ix]? = some ⟨gx, Tx, EE lx⟩ := get_set_ne hx hne
      refine at_mem (M2 := ⟨g1, 60, EE [r10]⟩ :: ⟨g0, 60, EE [r3]⟩ :: (M.set iz ⟨gz, Tz, EE (lz.set kz r12)⟩)) (by simp) ?_
      refine at_nil ?_
      refine at_inBlock_normal ?_
      refine at_then ?_
      refine at_region ?_
      refine at_d rfl rfl (opr_move rfl rfl) ?_
      refine at_d rfl rfl (opr_addI (a := k) (b := 1) rfl rfl rfl (by omega)) ?_
      refine at_d rfl rfl (opr_assign rfl rfl) ?_
      refine at_nil ?_
      exact at_round2 (k + 1) r12 ⟨by omega, p12⟩ (by omega) (allIn ⟨rfl, rfl, rfl, rfl, rfl, trivial⟩) (List.Sublist.refl _)
    ·
      obtain rfl : k = 11 := by have := of_decide_eq_false ht; omega
      have q1 : Pw a 16773120 s1 := hr
      clear hr hk ht
      refine at_exit ?_
      refine at_then_exit ?_
      refine at_then_exit ?_
      refine at_inBlock_same ?_
      refine at_then ?_
      refine at_seq ?_
      refine at_region ?_
      refine at_d rfl rfl (opr_move rfl rfl) ?_
      refine at_d rfl rfl (opr_move rfl rfl) ?_
      refine at_d rfl rfl (opr_move rfl rfl) ?_
      refine at_c rfl rfl (opr_call rfl rfl rfl Tryz.func43 (by kernel_rfl) rfl (Mul_ct (iz := iz + 2) (ix := iz + 2) (iy := 0) (kz := kz) (kx := kz) (ky := 0) hb8 (lset_lt hkz) hoz hb8 (lset hkz) hoz rfl rfl rfl q1.1 p10.1)) ?_
      rintro _ _ ⟨r13, hl13, hm13, rfl, rfl⟩
      have p13 : Pw a 16777215 r13 := pw_mul q1 p10 hl13 hm13
      clear hl13 hm13
      have hb10 : (M.set iz ⟨gz, Tz, EE (lz.set kz r13)⟩)[iz]? = some ⟨gz, Tz, EE (lz.set kz r13)⟩ := get_set hz
      have hb10_gx : (M.set iz ⟨gz, Tz, EE (lz.set kz r13)⟩)[ix]? = some ⟨gx, Tx, EE lx⟩ := get_set_ne hx hne
      refine at_mem (M2 := ⟨g1, 60, EE [r10]⟩ :: ⟨g0, 60, EE [r3]⟩ :: (M.set iz ⟨gz, Tz, EE (lz.set kz r13)⟩)) (by simp) ?_
      refine at_nil ?_
      refine at_then ?_
      refine at_seq ?_
      refine at_region ?_
      refine at_d rfl rfl (opr_move rfl rfl) ?_
      refine at_d rfl rfl (opr_move rfl rfl) ?_
      refine at_c rfl rfl (opr_call rfl rfl rfl Tryz.func61 (by kernel_rfl) rfl (Sqr_ct (iz := iz + 2) (ix := iz + 2) (kz := kz) (kx := kz) hb10 (lset_lt hkz) hoz hb10 (lset hkz) hoz p13.1)) ?_
      rintro _ _ ⟨r14, hl14, hm14, rfl, rfl⟩
      have p14 : Pw a 33554430 r14 := pw_sqr p13 hl14 hm14
      clear hl14 hm14
      have hb11 : (M.set iz ⟨gz, Tz, EE (lz.set kz r14)⟩)[iz]? = some ⟨gz, Tz, EE (lz.set kz r14)⟩ := get_set hz
      have hb11_gx : (M.set iz ⟨gz, Tz, EE (lz.set kz r14)⟩)[ix]? = some ⟨gx, Tx, EE lx⟩ := get_set_ne hx hne
      refine at_mem (M2 := ⟨g1, 60, EE [r10]⟩ :: ⟨g0, 60, EE [r3]⟩ :: (M.set iz ⟨gz, Tz, EE (lz.set kz r14)⟩)) (by simp) ?_
      refine at_nil ?_
      refine at_then ?_
      refine at_seq ?_
      refine at_region ?_
      refine at_d rfl rfl (opr_move rfl rfl) ?_
      refine at_d rfl rfl (opr_move rfl rfl) ?_
      refine at_c rfl rfl (opr_call rfl rfl rfl Tryz.func61 (by kernel_rfl) rfl (Sqr_ct (iz := iz + 2) (ix := iz + 2) (kz := kz) (kx := kz) hb11 (lset_lt hkz) hoz hb11 (lset hkz) hoz p14.1)) ?_
      rintro _ _ ⟨r15, hl15, hm15, rfl, rfl⟩
      have p15 : Pw a 67108860 r15 := pw_sqr p14 hl15 hm15
      clear hl15 hm15
      have hb12 : (M.set iz ⟨gz, Tz, EE (lz.set kz r15)⟩)[iz]? = some ⟨gz, Tz, EE (lz.set kz r15)⟩ := get_set hz
      have hb12_gx : (M.set iz ⟨gz, Tz, EE (lz.set kz r15)⟩)[ix]? = some ⟨gx, Tx, EE lx⟩ := get_set_ne hx hne
      refine at_mem (M2 := ⟨g1, 60, EE [r10]⟩ :: ⟨g0, 60, EE [r3]⟩ :: (M.set iz ⟨gz, Tz, EE (lz.set kz r15)⟩)) (by simp) ?_
      refine at_nil ?_
      refine at_then ?_
      refine at_seq ?_
      refine at_region ?_
      refine at_d rfl rfl (opr_move rfl rfl) ?_
      refine at_d rfl rfl (opr_move rfl rfl) ?_
      refine at_c rfl rfl (opr_call rfl rfl rfl Tryz.func61 (by kernel_rfl) rfl (Sqr_ct (iz := iz + 2) (ix := iz + 2) (kz := kz) (kx := kz) hb12 (lset_lt hkz) hoz hb12 (lset hkz) hoz p15.1)) ?_
      rintro _ _ ⟨r16, hl16, hm16, rfl, rfl⟩
      have p16 : Pw a 134217720 r16 := pw_sqr p15 hl16 hm16
      clear hl16 hm16
      have hb13 : (M.set iz ⟨gz, Tz, EE (lz.set kz r16)⟩)[iz]? = some ⟨gz, Tz, EE (lz.set kz r16)⟩ := get_set hz
      have hb13_gx : (M.set iz ⟨gz, Tz, EE (lz.set kz r16)⟩)[ix]? = some ⟨gx, Tx, EE lx⟩ := get_set_ne hx hne
      refine at_mem (M2 := ⟨g1, 60, EE [r10]⟩ :: ⟨g0, 60, EE [r3]⟩ :: (M.set iz ⟨gz, Tz, EE (lz.set kz r16)⟩)) (by simp) ?_
      refine at_nil ?_
      refine at_then ?_
      refine at_seq ?_
      refine at_region ?_
      refine at_d rfl rfl (opr_move rfl rfl) ?_
      refine at_d rfl rfl (opr_move rfl rfl) ?_
      refine at_d rfl rfl (opr_move rfl rfl) ?_
      refine at_c rfl rfl (opr_call rfl rfl rfl Tryz.func43 (by kernel_rfl) rfl (Mul_ct (iz := iz + 2) (ix := iz + 2) (iy := 1) (kz := kz) (kx := kz) (ky := 0) hb13 (lset_lt hkz) hoz hb13 (lset hkz) hoz rfl rfl rfl p16.1 p3.1)) ?_
      rintro _ _ ⟨r17, hl17, hm17, rfl, rfl⟩
      have p17 : Pw a 134217727 r17 := pw_mul p16 p3 hl17 hm17
      clear hl17 hm17
      have hb14 : (M.set iz ⟨gz, Tz, EE (lz.set kz r17)⟩)[iz]? = some ⟨gz, Tz, EE (lz.set kz r17)⟩ := get_set hz
      have hb14_gx : (M.set iz ⟨gz, Tz, EE (lz.set kz r17)⟩)[ix]? = some ⟨gx, Tx, EE lx⟩ := get_set_ne hx hne
      refine at_mem (M2 := ⟨g1, 60, EE [r10]⟩ :: ⟨g0, 60, EE [r3]⟩ :: (M.set iz ⟨gz, Tz, EE (lz.set kz r17)⟩)) (by simp) ?_
      refine at_nil ?_
      refine at_then ?_
      refine at_seq ?_
      refine at_region ?_
      refine at_d rfl rfl (opr_move rfl rfl) ?_
      refine at_d rfl rfl (opr_move rfl rfl) ?_
      refine at_c rfl rfl (opr_call rfl rfl rfl Tryz.func61 (by kernel_rfl) rfl (Sqr_ct (iz := 0) (ix := iz + 2) (kz := 0) (kx := kz) rfl (Nat.le_of_ble_eq_true rfl) rfl hb14 (lset hkz) hoz p17.1)) ?_
      rintro _ _ ⟨r18, hl18, hm18, rfl, rfl⟩
      have p18 : Pw a 268435454 r18 := pw_sqr p17 hl18 hm18
      clear hl18 hm18
      refine at_nil ?_
      refine at_then ?_
      refine at_seq ?_
      refine at_seq ?_
      refine at_region ?_
      refine at_d rfl rfl (opr_assign rfl rfl) ?_
      refine at_nil ?_
      refine at_then ?_
      refine at_block ?_
      refine at_loop2 (fun (x : Nat) (y : Nat) => [(0, .pointer (some ⟨gz, oz, none⟩)), (1, .pointer (some ⟨gx, ox, none⟩)), (4, .pointer (some ⟨g0, 0, none⟩)), (5, .pointer (some ⟨g1, 0, none⟩)), (8, .int .i64 (x : Int))]) (fun (x : Nat) (y : Nat) => ⟨g1, 60, EE [y]⟩ :: ⟨g0, 60, EE [r3]⟩ :: (M.set iz ⟨gz, Tz, EE (lz.set kz r17)⟩)) (fun (x : Nat) (y : Nat) => 26 - x) (fun (x : Nat) (y : Nat) => x ≤ 26 ∧ Pw a (2 ^ x * 268435454) y) 0 r18 ⟨Nat.zero_le _, pw_start p18⟩ (allIn ⟨rfl, rfl, rfl, rfl, rfl, trivial⟩) (List.Sublist.refl _) ?_
      rintro k s2 ⟨hk, hr⟩
      dsimp only
      refine at_seq ?_
      refine at_seq ?_
      refine at_region ?_
      refine at_d rfl rfl (opr_move rfl rfl) ?_
      refine at_d rfl rfl (opr_lss (a := k) (b := 26) rfl rfl rfl) ?_
      refine at_nil ?_
      refine at_then ?_
      refine at_cond rfl (fun ht => ?_) (fun ht => ?_)
      ·
        have hlt : k < 26 := of_decide_eq_true ht
        refine at_skip ?_
        refine at_then ?_
        refine at_seq ?_
        refine at_block ?_
        refine at_region ?_
        refine at_d rfl rfl (opr_move rfl rfl) ?_
        refine at_d rfl rfl (opr_move rfl rfl) ?_
        refine at_c rfl rfl (opr_call rfl rfl rfl Tryz.func61 (by kernel_rfl) rfl (Sqr_ct (iz := 0) (ix := 0) (kz := 0) (kx := 0) rfl (Nat.le_of_ble_eq_true rfl) rfl rfl rfl rfl hr.1)) ?_
        rintro _ _ ⟨r19, hl19, hm19, rfl, rfl⟩
        have p19 := pw_round hr hl19 hm19
        clear hl19 hm19
        refine at_nil ?_
        refine at_inBlock_normal ?_
        refine at_then ?_
        refine at_region ?_
        refine at_d rfl rfl (opr_move rfl rfl) ?_
        refine at_d rfl rfl (opr_addI (a := k) (b := 1) rfl rfl rfl (by omega)) ?_
        refine at_d rfl rfl (opr_assign rfl rfl) ?_
        refine at_nil ?_
        exact at_round2 (k + 1) r19 ⟨by omega, p19⟩ (by omega) (allIn ⟨rfl, rfl, rfl, rfl, rfl, trivial⟩) (List.Sublist.refl _)
      ·
        obtain rfl : k = 26 := by have := of_decide_eq_false ht; omega
        have q2 : Pw a 18014398375264256 s2 := hr
        clear hr hk ht
        refine at_exit ?_
        refine at_then_exit ?_
        refine at_then_exit ?_
        refine at_inBlock_same ?_
        refine at_then ?_
        refine at_seq ?_
        refine at_region ?_
        refine at_d rfl rfl (opr_move rfl rfl) ?_
        refine at_d rfl rfl (opr_move rfl rfl) ?_
        refine at_d rfl rfl (opr_move rfl rfl) ?_
        refine at_c rfl rfl (opr_call rfl rfl rfl Tryz.func43 (by kernel_rfl) rfl (Mul_ct (iz := 0) (ix := 0) (iy := iz + 2) (kz := 0) (kx := 0) (ky := kz) rfl (Nat.le_of_ble_eq_true rfl) rfl rfl rfl rfl hb14 (lset hkz) hoz q2.1 p17.1)) ?_
        rintro _ _ ⟨r20, hl20, hm20, rfl, rfl⟩
        have p20 : Pw a 18014398509481983 r20 := pw_mul q2 p17 hl20 hm20
        clear hl20 hm20
        refine at_nil ?_
        refine at_then ?_
        refine at_seq ?_
        refine at_region ?_
        refine at_d rfl rfl (opr_move rfl rfl) ?_
        refine at_d rfl rfl (opr_move rfl rfl) ?_
        refine at_c rfl rfl (opr_call rfl rfl rfl Tryz.func61 (by kernel_rfl) rfl (Sqr_ct (iz := iz + 2) (ix := 0) (kz := kz) (kx := 0) hb14 (lset_lt hkz) hoz rfl rfl rfl p20.1)) ?_
        rintro _ _ ⟨r21, hl21, hm21, rfl, rfl⟩
        have p21 : Pw a 36028797018963966 r21 := pw_sqr p20 hl21 hm21
        clear hl21 hm21
        have hb15 : (M.set iz ⟨gz, Tz, EE (lz.set kz r21)⟩)[iz]? = some ⟨gz, Tz, EE (lz.set kz r21)⟩ := get_set hz
        have hb15_gx : (M.set iz ⟨gz, Tz, EE (lz.set kz r21)⟩)[ix]? = some ⟨gx, Tx, EE lx⟩ := get_set_ne hx hne
        refine at_mem (M2 := ⟨g1, 60, EE [r20]⟩ :: ⟨g0, 60, EE [r3]⟩ :: (M.set iz ⟨gz, Tz, EE (lz.set kz r21)⟩)) (by simp) ?_
        refine at_nil ?_
        refine at_then ?_
        refine at_seq ?_
        refine at_seq ?_
        refine at_region ?_
        refine at_d rfl rfl (opr_assign rfl rfl) ?_
        refine at_nil ?_
        refine at_then ?_
        refine at_block ?_
        refine at_loop2 (fun (x : Nat) (y : Nat) => [(0, .pointer (some ⟨gz, oz, none⟩)), (1, .pointer (some ⟨gx, ox, none⟩)), (4, .pointer (some ⟨g0, 0, none⟩)), (5, .pointer (some ⟨g1, 0, none⟩)), (9, .int .i64 (x : Int))]) (fun (x : Nat) (y : Nat) => ⟨g1, 60, EE [r20]⟩ :: ⟨g0, 60, EE [r3]⟩ :: (M.set iz ⟨gz, Tz, EE (lz.set kz y)⟩)) (fun (x : Nat) (y : Nat) => 53 - x) (fun (x : Nat) (y : Nat) => x ≤ 53 ∧ Pw a (2 ^ x * 36028797018963966) y) 0 r21 ⟨Nat.zero_le _, pw_start p21⟩ (allIn ⟨rfl, rfl, rfl, rfl, rfl, trivial⟩) (List.Sublist.refl _) ?_
        rintro k s3 ⟨hk, hr⟩
        dsimp only
        have hb16 : (M.set iz ⟨gz, Tz, EE (lz.set kz s3)⟩)[iz]? = some ⟨gz, Tz, EE (lz.set kz s3)⟩ := get_set hz
        have hb16_gx : (M.set iz ⟨gz, Tz, EE (lz.set kz s3)⟩)[ix]? = some ⟨gx, Tx, EE lx⟩ := get_set_ne hx hne
        refine at_seq ?_
        refine at_seq ?_
        refine at_region ?_
        refine at_d rfl rfl (opr_move rfl rfl) ?_
        refine at_d rfl rfl (opr_lss (a := k) (b := 53) rfl rfl rfl) ?_
        refine at_nil ?_
        refine at_then ?_
        refine at_cond rfl (fun ht => ?_) (fun ht => ?_)
        ·
          have hlt : k < 53 := of_decide_eq_true ht
          refine at_skip ?_
          refine at_then ?_
          refine at_seq ?_
          refine at_block ?_
          refine at_region ?_
          refine at_d rfl rfl (opr_move rfl rfl) ?_
          refine at_d rfl rfl (opr_move rfl rfl) ?_
          refine at_c rfl rfl (opr_call rfl rfl rfl Tryz.func61 (by kernel_rfl) rfl (Sqr_ct (iz := iz + 2) (ix := iz + 2) (kz := kz) (kx := kz) hb16 (lset_lt hkz) hoz hb16 (lset hkz) hoz hr.1)) ?_
          rintro _ _ ⟨r22, hl22, hm22, rfl, rfl⟩
          have p22 := pw_round hr hl22 hm22
          clear hl22 hm22
          have hb17 : (M.set iz ⟨gz, Tz, EE (lz.set kz r22)⟩)[iz]? = some ⟨gz, Tz, EE (lz.set kz r22)⟩ := get_set hz
          have hb17_gx : (M.set iz ⟨gz, Tz, EE (lz.set kz r22)⟩)[ix]? = some ⟨gx, Tx, EE lx⟩ := get_set_ne hx hne
          refine at_mem (M2 := ⟨g1, 60, EE [r20]⟩ :: ⟨g0, 60, EE [r3]⟩ :: (M.set iz ⟨gz, Tz, EE (lz.set kz r22)⟩)) (by simp) ?_
          refine at_nil ?_
          refine at_inBlock_normal ?_
          refine at_then ?_
          refine at_region ?_
          refine at_d rfl rfl (opr_move rfl rfl) ?_
          refine at_d rfl rfl (opr_addI (a := k) (b := 1) rfl rfl rfl (by omega)) ?_
          refine at_d rfl rfl (opr_assign rfl rfl) ?_
          refine at_nil ?_
          exact at_round2 (k + 1) r22 ⟨by omega, p22⟩ (by omega) (allIn ⟨rfl, rfl, rfl, rfl, rfl, trivial⟩) (List.Sublist.refl _)
        ·
          obtain rfl : k = 53 := by have := of_decide_eq_false ht; omega
          have q3 : Pw a 324518553658426708768757511094272 s3 := hr
          clear hr hk ht
          refine at_exit ?_
          refine at_then_exit ?_
          refine at_then_exit ?_
          refine at_inBlock_same ?_
          refine at_then ?_
          refine at_seq ?_
          refine at_region ?_
          refine at_d rfl rfl (opr_move rfl rfl) ?_
          refine at_d rfl rfl (opr_move rfl rfl) ?_
          refine at_d rfl rfl (opr_move rfl rfl) ?_
          refine at_c rfl rfl (opr_call rfl rfl rfl Tryz.func43 (by kernel_rfl) rfl (Mul_ct (iz := iz + 2) (ix := iz + 2) (iy := 0) (kz := kz) (kx := kz) (ky := 0) hb16 (lset_lt hkz) hoz hb16 (lset hkz) hoz rfl rfl rfl q3.1 p20.1)) ?_
          rintro _ _ ⟨r23, hl23, hm23, rfl, rfl⟩
          have p23 : Pw a 324518553658426726783156020576255 r23 := pw_mul q3 p20 hl23 hm23
          clear hl23 hm23
          have hb18 : (M.set iz ⟨gz, Tz, EE (lz.set kz r23)⟩)[iz]? = some ⟨gz, Tz, EE (lz.set kz r23)⟩ := get_set hz
          have hb18_gx : (M.set iz ⟨gz, Tz, EE (lz.set kz r23)⟩)[ix]? = some ⟨gx, Tx, EE lx⟩ := get_set_ne hx hne
          refine at_mem (M2 := ⟨g1, 60, EE [r20]⟩ :: ⟨g0, 60, EE [r3]⟩ :: (M.set iz ⟨gz, Tz, EE (lz.set kz r23)⟩)) (by simp) ?_
          refine at_nil ?_
          refine at_then ?_
          refine at_seq ?_
          refine at_region ?_
          refine at_d rfl rfl (opr_move rfl rfl) ?_
          refine at_d rfl rfl (opr_move rfl rfl) ?_
          refine at_c rfl rfl (opr_call rfl rfl rfl Tryz.func61 (by kernel_rfl) rfl (Sqr_ct (iz := iz + 2) (ix := iz + 2) (kz := kz) (kx := kz) hb18 (lset_lt hkz) hoz hb18 (lset hkz) hoz p23.1)) ?_
          rintro _ _ ⟨r24, hl24, hm24, rfl, rfl⟩
          have p24 : Pw a 649037107316853453566312041152510 r24 := pw_sqr p23 hl24 hm24
          clear hl24 hm24
          have hb19 : (M.set iz ⟨gz, Tz, EE (lz.set kz r24)⟩)[iz]? = some ⟨gz, Tz, EE (lz.set kz r24)⟩ := get_set hz
          have hb19_gx : (M.set iz ⟨gz, Tz, EE (lz.set kz r24)⟩)[ix]? = some ⟨gx, Tx, EE lx⟩ := get_set_ne hx hne
          refine at_mem (M2 := ⟨g1, 60, EE [r20]⟩ :: ⟨g0, 60, EE [r3]⟩ :: (M.set iz ⟨gz, Tz, EE (lz.set kz r24)⟩)) (by simp) ?_
          refine at_nil ?_
          refine at_then ?_
          refine at_seq ?_
          refine at_region ?_
          refine at_d rfl rfl (opr_move rfl rfl) ?_
          refine at_d rfl rfl (opr_move rfl rfl) ?_
          refine at_c rfl rfl (opr_call rfl rfl rfl Tryz.func61 (by kernel_rfl) rfl (Sqr_ct (iz := iz + 2) (ix := iz + 2) (kz := kz) (kx := kz) hb19 (lset_lt hkz) hoz hb19 (lset hkz) hoz p24.1)) ?_
          rintro _ _ ⟨r25, hl25, hm25, rfl, rfl⟩
          have p25 : Pw a 1298074214633706907132624082305020 r25 := pw_sqr p24 hl25 hm25
          clear hl25 hm25
          have hb20 : (M.set iz ⟨gz, Tz, EE (lz.set kz r25)⟩)[iz]? = some ⟨gz, Tz, EE (lz.set kz r25)⟩ := get_set hz
          have hb20_gx : (M.set iz ⟨gz, Tz, EE (lz.set kz r25)⟩)[ix]? = some ⟨gx, Tx, EE lx⟩ := get_set_ne hx hne
          refine at_mem (M2 := ⟨g1, 60, EE [r20]⟩ :: ⟨g0, 60, EE [r3]⟩ :: (M.set iz ⟨gz, Tz, EE (lz.set kz r25)⟩)) (by simp) ?_
          refine at_nil ?_
          refine at_then ?_
          refine at_seq ?_
          refine at_region ?_
          refine at_d rfl rfl (opr_move rfl rfl) ?_
          refine at_d rfl rfl (opr_move rfl rfl) ?_
          refine at_c rfl rfl (opr_call rfl rfl rfl Tryz.func61 (by kernel_rfl) rfl (Sqr_ct (iz := iz + 2) (ix := iz + 2) (kz := kz) (kx := kz) hb20 (lset_lt hkz) hoz hb20 (lset hkz) hoz p25.1)) ?_
          rintro _ _ ⟨r26, hl26, hm26, rfl, rfl⟩
          have p26 : Pw a 2596148429267413814265248164610040 r26 := pw_sqr p25 hl26 hm26
          clear hl26 hm26
          have hb21 : (M.set iz ⟨gz, Tz, EE (lz.set kz r26)⟩)[iz]? = some ⟨gz, Tz, EE (lz.set kz r26)⟩ := get_set hz
          have hb21_gx : (M.set iz ⟨gz, Tz, EE (lz.set kz r26)⟩)[ix]? = some ⟨gx, Tx, EE lx⟩ := get_set_ne hx hne
          refine at_mem (M2 := ⟨g1, 60, EE [r20]⟩ :: ⟨g0, 60, EE [r3]⟩ :: (M.set iz ⟨gz, Tz, EE (lz.set kz r26)⟩)) (by simp) ?_
          refine at_nil ?_
          refine at_then ?_
          refine at_seq ?_
          refine at_region ?_
          refine at_d rfl rfl (opr_move rfl rfl) ?_
          refine at_d rfl rfl (opr_move rfl rfl) ?_
          refine at_d rfl rfl (opr_move rfl rfl) ?_
          refine at_c rfl rfl (opr_call rfl rfl rfl Tryz.func43 (by kernel_rfl) rfl (Mul_ct (iz := iz + 2) (ix := iz + 2) (iy := 1) (kz := kz) (kx := kz) (ky := 0) hb21 (lset_lt hkz) hoz hb21 (lset hkz) hoz rfl rfl rfl p26.1 p3.1)) ?_
          rintro _ _ ⟨r27, hl27, hm27, rfl, rfl⟩
          have p27 : Pw a 2596148429267413814265248164610047 r27 := pw_mul p26 p3 hl27 hm27
          clear hl27 hm27
          have hb22 : (M.set iz ⟨gz, Tz, EE (lz.set kz r27)⟩)[iz]? = some ⟨gz, Tz, EE (lz.set kz r27)⟩ := get_set hz
          have hb22_gx : (M.set iz ⟨gz, Tz, EE (lz.set kz r27)⟩)[ix]? = some ⟨gx, Tx, EE lx⟩ := get_set_ne hx hne
          refine at_mem (M2 := ⟨g1, 60, EE [r20]⟩ :: ⟨g0, 60, EE [r3]⟩ :: (M.set iz ⟨gz, Tz, EE (lz.set kz r27)⟩)) (by simp) ?_
          refine at_nil ?_
          refine at_then ?_
          refine at_seq ?_
          refine at_region ?_
          refine at_d rfl rfl (opr_move rfl rfl) ?_
          refine at_d rfl rfl (opr_move rfl rfl) ?_
          refine at_c rfl rfl (opr_call rfl rfl rfl Tryz.func61 (by kernel_rfl) rfl (Sqr_ct (iz := 0) (ix := iz + 2) (kz := 0) (kx := kz) rfl (Nat.le_of_ble_eq_true rfl) rfl hb22 (lset hkz) hoz p27.1)) ?_
          rintro _ _ ⟨r28, hl28, hm28, rfl, rfl⟩
          have p28 : Pw a 5192296858534827628530496329220094 r28 := pw_sqr p27 hl28 hm28
          clear hl28 hm28
          refine at_nil ?_
          refine at_then ?_
          refine at_seq ?_
          refine at_seq ?_
          refine at_region ?_
          refine at_d rfl rfl (opr_assign rfl rfl) ?_
          refine at_nil ?_
          refine at_then ?_
          refine at_block ?_
          refine at_loop2 (fun (x : Nat) (y : Nat) => [(0, .pointer (some ⟨gz, oz, none⟩)), (1, .pointer (some ⟨gx, ox, none⟩)), (4, .pointer (some ⟨g0, 0, none⟩)), (5, .pointer (some ⟨g1, 0, none⟩)), (10, .int .i64 (x : Int))]) (fun (x : Nat) (y : Nat) => ⟨g1, 60, EE [y]⟩ :: ⟨g0, 60, EE [r3]⟩ :: (M.set iz ⟨gz, Tz, EE (lz.set kz r27)⟩)) (fun (x : Nat) (y : Nat) => 110 - x) (fun (x : Nat) (y : Nat) => x ≤ 110 ∧ Pw a (2 ^ x * 5192296858534827628530496329220094) y) 0 r28 ⟨Nat.zero_le _, pw_start p28⟩ (allIn ⟨rfl, rfl, rfl, rfl, rfl, trivial⟩) (List.Sublist.refl _) ?_
          rintro k s4 ⟨hk, hr⟩
          dsimp only
          refine at_seq ?_
          refine at_seq ?_
          refine at_region ?_
          refine at_d rfl rfl (opr_move rfl rfl) ?_
          refine at_d rfl rfl (opr_lss (a := k) (b := 110) rfl rfl rfl) ?_
          refine at_nil ?_
          refine at_then ?_
          refine at_cond rfl (fun ht => ?_) (fun ht => ?_)
          ·
            have hlt : k < 110 := of_decide_eq_true ht
            refine at_skip ?_
            refine at_then ?_
            refine at_seq ?_
            refine at_block ?_
            refine at_region ?_
            refine at_d rfl rfl (opr_move rfl rfl) ?_
            refine at_d rfl rfl (opr_move rfl rfl) ?_
            refine at_c rfl rfl (opr_call rfl rfl rfl Tryz.func61 (by kernel_rfl) rfl (Sqr_ct (iz := 0) (ix := 0) (kz := 0) (kx := 0) rfl (Nat.le_of_ble_eq_true rfl) rfl rfl rfl rfl hr.1)) ?_
            rintro _ _ ⟨r29, hl29, hm29, rfl, rfl⟩
            have p29 := pw_round hr hl29 hm29
            clear hl29 hm29
            refine at_nil ?_
            refine at_inBlock_normal ?_
            refine at_then ?_
            refine at_region ?_
            refine at_d rfl rfl (opr_move rfl rfl) ?_
            refine at_d rfl rfl (opr_addI (a := k) (b := 1) rfl rfl rfl (by omega)) ?_
            refine at_d rfl rfl (opr_assign rfl rfl) ?_
            refine at_nil ?_
            exact at_round2 (k + 1) r29 ⟨by omega, p29⟩ (by omega) (allIn ⟨rfl, rfl, rfl, rfl, rfl, trivial⟩) (List.Sublist.refl _)
          ·
            obtain rfl : k = 110 := by have := of_decide_eq_false ht; omega
            have q4 : Pw a 6739986666787659948666753771754905072260856838221328855027737952256 s4 := hr
            clear hr hk ht
            refine at_exit ?_
            refine at_then_exit ?_
            refine at_then_exit ?_
            refine at_inBlock_same ?_
            refine at_then ?_
            refine at_seq ?_
            refine at_region ?_
            refine at_d rfl rfl (opr_move rfl rfl) ?_
            refine at_d rfl rfl (opr_move rfl rfl) ?_
            refine at_d rfl rfl (opr_move rfl rfl) ?_
            refine at_c rfl rfl (opr_call rfl rfl rfl Tryz.func43 (by kernel_rfl) rfl (Mul_ct (iz := 0) (ix := 0) (iy := iz + 2) (kz := 0) (kx := 0) (ky := kz) rfl (Nat.le_of_ble_eq_true rfl) rfl rfl rfl rfl hb22 (lset hkz) hoz q4.1 p27.1)) ?_
            rintro _ _ ⟨r30, hl30, hm30, rfl, rfl⟩
            have p30 : Pw a 6739986666787659948666753771754907668409286105635143120275902562303 r30 := pw_mul q4 p27 hl30 hm30
            clear hl30 hm30
            refine at_nil ?_
            refine at_then ?_
            refine at_seq ?_
            refine at_region ?_
            refine at_d rfl rfl (opr_move rfl rfl) ?_
            refine at_d rfl rfl (opr_move rfl rfl) ?_
            refine at_c rfl rfl (opr_call rfl rfl rfl Tryz.func61 (by kernel_rfl) rfl (Sqr_ct (iz := iz + 2) (ix := 0) (kz := kz) (kx := 0) hb22 (lset_lt hkz) hoz rfl rfl rfl p30.1)) ?_
            rintro _ _ ⟨r31, hl31, hm31, rfl, rfl⟩
            have p31 : Pw a 13479973333575319897333507543509815336818572211270286240551805124606 r31 := pw_sqr p30 hl31 hm31
            clear hl31 hm31
            have hb23 : (M.set iz ⟨gz, Tz, EE (lz.set kz r31)⟩)[iz]? = some ⟨gz, Tz, EE (lz.set kz r31)⟩ := get_set hz
            have hb23_gx : (M.set iz ⟨gz, Tz, EE (lz.set kz r31)⟩)[ix]? = some ⟨gx, Tx, EE lx⟩ := get_set_ne hx hne
            refine at_mem (M2 := ⟨g1, 60, EE [r30]⟩ :: ⟨g0, 60, EE [r3]⟩ :: (M.set iz ⟨gz, Tz, EE (lz.set kz r31)⟩)) (by simp) ?_
            refine at_nil ?_
            refine at_then ?_
            refine at_seq ?_
            refine at_region ?_
            refine at_d rfl rfl (opr_move rfl rfl) ?_
            refine at_d rfl rfl (opr_move rfl rfl) ?_
            refine at_d rfl rfl (opr_move rfl rfl) ?_
            refine at_c rfl rfl (opr_call rfl rfl rfl Tryz.func43 (by kernel_rfl) rfl (Mul_ct (iz := iz + 2) (ix := iz + 2) (iy := ix + 2) (kz := kz) (kx := kz) (ky := kx) hb23 (lset_lt hkz) hoz hb23 (lset hkz) hoz hb23_gx hkx hox p31.1 ha)) ?_
            rintro _ _ ⟨r32, hl32, hm32, rfl, rfl⟩
            have p32 : Pw a 13479973333575319897333507543509815336818572211270286240551805124607 r32 := pw_mul p31 (pw_one ha) hl32 hm32
            clear hl32 hm32
            have hb24 : (M.set iz ⟨gz, Tz, EE (lz.set kz r32)⟩)[iz]? = some ⟨gz, Tz, EE (lz.set kz r32)⟩ := get_set hz
            have hb24_gx : (M.set iz ⟨gz, Tz, EE (lz.set kz r32)⟩)[ix]? = some ⟨gx, Tx, EE lx⟩ := get_set_ne hx hne
            refine at_mem (M2 := ⟨g1, 60, EE [r30]⟩ :: ⟨g0, 60, EE [r3]⟩ :: (M.set iz ⟨gz, Tz, EE (lz.set kz r32)⟩)) (by simp) ?_
            refine at_nil ?_
            refine at_then ?_
            refine at_seq ?_
            refine at_seq ?_
            refine at_region ?_
            refine at_d rfl rfl (opr_assign rfl rfl) ?_
            refine at_nil ?_
            refine at_then ?_
            refine at_block ?_
            refine at_loop2 (fun (x : Nat) (y : Nat) => [(0, .pointer (some ⟨gz, oz, none⟩)), (1, .pointer (some ⟨gx, ox, none⟩)), (4, .pointer (some ⟨g0, 0, none⟩)), (5, .pointer (some ⟨g1, 0, none⟩)), (11, .int .i64 (x : Int))]) (fun (x : Nat) (y : Nat) => ⟨g1, 60, EE [r30]⟩ :: ⟨g0, 60, EE [r3]⟩ :: (M.set iz ⟨gz, Tz, EE (lz.set kz y)⟩)) (fun (x : Nat) (y : Nat) => 223 - x) (fun (x : Nat) (y : Nat) => x ≤ 223 ∧ Pw a (2 ^ x * 13479973333575319897333507543509815336818572211270286240551805124607) y) 0 r32 ⟨Nat.zero_le _, pw_start p32⟩ (allIn ⟨rfl, rfl, rfl, rfl, rfl, trivial⟩) (List.Sublist.refl _) ?_
            rintro k s5 ⟨hk, hr⟩
            dsimp only
            have hb25 : (M.set iz ⟨gz, Tz, EE (lz.set kz s5)⟩)[iz]? = some ⟨gz, Tz, EE (lz.set kz s5)⟩ := get_set hz
            have hb25_gx : (M.set iz ⟨gz, Tz, EE (lz.set kz s5)⟩)[ix]? = some ⟨gx, Tx, EE lx⟩ := get_set_ne hx hne
            refine at_seq ?_
            refine at_seq ?_
            refine at_region ?_
            refine at_d rfl rfl (opr_move rfl rfl) ?_
            refine at_d rfl rfl (opr_lss (a := k) (b := 223) rfl rfl rfl) ?_
            refine at_nil ?_
            refine at_then ?_
            refine at_cond rfl (fun ht => ?_) (fun ht => ?_)
            ·
              have hlt : k < 223 := of_decide_eq_true ht
              refine at_skip ?_
              refine at_then ?_
              refine at_seq ?_
              refine at_block ?_
              refine at_region ?_
              refine at_d rfl rfl (opr_move rfl rfl) ?_
              refine at_d rfl rfl (opr_move rfl rfl) ?_
              refine at_c rfl rfl (opr_call rfl rfl rfl Tryz.func61 (by kernel_rfl) rfl (Sqr_ct (iz := iz + 2) (ix := iz + 2) (kz := kz) (kx := kz) hb25 (lset_lt hkz) hoz hb25 (lset hkz) hoz hr.1)) ?_
              rintro _ _ ⟨r33, hl33, hm33, rfl, rfl⟩
              have p33 := pw_round hr hl33 hm33
              clear hl33 hm33
              have hb26 : (M.set iz ⟨gz, Tz, EE (lz.set kz r33)⟩)[iz]? = some ⟨gz, Tz, EE (lz.set kz r33)⟩ := get_set hz
              have hb26_gx : (M.set iz ⟨gz, Tz, EE (lz.set kz r33)⟩)[ix]? = some ⟨gx, Tx, EE lx⟩ := get_set_ne hx hne
              refine at_mem (M2 := ⟨g1, 60, EE [r30]⟩ :: ⟨g0, 60, EE [r3]⟩ :: (M.set iz ⟨gz, Tz, EE (lz.set kz r33)⟩)) (by simp) ?_
              refine at_nil ?_
              refine at_inBlock_normal ?_
              refine at_then ?_
              refine at_region ?_
              refine at_d rfl rfl (opr_move rfl rfl) ?_
              refine at_d rfl rfl (opr_addI (a := k) (b := 1) rfl rfl rfl (by omega)) ?_
              refine at_d rfl rfl (opr_assign rfl rfl) ?_
              refine at_nil ?_
              exact at_round2 (k + 1) r33 ⟨by omega, p33⟩ (by omega) (allIn ⟨rfl, rfl, rfl, rfl, rfl, trivial⟩) (List.Sublist.refl _)
            ·
              obtain rfl : k = 223 := by have := of_decide_eq_false ht; omega
              have q5 : Pw a 181709681073901722637330951972001133588410340171829515070372549795146342055015905511650429170897381574853811829355274197143098602029056 s5 := hr
              clear hr hk ht
              refine at_exit ?_
              refine at_then_exit ?_
              refine at_then_exit ?_
              refine at_inBlock_same ?_
              refine at_then ?_
              refine at_region ?_
              refine at_d rfl rfl (opr_move rfl rfl) ?_
              refine at_d rfl rfl (opr_move rfl rfl) ?_
              refine at_d rfl rfl (opr_move rfl rfl) ?_
              refine at_c rfl rfl (opr_call rfl rfl rfl Tryz.func43 (by kernel_rfl) rfl (Mul_ct (iz := iz + 2) (ix := iz + 2) (iy := 0) (kz := kz) (kx := kz) (ky := 0) hb25 (lset_lt hkz) hoz hb25 (lset hkz) hoz rfl rfl rfl q5.1 p30.1)) ?_
              rintro _ _ ⟨r34, hl34, hm34, rfl, rfl⟩
              have p34 : Pw a 181709681073901722637330951972001133588410340171829515070372549795153082041682693171599095924669136482522221115460909340263374504591359 r34 := pw_mul q5 p30 hl34 hm34
              clear hl34 hm34
              have hb27 : (M.set iz ⟨gz, Tz, EE (lz.set kz r34)⟩)[iz]? = some ⟨gz, Tz, EE (lz.set kz r34)⟩ := get_set hz
              have hb27_gx : (M.set iz ⟨gz, Tz, EE (lz.set kz r34)⟩)[ix]? = some ⟨gx, Tx, EE lx⟩ := get_set_ne hx hne
              refine at_mem (M2 := ⟨g1, 60, EE [r30]⟩ :: ⟨g0, 60, EE [r3]⟩ :: (M.set iz ⟨gz, Tz, EE (lz.set kz r34)⟩)) (by simp) ?_
              refine at_nil ?_
              exact done_of (res0 Tryz.results66) ⟨r34, p34, rfl, rfl⟩ (by repeat (first | exact List.Sublist.refl _ | apply List.Sublist.cons))
def InvR (M : Mem) (iz gz Tz kz a : Nat) (lz : List Nat) : Value → Mem → Prop := fun v M' => ∃ r, r < RR ∧ r % pp = invp a ∧ v = .tuple #[] ∧ M' = M.set iz ⟨gz, Tz, EE (lz.set kz r)⟩
theorem Inv_ct {M : Mem} {iz ix gz gx Tz Tx kz kx oz ox a : Nat} {lz lx : List Nat} (hz : M[iz]? = some ⟨gz, Tz, EE lz⟩) (hkz : kz < lz.length) (hoz : 56 * kz = oz) (hx : M[ix]? = some ⟨gx, Tx, EE lx⟩) (hkx : lx[kx]? = some a) (hox : 56 * kx = ox) (ha : a < RR) : Ct Tryz.prog 42 #[.pointer (some ⟨gz, oz, none⟩), .pointer (some ⟨gx, ox, none⟩)] M (InvR M iz gz Tz kz a lz) := by
  refine ct_of (vs := [.pointer (some ⟨gz, oz, none⟩), .pointer (some ⟨gx, ox, none⟩)]) Tryz.func42 rfl Tryz.ntmps42 rfl fun w0 => ?_
  refine at_seq ?_
  refine at_region ?_
  refine at_d rfl rfl (opr_buildE rfl rfl built_zero E_zero0) ?_
  refine at_n rfl rfl (opr_box (cs := EE [0]) rfl rfl (E_box _)) ?_
  intro g0
  refine at_d rfl rfl (opr_assign rfl rfl) ?_
  refine at_nil ?_
  refine at_then ?_
  refine at_seq ?_
  refine at_region ?_
  refine at_d rfl rfl (opr_move rfl rfl) ?_
  refine at_d rfl rfl (opr_move rfl rfl) ?_
  refine at_c rfl rfl (opr_call rfl rfl rfl Tryz.func66 (by kernel_rfl) rfl (pow_ct (iz := 0) (ix := ix + 1) (kz := 0) (kx := kx) rfl (Nat.le_of_ble_eq_true rfl) rfl hx hkx hox (Nat.succ_ne_zero _).symm ha)) ?_
  rintro _ _ ⟨r0, p0, rfl, rfl⟩
  refine at_nil ?_
  refine at_then ?_
  refine at_seq ?_
  refine at_region ?_
  refine at_d rfl rfl (opr_move rfl rfl) ?_
  refine at_d rfl rfl (opr_move rfl rfl) ?_
  refine at_c rfl rfl (opr_call rfl rfl rfl Tryz.func61 (by kernel_rfl) rfl (Sqr_ct (iz := 0) (ix := 0) (kz := 0) (kx := 0) rfl (Nat.le_of_ble_eq_true rfl) rfl rfl rfl rfl p0.1)) ?_
  rintro _ _ ⟨r1, hl1, hm1, rfl, rfl⟩
  have p1 : Pw a 363419362147803445274661903944002267176820680343659030140745099590306164083365386343198191849338272965044442230921818680526749009182718 r1 := pw_sqr p0 hl1 hm1
  clear hl1 hm1
  refine at_nil ?_
  refine at_then ?_
  refine at_seq ?_
  refine at_region ?_
  refine at_d rfl rfl (opr_move rfl rfl) ?_
  refine at_d rfl rfl (opr_move rfl rfl) ?_
  refine at_c rfl rfl (opr_call rfl rfl rfl Tryz.func61 (by kernel_rfl) rfl (Sqr_ct (iz := 0) (ix := 0) (kz := 0) (kx := 0) rfl (Nat.le_of_ble_eq_true rfl) rfl rfl rfl rfl p1.1)) ?_
  rintro _ _ ⟨r2, hl2, hm2, rfl, rfl⟩
  have p2 : Pw a 726838724295606890549323807888004534353641360687318060281490199180612328166730772686396383698676545930088884461843637361053498018365436 r2 := pw_sqr p1 hl2 hm2
  clear hl2 hm2
  refine at_nil ?_
  refine at_then ?_
  refine at_region ?_
  refine at_d rfl rfl (opr_move rfl rfl) ?_
  refine at_d rfl rfl (opr_move rfl rfl) ?_
  refine at_d rfl rfl (opr_move rfl rfl) ?_
  refine at_c rfl rfl (opr_call rfl rfl rfl Tryz.func43 (by kernel_rfl) rfl (Mul_ct (iz := iz + 1) (ix := 0) (iy := ix + 1) (kz := kz) (kx := 0) (ky := kx) hz hkz hoz rfl rfl rfl hx hkx hox p2.1 ha)) ?_
  rintro _ _ ⟨r3, hl3, hm3, rfl, rfl⟩
  have p3 : Pw a 726838724295606890549323807888004534353641360687318060281490199180612328166730772686396383698676545930088884461843637361053498018365437 r3 := pw_mul p2 (pw_one ha) hl3 hm3
  clear hl3 hm3
  have hb1 : (M.set iz ⟨gz, Tz, EE (lz.set kz r3)⟩)[iz]? = some ⟨gz, Tz, EE (lz.set kz r3)⟩ := get_set hz
  refine at_mem (M2 := ⟨g0, 60, EE [r2]⟩ :: (M.set iz ⟨gz, Tz, EE (lz.set kz r3)⟩)) (by simp) ?_
  refine at_nil ?_
  exact done_of (res0 Tryz.results42) ⟨r3, p3.1, invp_of p3 (by decide +kernel), rfl, rfl⟩ (by repeat (first | exact List.Sublist.refl _ | apply List.Sublist.cons))
end Go.Proofs.YtjlhhcdefcofkaaGreatDoor
