/- Times 39082. -/
import Derived.Test.YtkjfongekklabaaDoorLaws4
namespace Go.Proofs.YtkjfongekklabaaDoor
open Go
set_option maxRecDepth 100000

theorem q8 (j : Nat) : (256 : Nat) ^ (8 * j) = 18446744073709551616 ^ j := by rw [show (18446744073709551616 : Nat) = 256 ^ 8 from rfl, ← Nat.pow_mul]
theorem fill_step {a k : Nat} (hk : k < 7) : (digs 18446744073709551616 7 (a % 18446744073709551616 ^ k)).set k (a / 256 ^ (8 * k) % 18446744073709551616) = digs 18446744073709551616 7 (a % 18446744073709551616 ^ (k + 1)) := by
  rw [digs_put 7 k _ _ hk (Nat.mod_lt _ (Nat.pow_pos (by decide))) (Nat.mod_lt _ (by decide)), q8, Nat.pow_succ, Nat.mod_mul]
theorem fill_zero (a : Nat) : W (digs 18446744073709551616 7 (a % 18446744073709551616 ^ 0)) = W (List.replicate 7 0) := by
  rw [Nat.pow_zero, Nat.mod_one, digs_zero7]; rfl
theorem fill_get (a j : Nat) (hj : j < 7) : (digs 18446744073709551616 7 (a % 18446744073709551616 ^ 7))[j]? = some (a / 256 ^ (8 * j) % 18446744073709551616) := by
  rw [digs_mod, digs_get 7 a j hj, q8]
theorem set7 {l : List Nat} {a b c d e f g : Nat} (h : l.length = 7) : ((((((l.set 0 a).set 1 b).set 2 c).set 3 d).set 4 e).set 5 f).set 6 g = [a, b, c, d, e, f, g] := by
  match l, h with
  | [_, _, _, _, _, _, _], _ => rfl
theorem seven_digs {a b c d e f g r : Nat} (hr : r = dval 18446744073709551616 [a, b, c, d, e, f, g]) (ha : a < 18446744073709551616) (hb : b < 18446744073709551616) (hc : c < 18446744073709551616) (hd : d < 18446744073709551616) (he : e < 18446744073709551616) (hf : f < 18446744073709551616) (hg : g < 18446744073709551616) : [a, b, c, d, e, f, g] = digs 18446744073709551616 7 r := by
  have := digs_dval (b := 18446744073709551616) [a, b, c, d, e, f, g] (by
    intro x hx
    simp only [List.mem_cons, List.not_mem_nil, or_false] at hx
    rcases hx with rfl | rfl | rfl | rfl | rfl | rfl | rfl <;> assumption)
  rw [hr]; exact this.symm
theorem put_next {cs : List Value} {o r k : Nat} (hl : o + 56 ≤ cs.length) (hk : k < 7) : splice (putTo cs o r (8 * k)) (o + k * 8) (B8 (r / 18446744073709551616 ^ k % 18446744073709551616)) = putTo cs o r (8 * (k + 1)) := by
  have h8 : 8 * (k + 1) = 8 * k + 8 := by omega
  have s1 := splice_splice (cs := cs) (u := (digs 256 (8 * k) r).map u8V) (v := B8 (r / 18446744073709551616 ^ k % 18446744073709551616)) (a := o) (by simp [digs_length]; omega)
  simp only [List.length_map, digs_length] at s1
  rw [Nat.mul_comm k 8, putTo, s1, putTo, h8, digs_add, List.map_append, B8_mod, B8, q8]
theorem put_all {l : List Nat} {k o r : Nat} (hk : k < l.length) (ho : 56 * k = o) : putTo (EE l) o r (8 * 7) = EE (l.set k r) := by
  rw [putTo]; exact EE_set hk ho
theorem putTo_len {cs : List Value} {o r k : Nat} (hl : o + 56 ≤ cs.length) (hk : k ≤ 7) : (putTo cs o r (8 * k)).length = cs.length := by
  rw [putTo, splice_length (by simp [digs_length]; omega)]
theorem set_same {M : Mem} {i : Nat} {b : Blk} (h : M[i]? = some b) : M.set i b = M := by
  obtain ⟨h1, h2⟩ := List.getElem?_eq_some_iff.1 h
  rw [← h2, List.set_getElem_self]
theorem foldA_words {c : Nat} (hc : c < 4294967296) : dval 18446744073709551616 [c, 0, 0, c * 2 ^ 32 % 18446744073709551616, 0, 0, 0] = c + 26959946667150639794667015087019630673637144422540572481103610249216 * c := by
  simp only [dval]
  omega
theorem shiftA {l s0 s1 s2 s3 s4 s5 s6 : Nat} : l + 18446744073709551616 * dval 18446744073709551616 [s0, s1, s2, s3, s4, s5, s6] = dval 18446744073709551616 [l, s0, s1, s2, s3, s4, s5] + RR * s6 := by
  simp only [dval, RR]
  omega
theorem a24_top {L s6 p a : Nat} (h : L + RR * s6 = a * 39082) (ha : a < RR) : s6 < 39082 := by
  have : RR * s6 < RR * 39082 := by
    have : a * 39082 < RR * 39082 := Nat.mul_lt_mul_of_pos_right ha (by decide)
    omega
  exact Nat.lt_of_mul_lt_mul_left this
theorem a24_fold {a L s6 z2 c2 r c3 : Nat} (hL : L < RR) (hz : z2 < RR) (hr : r < RR) (h : L + RR * s6 = a * 39082) (hs : s6 < 39082) (hc2 : c2 ≤ 1) (hc3 : c3 ≤ 1)
    (f2 : z2 + RR * c2 = L + (s6 + 26959946667150639794667015087019630673637144422540572481103610249216 * s6)) (f3 : r + RR * c3 = z2 + (c2 + 26959946667150639794667015087019630673637144422540572481103610249216 * c2)) : r % pp = a * 39082 % pp := by
  have hc30 : c3 = 0 := by
    clear h
    have h2 : c2 = 0 ∨ c2 = 1 := by omega
    have h3 : c3 = 0 ∨ c3 = 1 := by omega
    rcases h3 with h3 | h3
    · exact h3
    · subst h3
      unfold RR at *
      rcases h2 with rfl | rfl <;> omega
  subst hc30
  have key : a * 39082 = r + pp * (c2 + s6) := by
    rw [← h]
    unfold RR pp at *
    omega
  rw [key, Nat.add_mul_mod_self_left]
theorem a24_end {a r s0 s1 s2 s3 s4 s5 s6 s7 s8 s9 s10 s11 s12 s13 s14 s15 s16 s17 s18 s19 s20 k0 k1 k2 k3 k4 k5 k6 k7 k8 k9 k10 k11 k12 k13 k14 k15 k16 k17 k18 k19 k20 w0 w1 w2 w3 w4 w5 w6 h0 h1 h2 h3 h4 h5 h6 : Nat} (ha : a < RR) (e0 : s0 + 18446744073709551616 * k0 = h0 + w1 + 0) (e1 : s1 + 18446744073709551616 * k1 = h1 + w2 + k0) (e2 : s2 + 18446744073709551616 * k2 = h2 + w3 + k1) (e3 : s3 + 18446744073709551616 * k3 = h3 + w4 + k2) (e4 : s4 + 18446744073709551616 * k4 = h4 + w5 + k3) (e5 : s5 + 18446744073709551616 * k5 = h5 + w6 + k4) (e6 : s6 + 18446744073709551616 * k6 = h6 + 0 + k5) (e7 : s7 + 18446744073709551616 * k7 = w0 + s6 + 0) (e8 : s8 + 18446744073709551616 * k8 = s0 + 0 + k7) (e9 : s9 + 18446744073709551616 * k9 = s1 + 0 + k8) (e10 : s10 + 18446744073709551616 * k10 = s2 + s6 * 2 ^ 32 % 18446744073709551616 + k9) (e11 : s11 + 18446744073709551616 * k11 = s3 + 0 + k10) (e12 : s12 + 18446744073709551616 * k12 = s4 + 0 + k11) (e13 : s13 + 18446744073709551616 * k13 = s5 + 0 + k12) (e14 : s14 + 18446744073709551616 * k14 = s7 + k13 + 0) (e15 : s15 + 18446744073709551616 * k15 = s8 + 0 + k14) (e16 : s16 + 18446744073709551616 * k16 = s9 + 0 + k15) (e17 : s17 + 18446744073709551616 * k17 = s10 + k13 * 2 ^ 32 % 18446744073709551616 + k16) (e18 : s18 + 18446744073709551616 * k18 = s11 + 0 + k17) (e19 : s19 + 18446744073709551616 * k19 = s12 + 0 + k18) (e20 : s20 + 18446744073709551616 * k20 = s13 + 0 + k19) (q0 : w0 + 18446744073709551616 * h0 = a / 256 ^ (8 * 0) % 18446744073709551616 * 39082) (q1 : w1 + 18446744073709551616 * h1 = a / 256 ^ (8 * 1) % 18446744073709551616 * 39082) (q2 : w2 + 18446744073709551616 * h2 = a / 256 ^ (8 * 2) % 18446744073709551616 * 39082) (q3 : w3 + 18446744073709551616 * h3 = a / 256 ^ (8 * 3) % 18446744073709551616 * 39082) (q4 : w4 + 18446744073709551616 * h4 = a / 256 ^ (8 * 4) % 18446744073709551616 * 39082) (q5 : w5 + 18446744073709551616 * h5 = a / 256 ^ (8 * 5) % 18446744073709551616 * 39082) (q6 : w6 + 18446744073709551616 * h6 = a / 256 ^ (8 * 6) % 18446744073709551616 * 39082) (m6 : k6 ≤ 1) (m13 : k13 ≤ 1) (m20 : k20 ≤ 1) (wl0 : w0 < 18446744073709551616) (l0 : s0 < 18446744073709551616) (l1 : s1 < 18446744073709551616) (l2 : s2 < 18446744073709551616) (l3 : s3 < 18446744073709551616) (l4 : s4 < 18446744073709551616) (l5 : s5 < 18446744073709551616) (l6 : s6 < 18446744073709551616) (l7 : s7 < 18446744073709551616) (l8 : s8 < 18446744073709551616) (l9 : s9 < 18446744073709551616) (l10 : s10 < 18446744073709551616) (l11 : s11 < 18446744073709551616) (l12 : s12 < 18446744073709551616) (l13 : s13 < 18446744073709551616) (l14 : s14 < 18446744073709551616) (l15 : s15 < 18446744073709551616) (l16 : s16 < 18446744073709551616) (l17 : s17 < 18446744073709551616) (l18 : s18 < 18446744073709551616) (l19 : s19 < 18446744073709551616) (l20 : s20 < 18446744073709551616) (hr : r = dval 18446744073709551616 [s14, s15, s16, s17, s18, s19, s20]) : r % pp = a * 39082 % pp := by
  have f1 := add_chain e0 e1 e2 e3 e4 e5 e6
  have f2 := add_chain e7 e8 e9 e10 e11 e12 e13
  have f3 := add_chain e14 e15 e16 e17 e18 e19 e20
  have r1 := mul_row q0 q1 q2 q3 q4 q5 q6
  rw [words7 ha, tail7] at r1
  have fr := first_row (by decide) ha f1 r1
  have hs := fr.2
  rw [shiftA] at hs
  have ht := a24_top (p := 0) hs ha
  rw [foldA_words (Nat.lt_trans ht (by decide))] at f2
  rw [fold_words m13] at f3
  rw [← hr] at f3
  exact a24_fold (dval7_lt wl0 l0 l1 l2 l3 l4 l5) (dval7_lt l7 l8 l9 l10 l11 l12 l13) (by rw [hr]; exact dval7_lt l14 l15 l16 l17 l18 l19 l20) hs ht m13 m20 f2 f3
theorem at_memA {C : Ctx} {St : Slots} {M1 M2 : Mem} {F : Act → World → Prop} (h : M1 = M2) (k : At C St M2 F) : At C St M1 F := h ▸ k
theorem mulA24Generic_ct {M : Mem} {iz ix gz gx Tz Tx kz kx oz ox a : Nat} {lz lx : List Nat} (hz : M[iz]? = some ⟨gz, Tz, EE lz⟩) (hkz : kz < lz.length) (hoz : 56 * kz = oz) (hx : M[ix]? = some ⟨gx, Tx, EE lx⟩) (hkx : lx[kx]? = some a) (hox : 56 * kx = ox) (ha : a < RR) : Ct Tryd.prog 68 #[.pointer (some ⟨gz, oz, none⟩), .pointer (some ⟨gx, ox, none⟩)] M (fun v M' => ∃ r, r < RR ∧ r % pp = a * 39082 % pp ∧ v = .tuple #[] ∧ M' = M.set iz ⟨gz, Tz, EE (lz.set kz r)⟩) := by
  have hle : oz + 56 ≤ (EE lz).length := by rw [EE_length]; omega
  refine ct_of (vs := [.pointer (some ⟨gz, oz, none⟩), .pointer (some ⟨gx, ox, none⟩)]) Tryd.func68 rfl Tryd.ntmps68 rfl fun w0 => ?_
  refine at_seq ?_
  refine at_region ?_
  refine at_n rfl rfl (opr_alloc rfl zero85 rfl) ?_
  intro g0
  refine at_nil ?_
  refine at_then ?_
  refine at_seq ?_
  refine at_seq ?_
  refine at_region ?_
  refine at_d rfl rfl (opr_move rfl rfl) ?_
  refine at_nil ?_
  refine at_then ?_
  refine at_block ?_
  refine at_loop (fun (x : Nat) => [(0, .pointer (some ⟨gz, oz, none⟩)), (1, .pointer (some ⟨gx, ox, none⟩)), (4, .pointer (some ⟨g0, 0, none⟩)), (29, .int .i64 (x : Int))]) (fun (x : Nat) => ⟨g0, 85, W (digs 18446744073709551616 7 (a % 18446744073709551616 ^ x))⟩ :: M) (fun (x : Nat) => 7 - x) (fun (x : Nat) => x ≤ 7) 0 (Nat.zero_le _) (allIn ⟨rfl, rfl, rfl, rfl, trivial⟩) (by simp only [fill_zero]; exact List.Sublist.refl _) ?_
  intro k hk
  dsimp only
  refine at_seq ?_
  refine at_region ?_
  refine at_d rfl rfl (opr_lss (a := k) (b := 7) rfl rfl rfl) ?_
  refine at_nil ?_
  refine at_then ?_
  refine at_seq ?_
  refine at_cond rfl (fun ht => ?_) (fun ht => ?_)
  ·
    have hlt : k < 7 := of_decide_eq_true ht
    refine at_skip ?_
    refine at_then ?_
    refine at_seq ?_
    refine at_block ?_
    refine at_seq ?_
    refine at_region ?_
    refine at_d rfl rfl (opr_move rfl rfl) ?_
    refine at_d rfl rfl (opr_assign rfl rfl) ?_
    refine at_nil ?_
    refine at_then ?_
    refine at_draw (by kernel_rfl) (by kernel_rfl) (by kernel_rfl) (List.cons_ne_nil _ _) ?_
    refine dr_op rfl rfl (opr_move rfl rfl) ?_
    refine dr_op rfl rfl (opr_load0 rfl rfl Tryd.underlying83 rfl size83) ?_
    refine dr_op rfl rfl (opr_move rfl rfl) ?_
    refine dr_op rfl rfl (opr_nilCheck rfl rfl) ?_
    refine dr_op rfl rfl (opr_move rfl rfl) ?_
    refine dr_op rfl rfl (opr_mulI (a := k) (b := 8) rfl rfl rfl (by omega)) ?_
    refine dr_op rfl rfl (opr_move rfl rfl) ?_
    refine dr_op rfl rfl (opr_addI (a := k) (b := 1) rfl rfl rfl (by omega)) ?_
    refine dr_op rfl rfl (opr_mulI (a := k + 1) (b := 8) rfl rfl rfl (by omega)) ?_
    refine dr_op rfl rfl (opr_slice (a := k * 8) (b := (k + 1) * 8) (off' := ox + k * 8) rfl rfl rfl rfl Tryd.underlying47 (by omega) (by omega) (by omega) size5 rfl) ?_
    refine dr_op rfl rfl (opr_call rfl rfl rfl Tryd.func74 (by kernel_rfl) rfl (uint64_ct (i := ix + 1) (x := a / 256 ^ (8 * k)) hx (EE_word hkx (i := k) hlt (by omega)) (by omega))) ?_
    refine dr_op rfl rfl (opr_indexAddr (j := k) (off' := k) rfl rfl rfl Tryd.underlying85 hlt size23 (by omega)) ?_
    refine dr_last rfl rfl (opr_store (i := 0) rfl rfl rfl rfl rfl size23 rfl (by rw [W_length, digs_length]; omega) flat_one (W_put (by rw [digs_length]; omega) (fill_step hlt))) ?_
    refine at_inBlock_normal ?_
    refine at_then ?_
    refine at_region ?_
    refine at_d rfl rfl (opr_addI (a := k) (b := 1) rfl rfl rfl (by omega)) ?_
    refine at_d rfl rfl (opr_move rfl rfl) ?_
    refine at_nil ?_
    exact at_round (k + 1) (by omega) (by omega) (allIn ⟨rfl, rfl, rfl, rfl, trivial⟩) (List.Sublist.refl _)
  ·
    obtain rfl : k = 7 := by have := of_decide_eq_false ht; omega
    refine at_exit ?_
    refine at_then_exit ?_
    refine at_then_exit ?_
    refine at_inBlock_same ?_
    refine at_then ?_
    refine at_seq ?_
    refine at_region ?_
    refine at_d rfl rfl (opr_indexAddr (j := 0) rfl rfl rfl Tryd.underlying85 (by decide) size23 rfl) ?_
    refine at_d rfl rfl (opr_load1 (i := 0) rfl rfl rfl Tryd.underlying23 rfl (W_get (fill_get a 0 (by decide)))) ?_
    refine at_c rfl rfl (opr_call rfl rfl rfl Tryd.func75 (by kernel_rfl) rfl (mul64_ct (Nat.mod_lt _ (by decide)) (by decide))) ?_
    rintro _ _ ⟨h0, w0, rfl, q0, wl0, hl0, rfl⟩
    refine at_d rfl rfl (opr_move rfl rfl) ?_
    refine at_d rfl rfl (opr_extract rfl rfl rfl) ?_
    refine at_d rfl rfl (opr_extract rfl rfl rfl) ?_
    refine at_d rfl rfl (opr_assign rfl rfl) ?_
    refine at_d rfl rfl (opr_assign rfl rfl) ?_
    refine at_nil ?_
    refine at_then ?_
    refine at_seq ?_
    refine at_region ?_
    refine at_d rfl rfl (opr_indexAddr (j := 1) rfl rfl rfl Tryd.underlying85 (by decide) size23 rfl) ?_
    refine at_d rfl rfl (opr_load1 (i := 0) rfl rfl rfl Tryd.underlying23 rfl (W_get (fill_get a 1 (by decide)))) ?_
    refine at_c rfl rfl (opr_call rfl rfl rfl Tryd.func75 (by kernel_rfl) rfl (mul64_ct (Nat.mod_lt _ (by decide)) (by decide))) ?_
    rintro _ _ ⟨h1, w1, rfl, q1, wl1, hl1, rfl⟩
    refine at_d rfl rfl (opr_move rfl rfl) ?_
    refine at_d rfl rfl (opr_extract rfl rfl rfl) ?_
    refine at_d rfl rfl (opr_extract rfl rfl rfl) ?_
    refine at_d rfl rfl (opr_assign rfl rfl) ?_
    refine at_d rfl rfl (opr_assign rfl rfl) ?_
    refine at_nil ?_
    refine at_then ?_
    refine at_seq ?_
    refine at_region ?_
    refine at_d rfl rfl (opr_indexAddr (j := 2) rfl rfl rfl Tryd.underlying85 (by decide) size23 rfl) ?_
    refine at_d rfl rfl (opr_load1 (i := 0) rfl rfl rfl Tryd.underlying23 rfl (W_get (fill_get a 2 (by decide)))) ?_
    refine at_c rfl rfl (opr_call rfl rfl rfl Tryd.func75 (by kernel_rfl) rfl (mul64_ct (Nat.mod_lt _ (by decide)) (by decide))) ?_
    rintro _ _ ⟨h2, w2, rfl, q2, wl2, hl2, rfl⟩
    refine at_d rfl rfl (opr_move rfl rfl) ?_
    refine at_d rfl rfl (opr_extract rfl rfl rfl) ?_
    refine at_d rfl rfl (opr_extract rfl rfl rfl) ?_
    refine at_d rfl rfl (opr_assign rfl rfl) ?_
    refine at_d rfl rfl (opr_assign rfl rfl) ?_
    refine at_nil ?_
    refine at_then ?_
    refine at_seq ?_
    refine at_region ?_
    refine at_d rfl rfl (opr_indexAddr (j := 3) rfl rfl rfl Tryd.underlying85 (by decide) size23 rfl) ?_
    refine at_d rfl rfl (opr_load1 (i := 0) rfl rfl rfl Tryd.underlying23 rfl (W_get (fill_get a 3 (by decide)))) ?_
    refine at_c rfl rfl (opr_call rfl rfl rfl Tryd.func75 (by kernel_rfl) rfl (mul64_ct (Nat.mod_lt _ (by decide)) (by decide))) ?_
    rintro _ _ ⟨h3, w3, rfl, q3, wl3, hl3, rfl⟩
    refine at_d rfl rfl (opr_move rfl rfl) ?_
    refine at_d rfl rfl (opr_extract rfl rfl rfl) ?_
    refine at_d rfl rfl (opr_extract rfl rfl rfl) ?_
    refine at_d rfl rfl (opr_assign rfl rfl) ?_
    refine at_d rfl rfl (opr_assign rfl rfl) ?_
    refine at_nil ?_
    refine at_then ?_
    refine at_seq ?_
    refine at_region ?_
    refine at_d rfl rfl (opr_indexAddr (j := 4) rfl rfl rfl Tryd.underlying85 (by decide) size23 rfl) ?_
    refine at_d rfl rfl (opr_load1 (i := 0) rfl rfl rfl Tryd.underlying23 rfl (W_get (fill_get a 4 (by decide)))) ?_
    refine at_c rfl rfl (opr_call rfl rfl rfl Tryd.func75 (by kernel_rfl) rfl (mul64_ct (Nat.mod_lt _ (by decide)) (by decide))) ?_
    rintro _ _ ⟨h4, w4, rfl, q4, wl4, hl4, rfl⟩
    refine at_d rfl rfl (opr_move rfl rfl) ?_
    refine at_d rfl rfl (opr_extract rfl rfl rfl) ?_
    refine at_d rfl rfl (opr_extract rfl rfl rfl) ?_
    refine at_d rfl rfl (opr_assign rfl rfl) ?_
    refine at_d rfl rfl (opr_assign rfl rfl) ?_
    refine at_nil ?_
    refine at_then ?_
    refine at_seq ?_
    refine at_region ?_
    refine at_d rfl rfl (opr_indexAddr (j := 5) rfl rfl rfl Tryd.underlying85 (by decide) size23 rfl) ?_
    refine at_d rfl rfl (opr_load1 (i := 0) rfl rfl rfl Tryd.underlying23 rfl (W_get (fill_get a 5 (by decide)))) ?_
    refine at_c rfl rfl (opr_call rfl rfl rfl Tryd.func75 (by kernel_rfl) rfl (mul64_ct (Nat.mod_lt _ (by decide)) (by decide))) ?_
    rintro _ _ ⟨h5, w5, rfl, q5, wl5, hl5, rfl⟩
    refine at_d rfl rfl (opr_move rfl rfl) ?_
    refine at_d rfl rfl (opr_extract rfl rfl rfl) ?_
    refine at_d rfl rfl (opr_extract rfl rfl rfl) ?_
    refine at_d rfl rfl (opr_assign rfl rfl) ?_
    refine at_d rfl rfl (opr_assign rfl rfl) ?_
    refine at_nil ?_
    refine at_then ?_
    refine at_seq ?_
    refine at_region ?_
    refine at_d rfl rfl (opr_indexAddr (j := 6) rfl rfl rfl Tryd.underlying85 (by decide) size23 rfl) ?_
    refine at_d rfl rfl (opr_load1 (i := 0) rfl rfl rfl Tryd.underlying23 rfl (W_get (fill_get a 6 (by decide)))) ?_
    refine at_c rfl rfl (opr_call rfl rfl rfl Tryd.func75 (by kernel_rfl) rfl (mul64_ct (Nat.mod_lt _ (by decide)) (by decide))) ?_
    rintro _ _ ⟨h6, w6, rfl, q6, wl6, hl6, rfl⟩
    refine at_d rfl rfl (opr_move rfl rfl) ?_
    refine at_d rfl rfl (opr_extract rfl rfl rfl) ?_
    refine at_d rfl rfl (opr_extract rfl rfl rfl) ?_
    refine at_d rfl rfl (opr_assign rfl rfl) ?_
    refine at_d rfl rfl (opr_assign rfl rfl) ?_
    refine at_nil ?_
    refine at_then ?_
    refine at_seq ?_
    refine at_region ?_
    refine at_d rfl rfl (opr_move rfl rfl) ?_
    refine at_d rfl rfl (opr_move rfl rfl) ?_
    refine at_c rfl rfl (opr_Add64 rfl rfl rfl (by decide) hl0 wl1) ?_
    rintro _ _ ⟨s0, k0, rfl, e0, l0, m0, rfl⟩
    refine at_d rfl rfl (opr_move rfl rfl) ?_
    refine at_d rfl rfl (opr_extract rfl rfl rfl) ?_
    refine at_d rfl rfl (opr_extract rfl rfl rfl) ?_
    refine at_d rfl rfl (opr_assign rfl rfl) ?_
    refine at_d rfl rfl (opr_assign rfl rfl) ?_
    refine at_nil ?_
    refine at_then ?_
    refine at_seq ?_
    refine at_region ?_
    refine at_d rfl rfl (opr_move rfl rfl) ?_
    refine at_d rfl rfl (opr_move rfl rfl) ?_
    refine at_d rfl rfl (opr_move rfl rfl) ?_
    refine at_c rfl rfl (opr_Add64 rfl rfl rfl m0 hl1 wl2) ?_
    rintro _ _ ⟨s1, k1, rfl, e1, l1, m1, rfl⟩
    refine at_d rfl rfl (opr_move rfl rfl) ?_
    refine at_d rfl rfl (opr_extract rfl rfl rfl) ?_
    refine at_d rfl rfl (opr_extract rfl rfl rfl) ?_
    refine at_d rfl rfl (opr_assign rfl rfl) ?_
    refine at_d rfl rfl (opr_assign rfl rfl) ?_
    refine at_nil ?_
    refine at_then ?_
    refine at_seq ?_
    refine at_region ?_
    refine at_d rfl rfl (opr_move rfl rfl) ?_
    refine at_d rfl rfl (opr_move rfl rfl) ?_
    refine at_d rfl rfl (opr_move rfl rfl) ?_
    refine at_c rfl rfl (opr_Add64 rfl rfl rfl m1 hl2 wl3) ?_
    rintro _ _ ⟨s2, k2, rfl, e2, l2, m2, rfl⟩
    refine at_d rfl rfl (opr_move rfl rfl) ?_
    refine at_d rfl rfl (opr_extract rfl rfl rfl) ?_
    refine at_d rfl rfl (opr_extract rfl rfl rfl) ?_
    refine at_d rfl rfl (opr_assign rfl rfl) ?_
    refine at_d rfl rfl (opr_assign rfl rfl) ?_
    refine at_nil ?_
    refine at_then ?_
    refine at_seq ?_
    refine at_region ?_
    refine at_d rfl rfl (opr_move rfl rfl) ?_
    refine at_d rfl rfl (opr_move rfl rfl) ?_
    refine at_d rfl rfl (opr_move rfl rfl) ?_
    refine at_c rfl rfl (opr_Add64 rfl rfl rfl m2 hl3 wl4) ?_
    rintro _ _ ⟨s3, k3, rfl, e3, l3, m3, rfl⟩
    refine at_d rfl rfl (opr_move rfl rfl) ?_
    refine at_d rfl rfl (opr_extract rfl rfl rfl) ?_
    refine at_d rfl rfl (opr_extract rfl rfl rfl) ?_
    refine at_d rfl rfl (opr_assign rfl rfl) ?_
    refine at_d rfl rfl (opr_assign rfl rfl) ?_
    refine at_nil ?_
    refine at_then ?_
    refine at_seq ?_
    refine at_region ?_
    refine at_d rfl rfl (opr_move rfl rfl) ?_
    refine at_d rfl rfl (opr_move rfl rfl) ?_
    refine at_d rfl rfl (opr_move rfl rfl) ?_
    refine at_c rfl rfl (opr_Add64 rfl rfl rfl m3 hl4 wl5) ?_
    rintro _ _ ⟨s4, k4, rfl, e4, l4, m4, rfl⟩
    refine at_d rfl rfl (opr_move rfl rfl) ?_
    refine at_d rfl rfl (opr_extract rfl rfl rfl) ?_
    refine at_d rfl rfl (opr_extract rfl rfl rfl) ?_
    refine at_d rfl rfl (opr_assign rfl rfl) ?_
    refine at_d rfl rfl (opr_assign rfl rfl) ?_
    refine at_nil ?_
    refine at_then ?_
    refine at_seq ?_
    refine at_region ?_
    refine at_d rfl rfl (opr_move rfl rfl) ?_
    refine at_d rfl rfl (opr_move rfl rfl) ?_
    refine at_d rfl rfl (opr_move rfl rfl) ?_
    refine at_c rfl rfl (opr_Add64 rfl rfl rfl m4 hl5 wl6) ?_
    rintro _ _ ⟨s5, k5, rfl, e5, l5, m5, rfl⟩
    refine at_d rfl rfl (opr_move rfl rfl) ?_
    refine at_d rfl rfl (opr_extract rfl rfl rfl) ?_
    refine at_d rfl rfl (opr_extract rfl rfl rfl) ?_
    refine at_d rfl rfl (opr_assign rfl rfl) ?_
    refine at_d rfl rfl (opr_assign rfl rfl) ?_
    refine at_nil ?_
    refine at_then ?_
    refine at_seq ?_
    refine at_region ?_
    refine at_d rfl rfl (opr_move rfl rfl) ?_
    refine at_d rfl rfl (opr_move rfl rfl) ?_
    refine at_c rfl rfl (opr_Add64 rfl rfl rfl m5 hl6 (by decide)) ?_
    rintro _ _ ⟨s6, k6, rfl, e6, l6, m6, rfl⟩
    refine at_d rfl rfl (opr_move rfl rfl) ?_
    refine at_d rfl rfl (opr_extract rfl rfl rfl) ?_
    refine at_d rfl rfl (opr_extract rfl rfl rfl) ?_
    refine at_d rfl rfl (opr_assign rfl rfl) ?_
    refine at_d rfl rfl (opr_assign rfl rfl) ?_
    refine at_nil ?_
    refine at_then ?_
    refine at_seq ?_
    refine at_region ?_
    refine at_d rfl rfl (opr_move rfl rfl) ?_
    refine at_d rfl rfl (opr_move rfl rfl) ?_
    refine at_c rfl rfl (opr_Add64 rfl rfl rfl (by decide) wl0 l6) ?_
    rintro _ _ ⟨s7, k7, rfl, e7, l7, m7, rfl⟩
    refine at_d rfl rfl (opr_move rfl rfl) ?_
    refine at_d rfl rfl (opr_extract rfl rfl rfl) ?_
    refine at_d rfl rfl (opr_extract rfl rfl rfl) ?_
    refine at_d rfl rfl (opr_assign rfl rfl) ?_
    refine at_d rfl rfl (opr_assign rfl rfl) ?_
    refine at_nil ?_
    refine at_then ?_
    refine at_seq ?_
    refine at_region ?_
    refine at_d rfl rfl (opr_move rfl rfl) ?_
    refine at_d rfl rfl (opr_move rfl rfl) ?_
    refine at_c rfl rfl (opr_Add64 rfl rfl rfl m7 l0 (by decide)) ?_
    rintro _ _ ⟨s8, k8, rfl, e8, l8, m8, rfl⟩
    refine at_d rfl rfl (opr_move rfl rfl) ?_
    refine at_d rfl rfl (opr_extract rfl rfl rfl) ?_
    refine at_d rfl rfl (opr_extract rfl rfl rfl) ?_
    refine at_d rfl rfl (opr_assign rfl rfl) ?_
    refine at_d rfl rfl (opr_assign rfl rfl) ?_
    refine at_nil ?_
    refine at_then ?_
    refine at_seq ?_
    refine at_region ?_
    refine at_d rfl rfl (opr_move rfl rfl) ?_
    refine at_d rfl rfl (opr_move rfl rfl) ?_
    refine at_c rfl rfl (opr_Add64 rfl rfl rfl m8 l1 (by decide)) ?_
    rintro _ _ ⟨s9, k9, rfl, e9, l9, m9, rfl⟩
    refine at_d rfl rfl (opr_move rfl rfl) ?_
    refine at_d rfl rfl (opr_extract rfl rfl rfl) ?_
    refine at_d rfl rfl (opr_extract rfl rfl rfl) ?_
    refine at_d rfl rfl (opr_assign rfl rfl) ?_
    refine at_d rfl rfl (opr_assign rfl rfl) ?_
    refine at_nil ?_
    refine at_then ?_
    refine at_seq ?_
    refine at_region ?_
    refine at_d rfl rfl (opr_move rfl rfl) ?_
    refine at_d rfl rfl (opr_move rfl rfl) ?_
    refine at_d rfl rfl (opr_shl64 rfl rfl rfl (by decide)) ?_
    refine at_d rfl rfl (opr_move rfl rfl) ?_
    refine at_c rfl rfl (opr_Add64 rfl rfl rfl m9 l2 (Nat.mod_lt _ (by decide))) ?_
    rintro _ _ ⟨s10, k10, rfl, e10, l10, m10, rfl⟩
    refine at_d rfl rfl (opr_move rfl rfl) ?_
    refine at_d rfl rfl (opr_extract rfl rfl rfl) ?_
    refine at_d rfl rfl (opr_extract rfl rfl rfl) ?_
    refine at_d rfl rfl (opr_assign rfl rfl) ?_
    refine at_d rfl rfl (opr_assign rfl rfl) ?_
    refine at_nil ?_
    refine at_then ?_
    refine at_seq ?_
    refine at_region ?_
    refine at_d rfl rfl (opr_move rfl rfl) ?_
    refine at_d rfl rfl (opr_move rfl rfl) ?_
    refine at_c rfl rfl (opr_Add64 rfl rfl rfl m10 l3 (by decide)) ?_
    rintro _ _ ⟨s11, k11, rfl, e11, l11, m11, rfl⟩
    refine at_d rfl rfl (opr_move rfl rfl) ?_
    refine at_d rfl rfl (opr_extract rfl rfl rfl) ?_
    refine at_d rfl rfl (opr_extract rfl rfl rfl) ?_
    refine at_d rfl rfl (opr_assign rfl rfl) ?_
    refine at_d rfl rfl (opr_assign rfl rfl) ?_
    refine at_nil ?_
    refine at_then ?_
    refine at_seq ?_
    refine at_region ?_
    refine at_d rfl rfl (opr_move rfl rfl) ?_
    refine at_d rfl rfl (opr_move rfl rfl) ?_
    refine at_c rfl rfl (opr_Add64 rfl rfl rfl m11 l4 (by decide)) ?_
    rintro _ _ ⟨s12, k12, rfl, e12, l12, m12, rfl⟩
    refine at_d rfl rfl (opr_move rfl rfl) ?_
    refine at_d rfl rfl (opr_extract rfl rfl rfl) ?_
    refine at_d rfl rfl (opr_extract rfl rfl rfl) ?_
    refine at_d rfl rfl (opr_assign rfl rfl) ?_
    refine at_d rfl rfl (opr_assign rfl rfl) ?_
    refine at_nil ?_
    refine at_then ?_
    refine at_seq ?_
    refine at_region ?_
    refine at_d rfl rfl (opr_move rfl rfl) ?_
    refine at_d rfl rfl (opr_move rfl rfl) ?_
    refine at_c rfl rfl (opr_Add64 rfl rfl rfl m12 l5 (by decide)) ?_
    rintro _ _ ⟨s13, k13, rfl, e13, l13, m13, rfl⟩
    refine at_d rfl rfl (opr_move rfl rfl) ?_
    refine at_d rfl rfl (opr_extract rfl rfl rfl) ?_
    refine at_d rfl rfl (opr_extract rfl rfl rfl) ?_
    refine at_d rfl rfl (opr_assign rfl rfl) ?_
    refine at_d rfl rfl (opr_assign rfl rfl) ?_
    refine at_nil ?_
    refine at_then ?_
    refine at_seq ?_
    refine at_region ?_
    refine at_d rfl rfl (opr_move rfl rfl) ?_
    refine at_d rfl rfl (opr_move rfl rfl) ?_
    refine at_c rfl rfl (opr_Add64 rfl rfl rfl (by decide) l7 (Nat.lt_of_le_of_lt m13 (by decide))) ?_
    rintro _ _ ⟨s14, k14, rfl, e14, l14, m14, rfl⟩
    refine at_d rfl rfl (opr_move rfl rfl) ?_
    refine at_d rfl rfl (opr_extract rfl rfl rfl) ?_
    refine at_d rfl rfl (opr_extract rfl rfl rfl) ?_
    refine at_d rfl rfl (opr_indexAddr (j := 0) rfl rfl rfl Tryd.underlying85 (by decide) size23 rfl) ?_
    refine at_d rfl rfl (opr_store (i := 0) rfl rfl rfl rfl rfl size23 rfl (by rw [W_length]; simp only [List.length_set, digs_length]; decide) flat_one (W_put (by simp only [List.length_set, digs_length]; decide) rfl)) ?_
    refine at_d rfl rfl (opr_assign rfl rfl) ?_
    refine at_nil ?_
    refine at_then ?_
    refine at_seq ?_
    refine at_region ?_
    refine at_d rfl rfl (opr_move rfl rfl) ?_
    refine at_d rfl rfl (opr_move rfl rfl) ?_
    refine at_c rfl rfl (opr_Add64 rfl rfl rfl m14 l8 (by decide)) ?_
    rintro _ _ ⟨s15, k15, rfl, e15, l15, m15, rfl⟩
    refine at_d rfl rfl (opr_move rfl rfl) ?_
    refine at_d rfl rfl (opr_extract rfl rfl rfl) ?_
    refine at_d rfl rfl (opr_extract rfl rfl rfl) ?_
    refine at_d rfl rfl (opr_indexAddr (j := 1) rfl rfl rfl Tryd.underlying85 (by decide) size23 rfl) ?_
    refine at_d rfl rfl (opr_store (i := 0) rfl rfl rfl rfl rfl size23 rfl (by rw [W_length]; simp only [List.length_set, digs_length]; decide) flat_one (W_put (by simp only [List.length_set, digs_length]; decide) rfl)) ?_
    refine at_d rfl rfl (opr_assign rfl rfl) ?_
    refine at_nil ?_
    refine at_then ?_
    refine at_seq ?_
    refine at_region ?_
    refine at_d rfl rfl (opr_move rfl rfl) ?_
    refine at_d rfl rfl (opr_move rfl rfl) ?_
    refine at_c rfl rfl (opr_Add64 rfl rfl rfl m15 l9 (by decide)) ?_
    rintro _ _ ⟨s16, k16, rfl, e16, l16, m16, rfl⟩
    refine at_d rfl rfl (opr_move rfl rfl) ?_
    refine at_d rfl rfl (opr_extract rfl rfl rfl) ?_
    refine at_d rfl rfl (opr_extract rfl rfl rfl) ?_
    refine at_d rfl rfl (opr_indexAddr (j := 2) rfl rfl rfl Tryd.underlying85 (by decide) size23 rfl) ?_
    refine at_d rfl rfl (opr_store (i := 0) rfl rfl rfl rfl rfl size23 rfl (by rw [W_length]; simp only [List.length_set, digs_length]; decide) flat_one (W_put (by simp only [List.length_set, digs_length]; decide) rfl)) ?_
    refine at_d rfl rfl (opr_assign rfl rfl) ?_
    refine at_nil ?_
    refine at_then ?_
    refine at_seq ?_
    refine at_region ?_
    refine at_d rfl rfl (opr_move rfl rfl) ?_
    refine at_d rfl rfl (opr_move rfl rfl) ?_
    refine at_d rfl rfl (opr_shl64 rfl rfl rfl (by decide)) ?_
    refine at_d rfl rfl (opr_move rfl rfl) ?_
    refine at_c rfl rfl (opr_Add64 rfl rfl rfl m16 l10 (Nat.mod_lt _ (by decide))) ?_
    rintro _ _ ⟨s17, k17, rfl, e17, l17, m17, rfl⟩
    refine at_d rfl rfl (opr_move rfl rfl) ?_
    refine at_d rfl rfl (opr_extract rfl rfl rfl) ?_
    refine at_d rfl rfl (opr_extract rfl rfl rfl) ?_
    refine at_d rfl rfl (opr_indexAddr (j := 3) rfl rfl rfl Tryd.underlying85 (by decide) size23 rfl) ?_
    refine at_d rfl rfl (opr_store (i := 0) rfl rfl rfl rfl rfl size23 rfl (by rw [W_length]; simp only [List.length_set, digs_length]; decide) flat_one (W_put (by simp only [List.length_set, digs_length]; decide) rfl)) ?_
    refine at_d rfl rfl (opr_assign rfl rfl) ?_
    refine at_nil ?_
    refine at_then ?_
    refine at_seq ?_
    refine at_region ?_
    refine at_d rfl rfl (opr_move rfl rfl) ?_
    refine at_d rfl rfl (opr_move rfl rfl) ?_
    refine at_c rfl rfl (opr_Add64 rfl rfl rfl m17 l11 (by decide)) ?_
    rintro _ _ ⟨s18, k18, rfl, e18, l18, m18, rfl⟩
    refine at_d rfl rfl (opr_move rfl rfl) ?_
    refine at_d rfl rfl (opr_extract rfl rfl rfl) ?_
    refine at_d rfl rfl (opr_extract rfl rfl rfl) ?_
    refine at_d rfl rfl (opr_indexAddr (j := 4) rfl rfl rfl Tryd.underlying85 (by decide) size23 rfl) ?_
    refine at_d rfl rfl (opr_store (i := 0) rfl rfl rfl rfl rfl size23 rfl (by rw [W_length]; simp only [List.length_set, digs_length]; decide) flat_one (W_put (by simp only [List.length_set, digs_length]; decide) rfl)) ?_
    refine at_d rfl rfl (opr_assign rfl rfl) ?_
    refine at_nil ?_
    refine at_then ?_
    refine at_seq ?_
    refine at_region ?_
    refine at_d rfl rfl (opr_move rfl rfl) ?_
    refine at_d rfl rfl (opr_move rfl rfl) ?_
    refine at_c rfl rfl (opr_Add64 rfl rfl rfl m18 l12 (by decide)) ?_
    rintro _ _ ⟨s19, k19, rfl, e19, l19, m19, rfl⟩
    refine at_d rfl rfl (opr_move rfl rfl) ?_
    refine at_d rfl rfl (opr_extract rfl rfl rfl) ?_
    refine at_d rfl rfl (opr_extract rfl rfl rfl) ?_
    refine at_d rfl rfl (opr_indexAddr (j := 5) rfl rfl rfl Tryd.underlying85 (by decide) size23 rfl) ?_
    refine at_d rfl rfl (opr_store (i := 0) rfl rfl rfl rfl rfl size23 rfl (by rw [W_length]; simp only [List.length_set, digs_length]; decide) flat_one (W_put (by simp only [List.length_set, digs_length]; decide) rfl)) ?_
    refine at_d rfl rfl (opr_assign rfl rfl) ?_
    refine at_nil ?_
    refine at_then ?_
    refine at_seq ?_
    refine at_region ?_
    refine at_d rfl rfl (opr_move rfl rfl) ?_
    refine at_d rfl rfl (opr_move rfl rfl) ?_
    refine at_c rfl rfl (opr_Add64 rfl rfl rfl m19 l13 (by decide)) ?_
    rintro _ _ ⟨s20, k20, rfl, e20, l20, m20, rfl⟩
    obtain ⟨r, hr⟩ : ∃ r, r = dval 18446744073709551616 [s14, s15, s16, s17, s18, s19, s20] := ⟨_, rfl⟩
    have hrl : r < RR := by rw [hr]; exact dval7_lt l14 l15 l16 l17 l18 l19 l20
    have hrm : r % pp = a * 39082 % pp := a24_end ha e0 e1 e2 e3 e4 e5 e6 e7 e8 e9 e10 e11 e12 e13 e14 e15 e16 e17 e18 e19 e20 q0 q1 q2 q3 q4 q5 q6 m6 m13 m20 wl0 l0 l1 l2 l3 l4 l5 l6 l7 l8 l9 l10 l11 l12 l13 l14 l15 l16 l17 l18 l19 l20 hr
    clear e20 e19 e18 e17 e16 e15 e14 e13 e12 e11 e10 e9 e8 e7 e6 e5 e4 e3 e2 e1 e0 q0 q1 q2 q3 q4 q5 q6
    refine at_d rfl rfl (opr_move rfl rfl) ?_
    refine at_d rfl rfl (opr_extract rfl rfl rfl) ?_
    refine at_d rfl rfl (opr_extract rfl rfl rfl) ?_
    refine at_d rfl rfl (opr_indexAddr (j := 6) rfl rfl rfl Tryd.underlying85 (by decide) size23 rfl) ?_
    refine at_d rfl rfl (opr_store (i := 0) rfl rfl rfl rfl rfl size23 rfl (by rw [W_length]; simp only [List.length_set, digs_length]; decide) flat_one (W_put (by simp only [List.length_set, digs_length]; decide) ((set7 (digs_length _ _ _)).trans (seven_digs hr l14 l15 l16 l17 l18 l19 l20)))) ?_
    refine at_nil ?_
    refine at_then ?_
    refine at_seq ?_
    refine at_region ?_
    refine at_d rfl rfl (opr_move rfl rfl) ?_
    refine at_nil ?_
    refine at_then ?_
    refine at_block ?_
    refine at_loop (fun (x : Nat) => [(0, .pointer (some ⟨gz, oz, none⟩)), (4, .pointer (some ⟨g0, 0, none⟩)), (229, .int .i64 (x : Int))]) (fun (x : Nat) => ⟨g0, 85, W (digs 18446744073709551616 7 r)⟩ :: (M.set iz ⟨gz, Tz, putTo (EE lz) oz r (8 * x)⟩)) (fun (x : Nat) => 7 - x) (fun (x : Nat) => x ≤ 7) 0 (Nat.zero_le _) (allIn ⟨rfl, rfl, rfl, trivial⟩) (by simp only [Nat.mul_zero, putTo_zero, set_same hz]; exact List.Sublist.refl _) ?_
    intro k hk
    dsimp only
    refine at_seq ?_
    refine at_region ?_
    refine at_d rfl rfl (opr_lss (a := k) (b := 7) rfl rfl rfl) ?_
    refine at_nil ?_
    refine at_then ?_
    refine at_seq ?_
    refine at_cond rfl (fun ht2 => ?_) (fun ht2 => ?_)
    ·
      have hlt : k < 7 := of_decide_eq_true ht2
      refine at_skip ?_
      refine at_then ?_
      refine at_seq ?_
      refine at_block ?_
      refine at_seq ?_
      refine at_region ?_
      refine at_d rfl rfl (opr_move rfl rfl) ?_
      refine at_d rfl rfl (opr_assign rfl rfl) ?_
      refine at_nil ?_
      refine at_then ?_
      refine at_draw (by kernel_rfl) (by kernel_rfl) (by kernel_rfl) (List.cons_ne_nil _ _) ?_
      refine dr_op rfl rfl (opr_load0 rfl rfl Tryd.underlying83 rfl size83) ?_
      refine dr_op rfl rfl (opr_move rfl rfl) ?_
      refine dr_op rfl rfl (opr_nilCheck rfl rfl) ?_
      refine dr_op rfl rfl (opr_move rfl rfl) ?_
      refine dr_op rfl rfl (opr_mulI (a := k) (b := 8) rfl rfl rfl (by omega)) ?_
      refine dr_op rfl rfl (opr_move rfl rfl) ?_
      refine dr_op rfl rfl (opr_addI (a := k) (b := 1) rfl rfl rfl (by omega)) ?_
      refine dr_op rfl rfl (opr_mulI (a := k + 1) (b := 8) rfl rfl rfl (by omega)) ?_
      refine dr_op rfl rfl (opr_slice (a := k * 8) (b := (k + 1) * 8) (off' := oz + k * 8) rfl rfl rfl rfl Tryd.underlying47 (by omega) (by omega) (by omega) size5 rfl) ?_
      refine dr_op rfl rfl (opr_move rfl rfl) ?_
      refine dr_op rfl rfl (opr_indexAddr (j := k) (off' := k) rfl rfl rfl Tryd.underlying85 hlt size23 (by omega)) ?_
      refine dr_op rfl rfl (opr_load1 (i := 0) rfl rfl rfl Tryd.underlying23 rfl (W_get (digs_get 7 r k hlt))) ?_
      refine dr_last rfl rfl (opr_call rfl rfl rfl Tryd.func79 (by kernel_rfl) rfl (putUint64_ct (i := iz + 1) (get_set hz : (M.set iz ⟨gz, Tz, putTo (EE lz) oz r (8 * k)⟩)[iz]? = some _) (by rw [putTo_len hle hk]; omega) (Nat.mod_lt _ (by decide)) (by omega))) ?_
      refine at_memA (M2 := ⟨g0, 85, W (digs 18446744073709551616 7 r)⟩ :: M.set iz ⟨gz, Tz, putTo (EE lz) oz r (8 * (k + 1))⟩) (by rw [put_next hle hlt]; simp only [List.set_cons_succ, List.set_set]) ?_
      refine at_inBlock_normal ?_
      refine at_then ?_
      refine at_region ?_
      refine at_d rfl rfl (opr_addI (a := k) (b := 1) rfl rfl rfl (by omega)) ?_
      refine at_d rfl rfl (opr_move rfl rfl) ?_
      refine at_nil ?_
      exact at_round (k + 1) (by omega) (by omega) (allIn ⟨rfl, rfl, rfl, trivial⟩) (List.Sublist.refl _)
    ·
      obtain rfl : k = 7 := by have := of_decide_eq_false ht2; omega
      refine at_exit ?_
      refine at_then_exit ?_
      refine at_then_exit ?_
      refine at_inBlock_same ?_
      exact done_of (res0 rfl) ⟨r, hrl, hrm, rfl, congrArg (fun c => M.set iz ⟨gz, Tz, c⟩) (put_all hkz hoz)⟩ (List.sublist_cons_self _ _)
theorem mulA24_ct {M : Mem} {iz ix gz gx Tz Tx kz kx oz ox a : Nat} {lz lx : List Nat} (hz : M[iz]? = some ⟨gz, Tz, EE lz⟩) (hkz : kz < lz.length) (hoz : 56 * kz = oz) (hx : M[ix]? = some ⟨gx, Tx, EE lx⟩) (hkx : lx[kx]? = some a) (hox : 56 * kx = ox) (ha : a < RR) : Ct Tryd.prog 58 #[.pointer (some ⟨gz, oz, none⟩), .pointer (some ⟨gx, ox, none⟩)] M (fun v M' => ∃ r, r < RR ∧ r % pp = a * 39082 % pp ∧ v = .tuple #[] ∧ M' = M.set iz ⟨gz, Tz, EE (lz.set kz r)⟩) := by
  refine ct_of (vs := [.pointer (some ⟨gz, oz, none⟩), .pointer (some ⟨gx, ox, none⟩)]) Tryd.func58 rfl Tryd.ntmps58 rfl fun w0 => ?_
  refine at_region ?_
  refine at_d rfl rfl (opr_move rfl rfl) ?_
  refine at_d rfl rfl (opr_move rfl rfl) ?_
  refine at_c rfl rfl (opr_call rfl rfl rfl Tryd.func68 (by kernel_rfl) rfl (mulA24Generic_ct hz hkz hoz hx hkx hox ha)) ?_
  rintro _ _ ⟨r, hr, hrm, rfl, rfl⟩
  refine at_nil ?_
  exact done_of (res0 rfl) ⟨r, hr, hrm, rfl, rfl⟩ (List.Sublist.refl _)
def A24R (a : Nat) (M : Mem) : Value → Mem → Prop := fun v M' => ∃ r, r < RR ∧ r % pp = a * 39082 % pp ∧ v = .agg (E r).toArray ∧ M' = M
theorem zzMulA24_ct {M : Mem} {a : Nat} (ha : a < RR) : Ct Tryd.prog 39 #[.agg (E a).toArray] M (A24R a M) := by
  refine ct_of (vs := [.agg (E a).toArray]) Tryd.func39 rfl Tryd.ntmps39 rfl fun w0 => ?_
  refine at_seq ?_
  refine at_region ?_
  refine at_n rfl rfl (opr_box (cs := EE [a]) rfl rfl (E_box _)) ?_
  intro g0
  refine at_n rfl rfl (opr_alloc rfl zero47 rfl) ?_
  intro g1
  refine at_nil ?_
  refine at_then ?_
  refine at_seq ?_
  refine at_region ?_
  refine at_c rfl rfl (opr_call rfl rfl rfl Tryd.func58 (by kernel_rfl) rfl (mulA24_ct (iz := 0) (ix := 1) (kz := 0) (kx := 0) rfl (Nat.le_of_ble_eq_true rfl) rfl rfl rfl rfl ha)) ?_
  rintro _ _ ⟨r, hr, hrm, rfl, rfl⟩
  refine at_nil ?_
  refine at_then ?_
  refine at_ret ?_
  refine done_of (res1 Tryd.results39 (res_cell (i := 0) rfl rfl Tryd.underlying47 rfl size47 (E_length _) (EE_at (k := 0) rfl rfl rfl))) ⟨r, hr, hrm, rfl, rfl⟩ (by repeat (first | exact List.Sublist.refl _ | apply List.Sublist.cons))
theorem iMulA24_ct {M : Mem} {ig Tp : Nat} (hG : M[ig]? = some ⟨0, Tp, EE [pp]⟩) {a : Nat} (ha : a < RR) : Ct Tryd.prog 21 #[.agg (E a).toArray] M (Det (.agg (E (a * 39082 % pp)).toArray) M) := by
  refine ct_of (vs := [.agg (E a).toArray]) Tryd.func21 rfl Tryd.ntmps21 rfl fun w0 => ?_
  refine at_seq ?_
  refine at_region ?_
  refine at_n rfl rfl (opr_box (cs := EE [a]) rfl rfl (E_box _)) ?_
  intro g0
  refine at_n rfl rfl (opr_alloc rfl zero22 rfl) ?_
  intro g1
  refine at_nil ?_
  refine at_then ?_
  refine at_seq ?_
  refine at_region ?_
  refine at_d rfl rfl (opr_load (i := 1) rfl rfl rfl Tryd.underlying22 rfl size22 (E_length _) (EE_at (k := 0) rfl rfl rfl)) ?_
  refine at_c rfl rfl (opr_call rfl rfl rfl Tryd.func39 (by kernel_rfl) rfl (zzMulA24_ct ha)) ?_
  rintro _ _ ⟨r, hr, hrm, rfl, rfl⟩
  refine at_d rfl rfl (opr_call rfl rfl rfl Tryd.func32 (by kernel_rfl) rfl (reduced_ct (ig := ig + 2) hG hr)) ?_
  refine at_d rfl rfl (opr_store (i := 0) rfl rfl rfl rfl rfl size22 (E_length _) (by rw [EE_length]; exact Nat.le_of_ble_eq_true rfl) (E_flat _) (EE_set (k := 0) (Nat.le_of_ble_eq_true rfl) rfl)) ?_
  refine at_nil ?_
  refine at_then ?_
  refine at_ret ?_
  refine done_of (res1 Tryd.results21 (res_cell (i := 0) rfl rfl Tryd.underlying22 rfl size22 (E_length _) (EE_at (k := 0) rfl rfl rfl))) ⟨?_, rfl⟩ (by repeat (first | exact List.Sublist.refl _ | apply List.Sublist.cons))
  rw [hrm]
theorem fnMulA24Is_ct {M : Mem} {ig Tp : Nat} (hG : M[ig]? = some ⟨0, Tp, EE [pp]⟩) {a : Nat} (ha : a < RR) : Ct Tryd.prog 5 #[.agg (E a).toArray] M (Det (.bool true) M) := by
  refine ct_of (vs := [.agg (E a).toArray]) Tryd.func5 rfl Tryd.ntmps5 rfl fun w0 => ?_
  refine at_seq ?_
  refine at_region ?_
  refine at_n rfl rfl (opr_box (cs := EE [a]) rfl rfl (E_box _)) ?_
  intro g0
  refine at_d rfl rfl (opr_assign rfl rfl) ?_
  refine at_nil ?_
  refine at_then ?_
  refine at_seq ?_
  refine at_drawQ (by kernel_rfl) (by kernel_rfl) (List.cons_ne_nil _ _) ?_
  refine dr_op rfl rfl (opr_load (i := 0) rfl rfl rfl Tryd.underlying22 rfl size22 (E_length _) (EE_at (k := 0) rfl rfl rfl)) ?_
  refine dr_op rfl rfl (opr_call rfl rfl rfl Tryd.func21 (by kernel_rfl) rfl (iMulA24_ct (ig := ig + 1) hG ha)) ?_
  refine dr_op rfl rfl (opr_load (i := 0) rfl rfl rfl Tryd.underlying22 rfl size22 (E_length _) (EE_at (k := 0) rfl rfl rfl)) ?_
  refine dr_op rfl rfl (opr_call rfl rfl rfl Tryd.func11 (by kernel_rfl) rfl (of_ct _)) ?_
  refine dr_op rfl rfl (opr_call rfl rfl rfl Tryd.func23 (by kernel_rfl) rfl (small_ct (c := 39082) (by decide))) ?_
  refine dr_op rfl rfl (opr_call rfl rfl rfl Tryd.func22 (by kernel_rfl) rfl (sMul_ct ha (by decide))) ?_
  refine dr_op rfl rfl (opr_call rfl rfl rfl Tryd.func20 (by kernel_rfl) rfl (is_true rfl (modp_lt _))) ?_
  refine dr_last rfl rfl (opr_assign rfl rfl) ?_
  refine ⟨rfl, ?_⟩
  refine at_then ?_
  refine at_ret ?_
  refine done_of (res1 Tryd.results5 (res_tmp rfl)) ⟨rfl, rfl⟩ (by repeat (first | exact List.Sublist.refl _ | apply List.Sublist.cons))
end Go.Proofs.YtkjfongekklabaaDoor
