/- The laws of the ladder's step. -/
import Derived.Test.YtkjfongekklabaaDoorStep
namespace Go.Proofs.YtkjfongekklabaaDoor
open Go
set_option maxRecDepth 100000
theorem size43 : (Tryd.prog.info? 43).map (·.size) = some 280 := by kernel_rfl
theorem size63 : (Tryd.prog.info? 63).map (·.size) = some 280 := by kernel_rfl
theorem zero43 : (Tryd.prog.info? 43).bind (·.zero) = some (.agg (EE [0, 0, 0, 0, 0]).toArray) := by kernel_rfl
theorem zero63 : (Tryd.prog.info? 63).bind (·.zero) = some (.agg (EE [0, 0, 0, 0, 0]).toArray) := by kernel_rfl
theorem dbl_uniq {x z r s r' s' : Fin pp} (a : DblEl x z r s) (b : DblEl x z r' s') : r = r' ∧ s = s' := ⟨a.h1.trans b.h1.symm, a.h2.trans b.h2.symm⟩
theorem dbl_mod {x z : Fin pp} {r s : Nat} (h : DblEl x z (el r) (el s)) : DblEl x z (el (r % pp)) (el (s % pp)) := by rw [el_mod, el_mod]; exact h
theorem pp_RR {a : Nat} (h : a < pp) : a < RR := Nat.lt_trans h RR_pp
theorem five_lt {a b c d e : Nat} {B : Nat} (ha : a < B) (hb : b < B) (hc : c < B) (hd : d < B) (he : e < B) : ∀ x ∈ [a, b, c, d, e], x < B := by
  intro x hx
  simp only [List.mem_cons, List.not_mem_nil, or_false] at hx
  rcases hx with rfl | rfl | rfl | rfl | rfl <;> assumption
theorem map_getD {l : List Nat} {k : Nat} (hk : k < l.length) : (l.map (· % pp))[k]? = some (l.getD k 0 % pp) := by
  rw [List.getElem?_map, getD_some hk]; rfl
theorem doubleGeneric_ct {M : Mem} {p2 p3 T2 T3 gx gz Tx Tz a b : Nat} {c2 c3 : List Value} (ha : a < RR) (hb : b < RR) : Ct Tryd.prog 69 #[.pointer (some ⟨gx, 0, none⟩), .pointer (some ⟨gz, 0, none⟩)] (⟨p3, T3, c3⟩ :: ⟨p2, T2, c2⟩ :: ⟨gz, Tz, EE [b]⟩ :: ⟨gx, Tx, EE [a]⟩ :: M) (fun v M' => ∃ r s, r < RR ∧ s < RR ∧ DblEl (el a) (el b) (el r) (el s) ∧ v = .tuple #[] ∧ M' = ⟨p3, T3, c3⟩ :: ⟨p2, T2, c2⟩ :: ⟨gz, Tz, EE [s]⟩ :: ⟨gx, Tx, EE [r]⟩ :: M) := by
  refine ct_of (vs := [.pointer (some ⟨gx, 0, none⟩), .pointer (some ⟨gz, 0, none⟩)]) Tryd.func69 rfl Tryd.ntmps69 rfl fun w0 => ?_
  refine at_seq ?_
  refine at_region ?_
  refine at_d rfl rfl (opr_buildE rfl rfl built_zero E_zero0) ?_
  refine at_n rfl rfl (opr_box (cs := EE [0]) rfl rfl (E_box _)) ?_
  intro g0
  refine at_d rfl rfl (opr_buildE rfl rfl built_zero E_zero0) ?_
  refine at_n rfl rfl (opr_box (cs := EE [0]) rfl rfl (E_box _)) ?_
  intro g1
  refine at_d rfl rfl (opr_assign rfl rfl) ?_
  refine at_d rfl rfl (opr_assign rfl rfl) ?_
  refine at_nil ?_
  refine at_then ?_
  refine at_seq ?_
  refine at_region ?_
  refine at_d rfl rfl (opr_move rfl rfl) ?_
  refine at_d rfl rfl (opr_move rfl rfl) ?_
  refine at_c rfl rfl (opr_call rfl rfl rfl Tryd.func80 (by kernel_rfl) rfl (AddSub_el (ix := 5) (iy := 4) (kx := 0) (ky := 0) rfl rfl rfl rfl rfl rfl (by decide) ha hb)) ?_
  rintro _ _ ⟨r0, r1, hr0, hr1, f0, f1, rfl, rfl⟩
  refine at_nil ?_
  refine at_then ?_
  refine at_seq ?_
  refine at_region ?_
  refine at_d rfl rfl (opr_move rfl rfl) ?_
  refine at_d rfl rfl (opr_move rfl rfl) ?_
  refine at_c rfl rfl (opr_call rfl rfl rfl Tryd.func34 (by kernel_rfl) rfl (Sqr_el (iz := 5) (ix := 5) (kz := 0) (kx := 0) rfl (Nat.le_of_ble_eq_true rfl) rfl rfl rfl rfl hr0)) ?_
  rintro _ _ ⟨r2, hr2, f2, rfl, rfl⟩
  refine at_nil ?_
  refine at_then ?_
  refine at_seq ?_
  refine at_region ?_
  refine at_d rfl rfl (opr_move rfl rfl) ?_
  refine at_d rfl rfl (opr_move rfl rfl) ?_
  refine at_c rfl rfl (opr_call rfl rfl rfl Tryd.func34 (by kernel_rfl) rfl (Sqr_el (iz := 4) (ix := 4) (kz := 0) (kx := 0) rfl (Nat.le_of_ble_eq_true rfl) rfl rfl rfl rfl hr1)) ?_
  rintro _ _ ⟨r3, hr3, f3, rfl, rfl⟩
  refine at_nil ?_
  refine at_then ?_
  refine at_seq ?_
  refine at_region ?_
  refine at_d rfl rfl (opr_move rfl rfl) ?_
  refine at_d rfl rfl (opr_move rfl rfl) ?_
  refine at_d rfl rfl (opr_move rfl rfl) ?_
  refine at_c rfl rfl (opr_call rfl rfl rfl Tryd.func52 (by kernel_rfl) rfl (Sub_el (iz := 1) (ix := 5) (iy := 4) (kz := 0) (kx := 0) (ky := 0) rfl (Nat.le_of_ble_eq_true rfl) rfl rfl rfl rfl rfl rfl rfl hr2 hr3)) ?_
  rintro _ _ ⟨r4, hr4, f4, rfl, rfl⟩
  refine at_nil ?_
  refine at_then ?_
  refine at_seq ?_
  refine at_region ?_
  refine at_d rfl rfl (opr_move rfl rfl) ?_
  refine at_d rfl rfl (opr_move rfl rfl) ?_
  refine at_c rfl rfl (opr_call rfl rfl rfl Tryd.func68 (by kernel_rfl) rfl (A24_el (iz := 0) (ix := 1) (kz := 0) (kx := 0) rfl (Nat.le_of_ble_eq_true rfl) rfl rfl rfl rfl hr4)) ?_
  rintro _ _ ⟨r5, hr5, f5, rfl, rfl⟩
  refine at_nil ?_
  refine at_then ?_
  refine at_seq ?_
  refine at_region ?_
  refine at_d rfl rfl (opr_move rfl rfl) ?_
  refine at_d rfl rfl (opr_move rfl rfl) ?_
  refine at_d rfl rfl (opr_move rfl rfl) ?_
  refine at_c rfl rfl (opr_call rfl rfl rfl Tryd.func81 (by kernel_rfl) rfl (Add_el (iz := 0) (ix := 0) (iy := 4) (kz := 0) (kx := 0) (ky := 0) rfl (Nat.le_of_ble_eq_true rfl) rfl rfl rfl rfl rfl rfl rfl hr5 hr3)) ?_
  rintro _ _ ⟨r6, hr6, f6, rfl, rfl⟩
  refine at_nil ?_
  refine at_then ?_
  refine at_seq ?_
  refine at_region ?_
  refine at_d rfl rfl (opr_move rfl rfl) ?_
  refine at_d rfl rfl (opr_move rfl rfl) ?_
  refine at_d rfl rfl (opr_move rfl rfl) ?_
  refine at_c rfl rfl (opr_call rfl rfl rfl Tryd.func33 (by kernel_rfl) rfl (Mul_el (iz := 5) (ix := 5) (iy := 4) (kz := 0) (kx := 0) (ky := 0) rfl (Nat.le_of_ble_eq_true rfl) rfl rfl rfl rfl rfl rfl rfl hr2 hr3)) ?_
  rintro _ _ ⟨r7, hr7, f7, rfl, rfl⟩
  refine at_nil ?_
  refine at_then ?_
  refine at_region ?_
  refine at_d rfl rfl (opr_move rfl rfl) ?_
  refine at_d rfl rfl (opr_move rfl rfl) ?_
  refine at_d rfl rfl (opr_move rfl rfl) ?_
  refine at_c rfl rfl (opr_call rfl rfl rfl Tryd.func33 (by kernel_rfl) rfl (Mul_el (iz := 4) (ix := 1) (iy := 0) (kz := 0) (kx := 0) (ky := 0) rfl (Nat.le_of_ble_eq_true rfl) rfl rfl rfl rfl rfl rfl rfl hr4 hr6)) ?_
  rintro _ _ ⟨r8, hr8, f8, rfl, rfl⟩
  refine at_nil ?_
  refine done_of (res0 Tryd.results69) ⟨r7, r8, hr7, hr8, ⟨?_, ?_⟩, rfl, rfl⟩ (by repeat (first | exact List.Sublist.refl _ | apply List.Sublist.cons))
  all_goals simp only [f0, f1, f2, f3, f4, f5, f6, f7, f8, el_24]
  all_goals clear f8 f7 f6 f5 f4 f3 f2 f1 f0
  all_goals generalize el a = y1, el b = y2, el 39081 = y6
  all_goals grind
theorem double_ct {M : Mem} {p2 p3 T2 T3 gx gz Tx Tz a b : Nat} {c2 c3 : List Value} (ha : a < RR) (hb : b < RR) : Ct Tryd.prog 59 #[.pointer (some ⟨gx, 0, none⟩), .pointer (some ⟨gz, 0, none⟩)] (⟨p3, T3, c3⟩ :: ⟨p2, T2, c2⟩ :: ⟨gz, Tz, EE [b]⟩ :: ⟨gx, Tx, EE [a]⟩ :: M) (fun v M' => ∃ r s, r < RR ∧ s < RR ∧ DblEl (el a) (el b) (el r) (el s) ∧ v = .tuple #[] ∧ M' = ⟨p3, T3, c3⟩ :: ⟨p2, T2, c2⟩ :: ⟨gz, Tz, EE [s]⟩ :: ⟨gx, Tx, EE [r]⟩ :: M) := by
  refine ct_of (vs := [.pointer (some ⟨gx, 0, none⟩), .pointer (some ⟨gz, 0, none⟩)]) Tryd.func59 rfl Tryd.ntmps59 rfl fun w0 => ?_
  refine at_region ?_
  refine at_d rfl rfl (opr_move rfl rfl) ?_
  refine at_d rfl rfl (opr_move rfl rfl) ?_
  refine at_c rfl rfl (opr_call rfl rfl rfl Tryd.func69 (by kernel_rfl) rfl (doubleGeneric_ct ha hb)) ?_
  rintro _ _ ⟨r, s, hr, hs, hD, rfl, rfl⟩
  refine at_nil ?_
  exact done_of (res0 rfl) ⟨r, s, hr, hs, hD, rfl, rfl⟩ (List.Sublist.refl _)
theorem zzDouble_ct {M : Mem} {a b : Nat} (ha : a < RR) (hb : b < RR) : Ct Tryd.prog 43 #[.agg (E a).toArray, .agg (E b).toArray] M (fun v M' => ∃ r s, r < RR ∧ s < RR ∧ DblEl (el a) (el b) (el r) (el s) ∧ v = .tuple #[.agg (E r).toArray, .agg (E s).toArray] ∧ M' = M) := by
  refine ct_of (vs := [.agg (E a).toArray, .agg (E b).toArray]) Tryd.func43 rfl Tryd.ntmps43 rfl fun w0 => ?_
  refine at_seq ?_
  refine at_region ?_
  refine at_n rfl rfl (opr_box (cs := EE [a]) rfl rfl (E_box _)) ?_
  intro g0
  refine at_n rfl rfl (opr_box (cs := EE [b]) rfl rfl (E_box _)) ?_
  intro g1
  refine at_n rfl rfl (opr_alloc rfl zero47 rfl) ?_
  intro g2
  refine at_n rfl rfl (opr_alloc rfl zero47 rfl) ?_
  intro g3
  refine at_nil ?_
  refine at_then ?_
  refine at_seq ?_
  refine at_region ?_
  refine at_c rfl rfl (opr_call rfl rfl rfl Tryd.func59 (by kernel_rfl) rfl (double_ct ha hb)) ?_
  rintro _ _ ⟨r, s, hr, hs, hD, rfl, rfl⟩
  refine at_nil ?_
  refine at_then ?_
  refine at_seq ?_
  refine at_drawG (B := [⟨g3, 47, EE [0]⟩, ⟨g2, 47, EE [0]⟩, ⟨g1, 47, EE [s]⟩, ⟨g0, 47, EE [r]⟩]) (E := [⟨.pure [3], 0, [], .v (.agg (E (r)).toArray)⟩, ⟨.pure [2], 0, [], .v (.agg (E (s)).toArray)⟩, ⟨.storeB 1, 0, EE [r], .v undef⟩, ⟨.storeB 0, 0, EE [s], .v undef⟩]) (by kernel_rfl) (by kernel_rfl) (by kernel_rfl) (fun γ0 => ?_)
  refine gs_pure rfl rfl (fun M' sB sT => ?_) ?_
  · obtain ⟨iB3, hB3⟩ := sB 3 _ rfl rfl; exact opr_load (i := iB3) rfl rfl hB3 Tryd.underlying47 rfl size47 (E_length _) (EE_at (k := 0) rfl rfl rfl)
  refine gs_pure rfl rfl (fun M' sB sT => ?_) ?_
  · obtain ⟨iB2, hB2⟩ := sB 2 _ rfl rfl; exact opr_load (i := iB2) rfl rfl hB2 Tryd.underlying47 rfl size47 (E_length _) (EE_at (k := 0) rfl rfl rfl)
  refine gs_storeB rfl rfl rfl (fun M' j hj => opr_store (i := j) rfl rfl rfl rfl hj size47 (E_length _) (by rw [EE_length]; exact Nat.le_of_ble_eq_true rfl) (E_flat _) (EE_set (k := 0) (Nat.le_of_ble_eq_true rfl) rfl)) ?_
  refine gs_storeB rfl rfl rfl (fun M' j hj => opr_store (i := j) rfl rfl rfl rfl hj size47 (E_length _) (by rw [EE_length]; exact Nat.le_of_ble_eq_true rfl) (E_flat _) (EE_set (k := 0) (Nat.le_of_ble_eq_true rfl) rfl)) ?_
  refine gs_nil ?_
  refine (show At _ _ (⟨g3, 47, EE [s]⟩ :: ⟨g2, 47, EE [r]⟩ :: ⟨g1, 47, EE [s]⟩ :: ⟨g0, 47, EE [r]⟩ :: _) _ from ?_)
  refine at_then ?_
  refine at_ret ?_
  exact done_of (res2 Tryd.results43 (res_cell (i := 1) rfl rfl Tryd.underlying47 rfl size47 (E_length _) (EE_at (k := 0) rfl rfl rfl)) (res_cell (i := 0) rfl rfl Tryd.underlying47 rfl size47 (E_length _) (EE_at (k := 0) rfl rfl rfl))) ⟨r, s, hr, hs, hD, rfl, rfl⟩ (by repeat (first | exact List.Sublist.refl _ | apply List.Sublist.cons))
theorem iDouble_ct {M : Mem} {ig Tp : Nat} (hG : M[ig]? = some ⟨0, Tp, EE [pp]⟩) {a b : Nat} (ha : a < RR) (hb : b < RR) : Ct Tryd.prog 25 #[.agg (E a).toArray, .agg (E b).toArray] M (fun v M' => ∃ r s, r < pp ∧ s < pp ∧ DblEl (el a) (el b) (el r) (el s) ∧ v = .tuple #[.agg (E r).toArray, .agg (E s).toArray] ∧ M' = M) := by
  refine ct_of (vs := [.agg (E a).toArray, .agg (E b).toArray]) Tryd.func25 rfl Tryd.ntmps25 rfl fun w0 => ?_
  refine at_seq ?_
  refine at_region ?_
  refine at_n rfl rfl (opr_box (cs := EE [a]) rfl rfl (E_box _)) ?_
  intro g0
  refine at_n rfl rfl (opr_box (cs := EE [b]) rfl rfl (E_box _)) ?_
  intro g1
  refine at_n rfl rfl (opr_alloc rfl zero22 rfl) ?_
  intro g2
  refine at_n rfl rfl (opr_alloc rfl zero22 rfl) ?_
  intro g3
  refine at_nil ?_
  refine at_then ?_
  refine at_seq ?_
  refine at_region ?_
  refine at_d rfl rfl (opr_load (i := 3) rfl rfl rfl Tryd.underlying22 rfl size22 (E_length _) (EE_at (k := 0) rfl rfl rfl)) ?_
  refine at_d rfl rfl (opr_load (i := 2) rfl rfl rfl Tryd.underlying22 rfl size22 (E_length _) (EE_at (k := 0) rfl rfl rfl)) ?_
  refine at_c rfl rfl (opr_call rfl rfl rfl Tryd.func43 (by kernel_rfl) rfl (zzDouble_ct ha hb)) ?_
  rintro _ _ ⟨r, s, hr, hs, hD, rfl, rfl⟩
  refine at_d rfl rfl (opr_move rfl rfl) ?_
  refine at_d rfl rfl (opr_extract rfl rfl rfl) ?_
  refine at_d rfl rfl (opr_extract rfl rfl rfl) ?_
  refine at_n rfl rfl (opr_alloc rfl zero47 rfl) ?_
  intro g4
  refine at_n rfl rfl (opr_alloc rfl zero47 rfl) ?_
  intro g5
  refine at_d rfl rfl (opr_store (i := 1) rfl rfl rfl rfl rfl size47 (E_length _) (by rw [EE_length]; exact Nat.le_of_ble_eq_true rfl) (E_flat _) (EE_set (k := 0) (Nat.le_of_ble_eq_true rfl) rfl)) ?_
  refine at_d rfl rfl (opr_store (i := 0) rfl rfl rfl rfl rfl size47 (E_length _) (by rw [EE_length]; exact Nat.le_of_ble_eq_true rfl) (E_flat _) (EE_set (k := 0) (Nat.le_of_ble_eq_true rfl) rfl)) ?_
  refine at_nil ?_
  refine at_then ?_
  refine at_seq ?_
  refine at_drawG (B := [⟨g5, 47, EE [s]⟩, ⟨g4, 47, EE [r]⟩, ⟨g3, 22, EE [0]⟩, ⟨g2, 22, EE [0]⟩, ⟨g1, 22, EE [b]⟩, ⟨g0, 22, EE [a]⟩]) (E := [⟨.pure [1], 0, [], .v (.agg (E (r)).toArray)⟩, ⟨.pure [], 0, [], .v (.agg (E ((r % pp))).toArray)⟩, ⟨.pure [0], 0, [], .v (.agg (E (s)).toArray)⟩, ⟨.pure [], 0, [], .v (.agg (E ((s % pp))).toArray)⟩, ⟨.storeB 3, 0, EE [(r % pp)], .v undef⟩, ⟨.storeB 2, 0, EE [(s % pp)], .v undef⟩]) (by kernel_rfl) (by kernel_rfl) (by kernel_rfl) (fun γ0 => ?_)
  refine gs_pure rfl rfl (fun M' sB sT => ?_) ?_
  · obtain ⟨iB1, hB1⟩ := sB 1 _ rfl rfl; exact opr_load (i := iB1) rfl rfl hB1 Tryd.underlying47 rfl size47 (E_length _) (EE_at (k := 0) rfl rfl rfl)
  refine gs_pure rfl rfl (fun M' sB sT => ?_) ?_
  · obtain ⟨iT0, hT0⟩ := sT _ _ hG; exact opr_call rfl rfl rfl Tryd.func32 (by kernel_rfl) rfl (reduced_ct (ig := iT0) hT0 hr)
  refine gs_pure rfl rfl (fun M' sB sT => ?_) ?_
  · obtain ⟨iB0, hB0⟩ := sB 0 _ rfl rfl; exact opr_load (i := iB0) rfl rfl hB0 Tryd.underlying47 rfl size47 (E_length _) (EE_at (k := 0) rfl rfl rfl)
  refine gs_pure rfl rfl (fun M' sB sT => ?_) ?_
  · obtain ⟨iT0, hT0⟩ := sT _ _ hG; exact opr_call rfl rfl rfl Tryd.func32 (by kernel_rfl) rfl (reduced_ct (ig := iT0) hT0 hs)
  refine gs_storeB rfl rfl rfl (fun M' j hj => opr_store (i := j) rfl rfl rfl rfl hj size22 (E_length _) (by rw [EE_length]; exact Nat.le_of_ble_eq_true rfl) (E_flat _) (EE_set (k := 0) (Nat.le_of_ble_eq_true rfl) rfl)) ?_
  refine gs_storeB rfl rfl rfl (fun M' j hj => opr_store (i := j) rfl rfl rfl rfl hj size22 (E_length _) (by rw [EE_length]; exact Nat.le_of_ble_eq_true rfl) (E_flat _) (EE_set (k := 0) (Nat.le_of_ble_eq_true rfl) rfl)) ?_
  refine gs_nil ?_
  refine (show At _ _ (⟨g5, 47, EE [s]⟩ :: ⟨g4, 47, EE [r]⟩ :: ⟨g3, 22, EE [(s % pp)]⟩ :: ⟨g2, 22, EE [(r % pp)]⟩ :: ⟨g1, 22, EE [b]⟩ :: ⟨g0, 22, EE [a]⟩ :: _) _ from ?_)
  refine at_then ?_
  refine at_ret ?_
  exact done_of (res2 Tryd.results25 (res_cell (i := 3) rfl rfl Tryd.underlying22 rfl size22 (E_length _) (EE_at (k := 0) rfl rfl rfl)) (res_cell (i := 2) rfl rfl Tryd.underlying22 rfl size22 (E_length _) (EE_at (k := 0) rfl rfl rfl))) ⟨_, _, lt_pp r, lt_pp s, dbl_mod hD, rfl, rfl⟩ (by repeat (first | exact List.Sublist.refl _ | apply List.Sublist.cons))
theorem built_nzero : Tryd.prog.built 25 [] = some (List.replicate 28 (Value.int .u64 0)).toArray := by kernel_rfl
theorem N_zero0 : List.replicate 28 (Value.int .u64 0) = N 0 := rfl
theorem fnDoubleIs_ct {M : Mem} {ig Tp : Nat} (hG : M[ig]? = some ⟨0, Tp, EE [pp]⟩) {a b : Nat} (ha : a < RR) (hb : b < RR) : Ct Tryd.prog 6 #[.agg (E a).toArray, .agg (E b).toArray] M (Det (.bool true) M) := by
  obtain ⟨q1, q2, q3, q4, hq, lq1, lq2, lq3, lq4, hQ⟩ := stepL_ex 0 a b 0 0
  have hq : stepL 0 (sel 0 a 0) (sel 0 b 0) (sel 0 0 a) (sel 0 0 b) = _ := hq
  refine ct_of (vs := [.agg (E a).toArray, .agg (E b).toArray]) Tryd.func6 rfl Tryd.ntmps6 rfl fun w0 => ?_
  refine at_seq ?_
  refine at_region ?_
  refine at_n rfl rfl (opr_box (cs := EE [a]) rfl rfl (E_box _)) ?_
  intro g0
  refine at_n rfl rfl (opr_box (cs := EE [b]) rfl rfl (E_box _)) ?_
  intro g1
  refine at_d rfl rfl (opr_assign rfl rfl) ?_
  refine at_nil ?_
  refine at_then ?_
  refine at_seq ?_
  refine at_drawG (B := [⟨g1, 22, EE [b]⟩, ⟨g0, 22, EE [a]⟩]) (E := [⟨.pure [], 0, [], .v (.agg (N (0)).toArray)⟩, ⟨.pure [1], 0, [], .v (.agg (E (a)).toArray)⟩, ⟨.pure [], 0, [], .v (.agg (N (a)).toArray)⟩, ⟨.pure [0], 0, [], .v (.agg (E (b)).toArray)⟩, ⟨.pure [], 0, [], .v (.agg (N (b)).toArray)⟩, ⟨.pure [], 0, [], .v (.agg (NN [0, a, b, 0, 0]).toArray)⟩, ⟨.pure [], 0, [], .v (.agg (NN [0 % pp, q1, q2, q3, q4]).toArray)⟩, ⟨.alloc, 39, NN [0, 0, 0, 0, 0], .p 7 0⟩, ⟨.storeA 7, 0, NN [0 % pp, q1, q2, q3, q4], .v undef⟩]) (by kernel_rfl) (by kernel_rfl) (by kernel_rfl) (fun γ0 => ?_)
  refine gs_pure rfl rfl (fun M' sB sT => ?_) ?_
  · exact opr_buildE rfl rfl built_nzero N_zero0
  refine gs_pure rfl rfl (fun M' sB sT => ?_) ?_
  · obtain ⟨iB1, hB1⟩ := sB 1 _ rfl rfl; exact opr_load (i := iB1) rfl rfl hB1 Tryd.underlying22 rfl size22 (E_length _) (EE_at (k := 0) rfl rfl rfl)
  refine gs_pure rfl rfl (fun M' sB sT => ?_) ?_
  · exact opr_call rfl rfl rfl Tryd.func11 (by kernel_rfl) rfl (of_ct _)
  refine gs_pure rfl rfl (fun M' sB sT => ?_) ?_
  · obtain ⟨iB0, hB0⟩ := sB 0 _ rfl rfl; exact opr_load (i := iB0) rfl rfl hB0 Tryd.underlying22 rfl size22 (E_length _) (EE_at (k := 0) rfl rfl rfl)
  refine gs_pure rfl rfl (fun M' sB sT => ?_) ?_
  · exact opr_call rfl rfl rfl Tryd.func11 (by kernel_rfl) rfl (of_ct _)
  refine gs_pure rfl rfl (fun M' sB sT => ?_) ?_
  · exact opr_buildE rfl rfl (built_nn [(0, 0), (1, a), (2, b)] rfl) rfl
  refine gs_pure rfl rfl (fun M' sB sT => ?_) ?_
  · exact opr_call rfl rfl rfl Tryd.func24 (by kernel_rfl) rfl (sStep_ct (t := 0) (.inl rfl) RR_zero ha hb RR_zero RR_zero hq)
  refine gs_alloc rfl rfl (fun M' => opr_alloc rfl zero39 rfl) ?_
  refine gs_storeA rfl rfl rfl rfl rfl (fun M' j hj => opr_store (i := j) rfl rfl rfl rfl hj size39 (NN_length _) (by rw [NN_length]; exact Nat.le_of_ble_eq_true rfl) (NN_flat _) (NN_over rfl)) ?_
  refine gs_nil ?_
  refine (show At _ _ (⟨(γ0 7), 39, NN [0 % pp, q1, q2, q3, q4]⟩ :: ⟨g1, 22, EE [b]⟩ :: ⟨g0, 22, EE [a]⟩ :: _) _ from ?_)
  refine at_then ?_
  refine at_seq ?_
  refine at_region ?_
  refine at_d rfl rfl (opr_load (i := 2) rfl rfl rfl Tryd.underlying22 rfl size22 (E_length _) (EE_at (k := 0) rfl rfl rfl)) ?_
  refine at_d rfl rfl (opr_load (i := 1) rfl rfl rfl Tryd.underlying22 rfl size22 (E_length _) (EE_at (k := 0) rfl rfl rfl)) ?_
  refine at_c rfl rfl (opr_call rfl rfl rfl Tryd.func25 (by kernel_rfl) rfl (iDouble_ct (ig := ig + 3) hG ha hb)) ?_
  rintro _ _ ⟨r, s, hr, hs, hD, rfl, rfl⟩
  obtain ⟨e1, e2⟩ := dbl_uniq hD hQ.d
  refine at_d rfl rfl (opr_move rfl rfl) ?_
  refine at_d rfl rfl (opr_extract rfl rfl rfl) ?_
  refine at_d rfl rfl (opr_extract rfl rfl rfl) ?_
  refine at_n rfl rfl (opr_alloc rfl zero22 rfl) ?_
  intro g2
  refine at_n rfl rfl (opr_alloc rfl zero22 rfl) ?_
  intro g3
  refine at_d rfl rfl (opr_store (i := 1) rfl rfl rfl rfl rfl size22 (E_length _) (by rw [EE_length]; exact Nat.le_of_ble_eq_true rfl) (E_flat _) (EE_set (k := 0) (Nat.le_of_ble_eq_true rfl) rfl)) ?_
  refine at_d rfl rfl (opr_store (i := 0) rfl rfl rfl rfl rfl size22 (E_length _) (by rw [EE_length]; exact Nat.le_of_ble_eq_true rfl) (E_flat _) (EE_set (k := 0) (Nat.le_of_ble_eq_true rfl) rfl)) ?_
  refine at_nil ?_
  refine at_then ?_
  refine at_seq ?_
  refine at_region ?_
  refine at_d rfl rfl (opr_load (i := 1) rfl rfl rfl Tryd.underlying22 rfl size22 (E_length _) (EE_at (k := 0) rfl rfl rfl)) ?_
  refine at_d rfl rfl (opr_indexAddr (j := 1) rfl rfl rfl Tryd.underlying39 (by decide) size25 rfl) ?_
  refine at_d rfl rfl (opr_load (i := 2) rfl rfl rfl Tryd.underlying25 rfl size25 (N_length _) (NN_at (k := 1) rfl rfl rfl)) ?_
  refine at_d rfl rfl (opr_call rfl rfl rfl Tryd.func20 (by kernel_rfl) rfl (is_true (eq_of_el hr lq1 e1) (pp_RR lq1))) ?_
  refine at_d rfl rfl (opr_move rfl rfl) ?_
  refine at_d rfl rfl (opr_load (i := 0) rfl rfl rfl Tryd.underlying22 rfl size22 (E_length _) (EE_at (k := 0) rfl rfl rfl)) ?_
  refine at_d rfl rfl (opr_indexAddr (j := 2) rfl rfl rfl Tryd.underlying39 (by decide) size25 rfl) ?_
  refine at_d rfl rfl (opr_load (i := 2) rfl rfl rfl Tryd.underlying25 rfl size25 (N_length _) (NN_at (k := 2) rfl rfl rfl)) ?_
  refine at_d rfl rfl (opr_call rfl rfl rfl Tryd.func20 (by kernel_rfl) rfl (is_true (eq_of_el hs lq2 e2) (pp_RR lq2))) ?_
  refine at_d rfl rfl (opr_pickT rfl rfl rfl) ?_
  refine at_d rfl rfl (opr_assign rfl rfl) ?_
  refine at_nil ?_
  refine at_then ?_
  refine at_ret ?_
  refine done_of (res1 Tryd.results6 (res_tmp rfl)) ⟨rfl, rfl⟩ (by repeat (first | exact List.Sublist.refl _ | apply List.Sublist.cons))
theorem zzStep_ct {t : Nat} (ht : t = 0 ∨ t = 1) {M : Mem} {a0 a1 a2 a3 a4 : Nat} (ha0 : a0 < RR) (ha1 : a1 < RR) (ha2 : a2 < RR) (ha3 : a3 < RR) (ha4 : a4 < RR) : Ct Tryd.prog 44 #[.agg (EE [a0, a1, a2, a3, a4]).toArray, .int .u64 (t : Int)] M (fun v M' => ∃ r1 r2 r3 r4, r1 < RR ∧ r2 < RR ∧ r3 < RR ∧ r4 < RR ∧ StepEl (el a0) (el (sel t a1 a3)) (el (sel t a2 a4)) (el (sel t a3 a1)) (el (sel t a4 a2)) (el r1) (el r2) (el r3) (el r4) ∧ v = .agg (EE [a0, r1, r2, r3, r4]).toArray ∧ M' = M) := by
  refine ct_of (vs := [.agg (EE [a0, a1, a2, a3, a4]).toArray, .int .u64 (t : Int)]) Tryd.func44 rfl Tryd.ntmps44 rfl fun w0 => ?_
  refine at_seq ?_
  refine at_region ?_
  refine at_n rfl rfl (opr_box rfl rfl rfl) ?_
  intro g0
  refine at_n rfl rfl (opr_alloc rfl zero63 rfl) ?_
  intro g1
  refine at_nil ?_
  refine at_then ?_
  refine at_seq ?_
  refine at_region ?_
  refine at_d rfl rfl (opr_move rfl rfl) ?_
  refine at_c rfl rfl (opr_call rfl rfl rfl Tryd.func60 (by kernel_rfl) rfl (ladderStep_ct ht (iw := 1) rfl ha0 ha1 ha2 ha3 ha4)) ?_
  rintro _ _ ⟨r1, r2, r3, r4, hr1, hr2, hr3, hr4, hS, rfl, rfl⟩
  refine at_nil ?_
  refine at_then ?_
  refine at_seq ?_
  refine at_region ?_
  refine at_d rfl rfl (opr_load (i := 1) rfl rfl rfl Tryd.underlying63 rfl size63 (EE_length _) (EE_all rfl)) ?_
  refine at_d rfl rfl (opr_store (i := 0) rfl rfl rfl rfl rfl size63 (EE_length _) (by rw [EE_length]; exact Nat.le_of_ble_eq_true rfl) (EE_flat _) (EE_over rfl)) ?_
  refine at_nil ?_
  refine at_then ?_
  refine at_ret ?_
  refine done_of (res1 Tryd.results44 (res_cell (i := 0) rfl rfl Tryd.underlying63 rfl size63 (EE_length _) (EE_all rfl))) ⟨r1, r2, r3, r4, hr1, hr2, hr3, hr4, hS, rfl, rfl⟩ (by repeat (first | exact List.Sublist.refl _ | apply List.Sublist.cons))
theorem iStep_ct {t : Nat} (ht : t = 0 ∨ t = 1) {M : Mem} {ig Tp : Nat} (hG : M[ig]? = some ⟨0, Tp, EE [pp]⟩) {a0 a1 a2 a3 a4 : Nat} (ha0 : a0 < RR) (ha1 : a1 < RR) (ha2 : a2 < RR) (ha3 : a3 < RR) (ha4 : a4 < RR) : Ct Tryd.prog 26 #[.agg (EE [a0, a1, a2, a3, a4]).toArray, .int .u64 (t : Int)] M (fun v M' => ∃ r1 r2 r3 r4, r1 < pp ∧ r2 < pp ∧ r3 < pp ∧ r4 < pp ∧ StepEl (el a0) (el (sel t a1 a3)) (el (sel t a2 a4)) (el (sel t a3 a1)) (el (sel t a4 a2)) (el r1) (el r2) (el r3) (el r4) ∧ v = .agg (EE [a0 % pp, r1, r2, r3, r4]).toArray ∧ M' = M) := by
  refine ct_of (vs := [.agg (EE [a0, a1, a2, a3, a4]).toArray, .int .u64 (t : Int)]) Tryd.func26 rfl Tryd.ntmps26 rfl fun w0 => ?_
  refine at_seq ?_
  refine at_region ?_
  refine at_n rfl rfl (opr_box rfl rfl rfl) ?_
  intro g0
  refine at_n rfl rfl (opr_alloc rfl zero43 rfl) ?_
  intro g1
  refine at_nil ?_
  refine at_then ?_
  refine at_seq ?_
  refine at_region ?_
  refine at_n rfl rfl (opr_alloc rfl zero63 rfl) ?_
  intro g2
  refine at_nil ?_
  refine at_then ?_
  refine at_seq ?_
  refine at_seq ?_
  refine at_region ?_
  refine at_d rfl rfl (opr_move rfl rfl) ?_
  refine at_nil ?_
  refine at_then ?_
  refine at_block ?_
  refine at_loop (fun (x : Nat) => [(2, .pointer (some ⟨g0, 0, none⟩)), (4, .pointer (some ⟨g1, 0, none⟩)), (5, .pointer (some ⟨g2, 0, none⟩)), (1, .int .u64 (t : Int)), (8, .int .i64 (x : Int))]) (fun (x : Nat) => ⟨g2, 63, EE (mixl [a0, a1, a2, a3, a4] [0, 0, 0, 0, 0] x)⟩ :: ⟨g1, 43, EE [0, 0, 0, 0, 0]⟩ :: ⟨g0, 43, EE [a0, a1, a2, a3, a4]⟩ :: M) (fun (x : Nat) => 5 - x) (fun (x : Nat) => x ≤ 5) 0 (Nat.zero_le _) (allIn ⟨rfl, rfl, rfl, rfl, rfl, trivial⟩) (by simp only [mixl_zero]; exact List.Sublist.refl _) ?_
  intro k hk
  dsimp only
  refine at_seq ?_
  refine at_region ?_
  refine at_d rfl rfl (opr_lss (a := k) (b := 5) rfl rfl rfl) ?_
  refine at_nil ?_
  refine at_then ?_
  refine at_seq ?_
  refine at_cond rfl (fun ht2 => ?_) (fun ht2 => ?_)
  ·
    have hlt : k < 5 := of_decide_eq_true ht2
    refine at_skip ?_
    refine at_then ?_
    refine at_seq ?_
    refine at_block ?_
    refine at_seq ?_
    refine at_region ?_
    refine at_d rfl rfl (opr_move rfl rfl) ?_
    refine at_d rfl rfl (opr_assign rfl rfl) ?_
    refine at_nil ?_
    refine at_then ?_
    refine at_region ?_
    refine at_d rfl rfl (opr_move rfl rfl) ?_
    refine at_d rfl rfl (opr_move rfl rfl) ?_
    refine at_d rfl rfl (opr_indexAddr (j := k) (off' := k * 56) rfl rfl rfl Tryd.underlying43 hlt size22 (Nat.zero_add _)) ?_
    refine at_d rfl rfl (opr_load (i := 2) rfl rfl rfl Tryd.underlying22 rfl size22 (E_length _) (EE_at (k := k) (getD_some (by rw [show List.length [a0, a1, a2, a3, a4] = 5 from rfl]; exact hlt)) (Nat.mul_comm _ _) rfl)) ?_
    refine at_d rfl rfl (opr_indexAddr (j := k) (off' := k * 56) rfl rfl rfl Tryd.underlying63 hlt size47 (Nat.zero_add _)) ?_
    refine at_d rfl rfl (opr_store (i := 0) rfl rfl rfl rfl rfl size47 (E_length _) (by rw [EE_length, mixl_length (m := [a0, a1, a2, a3, a4]) (l := [0, 0, 0, 0, 0]) (n := 5) rfl rfl hk]; omega) (E_flat _) ((EE_set (k := k) (by rw [mixl_length (m := [a0, a1, a2, a3, a4]) (l := [0, 0, 0, 0, 0]) (n := 5) rfl rfl hk]; exact hlt) (Nat.mul_comm _ _)).trans (congrArg EE (mixl_put rfl rfl hlt (getD_some hlt))))) ?_
    refine at_nil ?_
    refine at_inBlock_normal ?_
    refine at_then ?_
    refine at_region ?_
    refine at_d rfl rfl (opr_addI (a := k) (b := 1) rfl rfl rfl (by omega)) ?_
    refine at_d rfl rfl (opr_move rfl rfl) ?_
    refine at_nil ?_
    exact at_round (k + 1) (by omega) (by omega) (allIn ⟨rfl, rfl, rfl, rfl, rfl, trivial⟩) (List.Sublist.refl _)
  ·
    obtain rfl : k = 5 := by have := of_decide_eq_false ht2; omega
    refine at_exit ?_
    refine at_then_exit ?_
    refine at_then_exit ?_
    refine at_inBlock_same ?_
    refine at_then ?_
    refine at_seq ?_
    refine at_region ?_
    refine at_d rfl rfl (opr_load (i := 0) rfl rfl rfl Tryd.underlying63 rfl size63 (EE_length _) ((congrArg (fun l => ((EE l).drop 0).take 280) (mixl_end (m := [a0, a1, a2, a3, a4]) (l := [0, 0, 0, 0, 0]) rfl rfl)).trans (EE_all rfl))) ?_
    refine at_d rfl rfl (opr_move rfl rfl) ?_
    refine at_c rfl rfl (opr_call rfl rfl rfl Tryd.func44 (by kernel_rfl) rfl (zzStep_ct ht ha0 ha1 ha2 ha3 ha4)) ?_
    rintro _ _ ⟨r1, r2, r3, r4, hr1, hr2, hr3, hr4, hS, rfl, rfl⟩
    refine at_d rfl rfl (opr_store (i := 0) rfl rfl rfl rfl rfl size63 (EE_length _) (by rw [EE_length, mixl_length (m := [a0, a1, a2, a3, a4]) (l := [0, 0, 0, 0, 0]) (n := 5) rfl rfl (Nat.le_refl _)]; exact Nat.le_refl _) (EE_flat _) (EE_over (mixl_length (m := [a0, a1, a2, a3, a4]) (l := [0, 0, 0, 0, 0]) (n := 5) rfl rfl (Nat.le_refl _)))) ?_
    refine at_nil ?_
    refine at_then ?_
    refine at_seq ?_
    refine at_seq ?_
    refine at_region ?_
    refine at_d rfl rfl (opr_move rfl rfl) ?_
    refine at_nil ?_
    refine at_then ?_
    refine at_block ?_
    have hRL : ∀ x ∈ [a0, r1, r2, r3, r4], x < RR := five_lt ha0 hr1 hr2 hr3 hr4
    refine at_loop (fun (x : Nat) => [(2, .pointer (some ⟨g0, 0, none⟩)), (4, .pointer (some ⟨g1, 0, none⟩)), (5, .pointer (some ⟨g2, 0, none⟩)), (20, .int .i64 (x : Int))]) (fun (x : Nat) => ⟨g2, 63, EE [a0, r1, r2, r3, r4]⟩ :: ⟨g1, 43, EE [0, 0, 0, 0, 0]⟩ :: ⟨g0, 43, EE (mixl ([a0, r1, r2, r3, r4].map (· % pp)) [a0, a1, a2, a3, a4] x)⟩ :: M) (fun (x : Nat) => 5 - x) (fun (x : Nat) => x ≤ 5) 0 (Nat.zero_le _) (allIn ⟨rfl, rfl, rfl, rfl, trivial⟩) (by simp only [mixl_zero]; exact List.Sublist.refl _) ?_
    intro k hk
    dsimp only
    refine at_seq ?_
    refine at_region ?_
    refine at_d rfl rfl (opr_lss (a := k) (b := 5) rfl rfl rfl) ?_
    refine at_nil ?_
    refine at_then ?_
    refine at_seq ?_
    refine at_cond rfl (fun ht2 => ?_) (fun ht2 => ?_)
    ·
      have hlt : k < 5 := of_decide_eq_true ht2
      refine at_skip ?_
      refine at_then ?_
      refine at_seq ?_
      refine at_block ?_
      refine at_seq ?_
      refine at_region ?_
      refine at_d rfl rfl (opr_move rfl rfl) ?_
      refine at_d rfl rfl (opr_assign rfl rfl) ?_
      refine at_nil ?_
      refine at_then ?_
      refine at_region ?_
      refine at_d rfl rfl (opr_move rfl rfl) ?_
      refine at_d rfl rfl (opr_move rfl rfl) ?_
      refine at_d rfl rfl (opr_indexAddr (j := k) (off' := k * 56) rfl rfl rfl Tryd.underlying63 hlt size47 (Nat.zero_add _)) ?_
      refine at_d rfl rfl (opr_load (i := 0) rfl rfl rfl Tryd.underlying47 rfl size47 (E_length _) (EE_at (k := k) (getD_some (by rw [show List.length [a0, r1, r2, r3, r4] = 5 from rfl]; exact hlt)) (Nat.mul_comm _ _) rfl)) ?_
      refine at_d rfl rfl (opr_call rfl rfl rfl Tryd.func32 (by kernel_rfl) rfl (reduced_ct (ig := ig + 3) hG (getD_lt RR_zero hRL k))) ?_
      refine at_d rfl rfl (opr_indexAddr (j := k) (off' := k * 56) rfl rfl rfl Tryd.underlying43 hlt size22 (Nat.zero_add _)) ?_
      refine at_d rfl rfl (opr_store (i := 2) rfl rfl rfl rfl rfl size22 (E_length _) (by rw [EE_length, mixl_length (m := [a0, r1, r2, r3, r4].map (· % pp)) (l := [a0, a1, a2, a3, a4]) (n := 5) rfl rfl hk]; omega) (E_flat _) ((EE_set (k := k) (by rw [mixl_length (m := [a0, r1, r2, r3, r4].map (· % pp)) (l := [a0, a1, a2, a3, a4]) (n := 5) rfl rfl hk]; exact hlt) (Nat.mul_comm _ _)).trans (congrArg EE (mixl_put rfl rfl hlt (map_getD hlt))))) ?_
      refine at_nil ?_
      refine at_inBlock_normal ?_
      refine at_then ?_
      refine at_region ?_
      refine at_d rfl rfl (opr_addI (a := k) (b := 1) rfl rfl rfl (by omega)) ?_
      refine at_d rfl rfl (opr_move rfl rfl) ?_
      refine at_nil ?_
      exact at_round (k + 1) (by omega) (by omega) (allIn ⟨rfl, rfl, rfl, rfl, trivial⟩) (List.Sublist.refl _)
    ·
      obtain rfl : k = 5 := by have := of_decide_eq_false ht2; omega
      refine at_exit ?_
      refine at_then_exit ?_
      refine at_then_exit ?_
      refine at_inBlock_same ?_
      refine at_then ?_
      refine at_seq ?_
      refine at_region ?_
      refine at_d rfl rfl (opr_load (i := 2) rfl rfl rfl Tryd.underlying43 rfl size43 (EE_length _) ((congrArg (fun l => ((EE l).drop 0).take 280) (mixl_end (m := [a0, r1, r2, r3, r4].map (· % pp)) (l := [a0, a1, a2, a3, a4]) rfl rfl)).trans (EE_all rfl))) ?_
      refine at_d rfl rfl (opr_store (i := 1) rfl rfl rfl rfl rfl size43 (EE_length _) (by rw [EE_length]; exact Nat.le_of_ble_eq_true rfl) (EE_flat _) (EE_over rfl)) ?_
      refine at_nil ?_
      refine at_then ?_
      refine at_ret ?_
      refine done_of (res1 Tryd.results26 (res_cell (i := 1) rfl rfl Tryd.underlying43 rfl size43 (EE_length _) (EE_all rfl))) ⟨_, _, _, _, lt_pp r1, lt_pp r2, lt_pp r3, lt_pp r4, by simp only [el_mod]; exact hS, rfl, rfl⟩ (by repeat (first | exact List.Sublist.refl _ | apply List.Sublist.cons))
theorem fnStepIs_ct0 {M : Mem} {ig Tp : Nat} (hG : M[ig]? = some ⟨0, Tp, EE [pp]⟩) {a0 a1 a2 a3 a4 : Nat} (ha0 : a0 < RR) (ha1 : a1 < RR) (ha2 : a2 < RR) (ha3 : a3 < RR) (ha4 : a4 < RR) : Ct Tryd.prog 7 #[.agg (EE [a0, a1, a2, a3, a4]).toArray, .bool false] M (Det (.bool true) M) := by
  obtain ⟨q1, q2, q3, q4, hq, lq1, lq2, lq3, lq4, hQ⟩ := stepL_ex a0 (sel 0 a1 a3) (sel 0 a2 a4) (sel 0 a3 a1) (sel 0 a4 a2)
  refine ct_of (vs := [.agg (EE [a0, a1, a2, a3, a4]).toArray, .bool false]) Tryd.func7 rfl Tryd.ntmps7 rfl fun w0 => ?_
  refine at_seq ?_
  refine at_region ?_
  refine at_n rfl rfl (opr_box rfl rfl rfl) ?_
  intro g0
  refine at_d rfl rfl (opr_assign rfl rfl) ?_
  refine at_nil ?_
  refine at_then ?_
  refine at_seq ?_
  refine at_region ?_
  refine at_d rfl rfl (opr_buildE rfl rfl (built_nn [] rfl) rfl) ?_
  refine at_n rfl rfl (opr_alloc rfl zero39 rfl) ?_
  intro g1
  refine at_d rfl rfl (opr_store (i := 0) rfl rfl rfl rfl rfl size39 (NN_length _) (by rw [NN_length]; exact Nat.le_of_ble_eq_true rfl) (NN_flat _) (NN_over rfl)) ?_
  refine at_nil ?_
  refine at_then ?_
  refine at_seq ?_
  refine at_seq ?_
  refine at_region ?_
  refine at_d rfl rfl (opr_load (i := 1) rfl rfl rfl Tryd.underlying43 rfl size43 (EE_length _) (EE_all rfl)) ?_
  refine at_d rfl rfl (opr_move rfl rfl) ?_
  refine at_nil ?_
  refine at_then ?_
  refine at_block ?_
  refine at_loop (fun (x : Nat) => [(1, .bool false), (2, .pointer (some ⟨g0, 0, none⟩)), (5, .pointer (some ⟨g1, 0, none⟩)), (14, .agg (EE [a0, a1, a2, a3, a4]).toArray), (15, .int .i64 (x : Int))]) (fun (x : Nat) => ⟨g1, 39, NN (mixl [a0, a1, a2, a3, a4] [0, 0, 0, 0, 0] x)⟩ :: ⟨g0, 43, EE [a0, a1, a2, a3, a4]⟩ :: M) (fun (x : Nat) => 5 - x) (fun (x : Nat) => x ≤ 5) 0 (Nat.zero_le _) (allIn ⟨rfl, rfl, rfl, rfl, rfl, trivial⟩) (by simp only [mixl_zero]; exact List.Sublist.refl _) ?_
  intro k hk
  dsimp only
  refine at_seq ?_
  refine at_region ?_
  refine at_d rfl rfl (opr_lss (a := k) (b := 5) rfl rfl rfl) ?_
  refine at_nil ?_
  refine at_then ?_
  refine at_seq ?_
  refine at_cond rfl (fun ht2 => ?_) (fun ht2 => ?_)
  ·
    have hlt : k < 5 := of_decide_eq_true ht2
    refine at_skip ?_
    refine at_then ?_
    refine at_seq ?_
    refine at_block ?_
    refine at_seq ?_
    refine at_region ?_
    refine at_d rfl rfl (opr_move rfl rfl) ?_
    refine at_d rfl rfl (opr_index (j := k) rfl rfl rfl Tryd.underlying43 hlt size22 Tryd.underlying22 rfl (EE_at (k := k) (getD_some (show k < List.length [a0, a1, a2, a3, a4] from hlt)) (Nat.mul_comm _ _) rfl)) ?_
    refine at_n rfl rfl (opr_alloc rfl zero22 rfl) ?_
    intro g2
    refine at_d rfl rfl (opr_assign rfl rfl) ?_
    refine at_d rfl rfl (opr_store (i := 0) rfl rfl rfl rfl rfl size22 (E_length _) (by rw [EE_length]; exact Nat.le_of_ble_eq_true rfl) (E_flat _) (EE_set (k := 0) (Nat.le_of_ble_eq_true rfl) rfl)) ?_
    refine at_nil ?_
    refine at_then ?_
    refine at_region ?_
    refine at_d rfl rfl (opr_move rfl rfl) ?_
    refine at_d rfl rfl (opr_load (i := 0) rfl rfl rfl Tryd.underlying22 rfl size22 (E_length _) (EE_at (k := 0) rfl rfl rfl)) ?_
    refine at_d rfl rfl (opr_call rfl rfl rfl Tryd.func11 (by kernel_rfl) rfl (of_ct _)) ?_
    refine at_d rfl rfl (opr_indexAddr (j := k) (off' := k * 28) rfl rfl rfl Tryd.underlying39 hlt size25 (Nat.zero_add _)) ?_
    refine at_d rfl rfl (opr_store (i := 1) rfl rfl rfl rfl rfl size25 (N_length _) (by rw [NN_length, mixl_length (m := [a0, a1, a2, a3, a4]) (l := [0, 0, 0, 0, 0]) (n := 5) rfl rfl hk]; omega) (N_flat _) ((NN_set (k := k) (by rw [mixl_length (m := [a0, a1, a2, a3, a4]) (l := [0, 0, 0, 0, 0]) (n := 5) rfl rfl hk]; exact hlt) (Nat.mul_comm _ _)).trans (congrArg NN (mixl_put rfl rfl hlt (getD_some hlt))))) ?_
    refine at_nil ?_
    refine at_inBlock_normal ?_
    refine at_then ?_
    refine at_region ?_
    refine at_d rfl rfl (opr_addI (a := k) (b := 1) rfl rfl rfl (by omega)) ?_
    refine at_d rfl rfl (opr_move rfl rfl) ?_
    refine at_nil ?_
    exact at_round (k + 1) (by omega) (by omega) (allIn ⟨rfl, rfl, rfl, rfl, rfl, trivial⟩) (by repeat (first | exact List.Sublist.refl _ | apply List.Sublist.cons))
  ·
    obtain rfl : k = 5 := by have := of_decide_eq_false ht2; omega
    refine at_exit ?_
    refine at_then_exit ?_
    refine at_then_exit ?_
    refine at_inBlock_same ?_
    refine at_then ?_
    refine at_seq ?_
    refine at_region ?_
    refine at_d rfl rfl (opr_assign rfl rfl) ?_
    refine at_nil ?_
    refine at_then ?_
    refine at_seq ?_
    refine at_seq ?_
    refine at_region ?_
    refine at_d rfl rfl (opr_move rfl rfl) ?_
    refine at_nil ?_
    refine at_then ?_
    refine at_cond_false rfl ?_
    refine at_skip ?_
    refine at_then ?_
    refine at_seq ?_
    refine at_region ?_
    refine at_d rfl rfl (opr_load (i := 0) rfl rfl rfl Tryd.underlying39 rfl size39 (NN_length _) ((congrArg (fun l => ((NN l).drop 0).take 140) (mixl_end (m := [a0, a1, a2, a3, a4]) (l := [0, 0, 0, 0, 0]) rfl rfl)).trans (NN_all rfl))) ?_
    refine at_d rfl rfl (opr_move rfl rfl) ?_
    refine at_d rfl rfl (opr_call rfl rfl rfl Tryd.func24 (by kernel_rfl) rfl (sStep_ct (t := 0) (.inl rfl) ha0 ha1 ha2 ha3 ha4 hq)) ?_
    refine at_n rfl rfl (opr_alloc rfl zero39 rfl) ?_
    intro g3
    refine at_d rfl rfl (opr_store (i := 0) rfl rfl rfl rfl rfl size39 (NN_length _) (by rw [NN_length]; exact Nat.le_of_ble_eq_true rfl) (NN_flat _) (NN_over rfl)) ?_
    refine at_nil ?_
    refine at_then ?_
    refine at_seq ?_
    refine at_region ?_
    refine at_d rfl rfl (opr_load (i := 2) rfl rfl rfl Tryd.underlying43 rfl size43 (EE_length _) (EE_all rfl)) ?_
    refine at_d rfl rfl (opr_move rfl rfl) ?_
    refine at_c rfl rfl (opr_call rfl rfl rfl Tryd.func26 (by kernel_rfl) rfl (iStep_ct (t := 0) (.inl rfl) (ig := ig + 3) hG ha0 ha1 ha2 ha3 ha4)) ?_
    rintro _ _ ⟨r1, r2, r3, r4, hr1, hr2, hr3, hr4, hS, rfl, rfl⟩
    refine at_n rfl rfl (opr_alloc rfl zero43 rfl) ?_
    intro g4
    refine at_d rfl rfl (opr_store (i := 0) rfl rfl rfl rfl rfl size43 (EE_length _) (by rw [EE_length]; exact Nat.le_of_ble_eq_true rfl) (EE_flat _) (EE_over rfl)) ?_
    refine at_nil ?_
    refine at_then ?_
    refine at_seq ?_
    refine at_seq ?_
    refine at_region ?_
    refine at_d rfl rfl (opr_load (i := 0) rfl rfl rfl Tryd.underlying43 rfl size43 (EE_length _) (EE_all rfl)) ?_
    refine at_d rfl rfl (opr_move rfl rfl) ?_
    refine at_nil ?_
    refine at_then ?_
    refine at_block ?_
    have hQL : ∀ x ∈ [a0 % pp, q1, q2, q3, q4], x < RR := five_lt (modp_lt _) (pp_RR lq1) (pp_RR lq2) (pp_RR lq3) (pp_RR lq4)
    have hL : [a0 % pp, r1, r2, r3, r4] = [a0 % pp, q1, q2, q3, q4] := by rw [eq_of_el hr1 lq1 (hS.d.h1.trans hQ.d.h1.symm), eq_of_el hr2 lq2 (hS.d.h2.trans hQ.d.h2.symm), eq_of_el hr3 lq3 (hS.h3.trans hQ.h3.symm), eq_of_el hr4 lq4 (hS.h4.trans hQ.h4.symm)]
    clear hS hQ hq
    refine at_loop (fun (x : Nat) => [(9, .pointer (some ⟨g3, 0, none⟩)), (31, .agg (EE [a0 % pp, r1, r2, r3, r4]).toArray), (32, .int .i64 (x : Int))]) (fun (x : Nat) => ⟨g4, 43, EE [a0 % pp, r1, r2, r3, r4]⟩ :: ⟨g3, 39, NN [a0 % pp, q1, q2, q3, q4]⟩ :: ⟨g1, 39, NN (mixl [a0, a1, a2, a3, a4] [0, 0, 0, 0, 0] 5)⟩ :: ⟨g0, 43, EE [a0, a1, a2, a3, a4]⟩ :: M) (fun (x : Nat) => 5 - x) (fun (x : Nat) => x ≤ 5) 0 (Nat.zero_le _) (allIn ⟨rfl, rfl, rfl, trivial⟩) (List.Sublist.refl _) ?_
    intro k hk
    dsimp only
    refine at_seq ?_
    refine at_region ?_
    refine at_d rfl rfl (opr_lss (a := k) (b := 5) rfl rfl rfl) ?_
    refine at_nil ?_
    refine at_then ?_
    refine at_seq ?_
    refine at_cond rfl (fun ht2 => ?_) (fun ht2 => ?_)
    ·
      have hlt : k < 5 := of_decide_eq_true ht2
      refine at_skip ?_
      refine at_then ?_
      refine at_seq ?_
      refine at_block ?_
      refine at_seq ?_
      refine at_region ?_
      refine at_d rfl rfl (opr_move rfl rfl) ?_
      refine at_d rfl rfl (opr_index (j := k) rfl rfl rfl Tryd.underlying43 hlt size22 Tryd.underlying22 rfl (EE_at (k := k) (getD_some (show k < List.length [a0 % pp, r1, r2, r3, r4] from hlt)) (Nat.mul_comm _ _) rfl)) ?_
      refine at_n rfl rfl (opr_alloc rfl zero22 rfl) ?_
      intro g5
      refine at_d rfl rfl (opr_assign rfl rfl) ?_
      refine at_d rfl rfl (opr_store (i := 0) rfl rfl rfl rfl rfl size22 (E_length _) (by rw [EE_length]; exact Nat.le_of_ble_eq_true rfl) (E_flat _) (EE_set (k := 0) (Nat.le_of_ble_eq_true rfl) rfl)) ?_
      refine at_nil ?_
      refine at_then ?_
      refine at_seq ?_
      refine at_drawQ (by kernel_rfl) (by kernel_rfl) (List.cons_ne_nil _ _) ?_
      refine dr_op rfl rfl (opr_load (i := 0) rfl rfl rfl Tryd.underlying22 rfl size22 (E_length _) (EE_at (k := 0) rfl rfl rfl)) ?_
      refine dr_op rfl rfl (opr_move rfl rfl) ?_
      refine dr_op rfl rfl (opr_indexAddr (j := k) (off' := k * 28) rfl rfl rfl Tryd.underlying39 hlt size25 (Nat.zero_add _)) ?_
      refine dr_op rfl rfl (opr_load (i := 2) rfl rfl rfl Tryd.underlying25 rfl size25 (N_length _) (NN_at (k := k) (getD_some (show k < List.length [a0 % pp, q1, q2, q3, q4] from hlt)) (Nat.mul_comm _ _) rfl)) ?_
      refine dr_op rfl rfl (opr_call rfl rfl rfl Tryd.func20 (by kernel_rfl) rfl (is_true (congrArg (fun l => List.getD l k 0) hL) (getD_lt RR_zero hQL k))) ?_
      refine dr_last rfl rfl (opr_unOp (u := .bool false) rfl rfl (fun _ => rfl)) ?_
      refine ⟨rfl, ?_⟩
      refine at_then ?_
      refine at_cond_false rfl ?_
      refine at_skip ?_
      refine at_inBlock_normal ?_
      refine at_then ?_
      refine at_region ?_
      refine at_d rfl rfl (opr_addI (a := k) (b := 1) rfl rfl rfl (by omega)) ?_
      refine at_d rfl rfl (opr_move rfl rfl) ?_
      refine at_nil ?_
      exact at_round (k + 1) (by omega) (by omega) (allIn ⟨rfl, rfl, rfl, trivial⟩) (by repeat (first | exact List.Sublist.refl _ | apply List.Sublist.cons))
    ·
      obtain rfl : k = 5 := by have := of_decide_eq_false ht2; omega
      refine at_exit ?_
      refine at_then_exit ?_
      refine at_then_exit ?_
      refine at_inBlock_same ?_
      refine at_then ?_
      refine at_seq ?_
      refine at_region ?_
      refine at_d rfl rfl (opr_assign rfl rfl) ?_
      refine at_nil ?_
      refine at_then ?_
      refine at_ret ?_
      refine done_of (res1 Tryd.results7 (res_tmp rfl)) ⟨rfl, rfl⟩ (by repeat (first | exact List.Sublist.refl _ | apply List.Sublist.cons))
theorem fnStepIs_ct1 {M : Mem} {ig Tp : Nat} (hG : M[ig]? = some ⟨0, Tp, EE [pp]⟩) {a0 a1 a2 a3 a4 : Nat} (ha0 : a0 < RR) (ha1 : a1 < RR) (ha2 : a2 < RR) (ha3 : a3 < RR) (ha4 : a4 < RR) : Ct Tryd.prog 7 #[.agg (EE [a0, a1, a2, a3, a4]).toArray, .bool true] M (Det (.bool true) M) := by
  obtain ⟨q1, q2, q3, q4, hq, lq1, lq2, lq3, lq4, hQ⟩ := stepL_ex a0 (sel 1 a1 a3) (sel 1 a2 a4) (sel 1 a3 a1) (sel 1 a4 a2)
  refine ct_of (vs := [.agg (EE [a0, a1, a2, a3, a4]).toArray, .bool true]) Tryd.func7 rfl Tryd.ntmps7 rfl fun w0 => ?_
  refine at_seq ?_
  refine at_region ?_
  refine at_n rfl rfl (opr_box rfl rfl rfl) ?_
  intro g0
  refine at_d rfl rfl (opr_assign rfl rfl) ?_
  refine at_nil ?_
  refine at_then ?_
  refine at_seq ?_
  refine at_region ?_
  refine at_d rfl rfl (opr_buildE rfl rfl (built_nn [] rfl) rfl) ?_
  refine at_n rfl rfl (opr_alloc rfl zero39 rfl) ?_
  intro g1
  refine at_d rfl rfl (opr_store (i := 0) rfl rfl rfl rfl rfl size39 (NN_length _) (by rw [NN_length]; exact Nat.le_of_ble_eq_true rfl) (NN_flat _) (NN_over rfl)) ?_
  refine at_nil ?_
  refine at_then ?_
  refine at_seq ?_
  refine at_seq ?_
  refine at_region ?_
  refine at_d rfl rfl (opr_load (i := 1) rfl rfl rfl Tryd.underlying43 rfl size43 (EE_length _) (EE_all rfl)) ?_
  refine at_d rfl rfl (opr_move rfl rfl) ?_
  refine at_nil ?_
  refine at_then ?_
  refine at_block ?_
  refine at_loop (fun (x : Nat) => [(1, .bool true), (2, .pointer (some ⟨g0, 0, none⟩)), (5, .pointer (some ⟨g1, 0, none⟩)), (14, .agg (EE [a0, a1, a2, a3, a4]).toArray), (15, .int .i64 (x : Int))]) (fun (x : Nat) => ⟨g1, 39, NN (mixl [a0, a1, a2, a3, a4] [0, 0, 0, 0, 0] x)⟩ :: ⟨g0, 43, EE [a0, a1, a2, a3, a4]⟩ :: M) (fun (x : Nat) => 5 - x) (fun (x : Nat) => x ≤ 5) 0 (Nat.zero_le _) (allIn ⟨rfl, rfl, rfl, rfl, rfl, trivial⟩) (by simp only [mixl_zero]; exact List.Sublist.refl _) ?_
  intro k hk
  dsimp only
  refine at_seq ?_
  refine at_region ?_
  refine at_d rfl rfl (opr_lss (a := k) (b := 5) rfl rfl rfl) ?_
  refine at_nil ?_
  refine at_then ?_
  refine at_seq ?_
  refine at_cond rfl (fun ht2 => ?_) (fun ht2 => ?_)
  ·
    have hlt : k < 5 := of_decide_eq_true ht2
    refine at_skip ?_
    refine at_then ?_
    refine at_seq ?_
    refine at_block ?_
    refine at_seq ?_
    refine at_region ?_
    refine at_d rfl rfl (opr_move rfl rfl) ?_
    refine at_d rfl rfl (opr_index (j := k) rfl rfl rfl Tryd.underlying43 hlt size22 Tryd.underlying22 rfl (EE_at (k := k) (getD_some (show k < List.length [a0, a1, a2, a3, a4] from hlt)) (Nat.mul_comm _ _) rfl)) ?_
    refine at_n rfl rfl (opr_alloc rfl zero22 rfl) ?_
    intro g2
    refine at_d rfl rfl (opr_assign rfl rfl) ?_
    refine at_d rfl rfl (opr_store (i := 0) rfl rfl rfl rfl rfl size22 (E_length _) (by rw [EE_length]; exact Nat.le_of_ble_eq_true rfl) (E_flat _) (EE_set (k := 0) (Nat.le_of_ble_eq_true rfl) rfl)) ?_
    refine at_nil ?_
    refine at_then ?_
    refine at_region ?_
    refine at_d rfl rfl (opr_move rfl rfl) ?_
    refine at_d rfl rfl (opr_load (i := 0) rfl rfl rfl Tryd.underlying22 rfl size22 (E_length _) (EE_at (k := 0) rfl rfl rfl)) ?_
    refine at_d rfl rfl (opr_call rfl rfl rfl Tryd.func11 (by kernel_rfl) rfl (of_ct _)) ?_
    refine at_d rfl rfl (opr_indexAddr (j := k) (off' := k * 28) rfl rfl rfl Tryd.underlying39 hlt size25 (Nat.zero_add _)) ?_
    refine at_d rfl rfl (opr_store (i := 1) rfl rfl rfl rfl rfl size25 (N_length _) (by rw [NN_length, mixl_length (m := [a0, a1, a2, a3, a4]) (l := [0, 0, 0, 0, 0]) (n := 5) rfl rfl hk]; omega) (N_flat _) ((NN_set (k := k) (by rw [mixl_length (m := [a0, a1, a2, a3, a4]) (l := [0, 0, 0, 0, 0]) (n := 5) rfl rfl hk]; exact hlt) (Nat.mul_comm _ _)).trans (congrArg NN (mixl_put rfl rfl hlt (getD_some hlt))))) ?_
    refine at_nil ?_
    refine at_inBlock_normal ?_
    refine at_then ?_
    refine at_region ?_
    refine at_d rfl rfl (opr_addI (a := k) (b := 1) rfl rfl rfl (by omega)) ?_
    refine at_d rfl rfl (opr_move rfl rfl) ?_
    refine at_nil ?_
    exact at_round (k + 1) (by omega) (by omega) (allIn ⟨rfl, rfl, rfl, rfl, rfl, trivial⟩) (by repeat (first | exact List.Sublist.refl _ | apply List.Sublist.cons))
  ·
    obtain rfl : k = 5 := by have := of_decide_eq_false ht2; omega
    refine at_exit ?_
    refine at_then_exit ?_
    refine at_then_exit ?_
    refine at_inBlock_same ?_
    refine at_then ?_
    refine at_seq ?_
    refine at_region ?_
    refine at_d rfl rfl (opr_assign rfl rfl) ?_
    refine at_nil ?_
    refine at_then ?_
    refine at_seq ?_
    refine at_seq ?_
    refine at_region ?_
    refine at_d rfl rfl (opr_move rfl rfl) ?_
    refine at_nil ?_
    refine at_then ?_
    refine at_cond_true rfl ?_
    refine at_region ?_
    refine at_d rfl rfl (opr_assign rfl rfl) ?_
    refine at_nil ?_
    refine at_then ?_
    refine at_seq ?_
    refine at_region ?_
    refine at_d rfl rfl (opr_load (i := 0) rfl rfl rfl Tryd.underlying39 rfl size39 (NN_length _) ((congrArg (fun l => ((NN l).drop 0).take 140) (mixl_end (m := [a0, a1, a2, a3, a4]) (l := [0, 0, 0, 0, 0]) rfl rfl)).trans (NN_all rfl))) ?_
    refine at_d rfl rfl (opr_move rfl rfl) ?_
    refine at_d rfl rfl (opr_call rfl rfl rfl Tryd.func24 (by kernel_rfl) rfl (sStep_ct (t := 1) (.inr rfl) ha0 ha1 ha2 ha3 ha4 hq)) ?_
    refine at_n rfl rfl (opr_alloc rfl zero39 rfl) ?_
    intro g3
    refine at_d rfl rfl (opr_store (i := 0) rfl rfl rfl rfl rfl size39 (NN_length _) (by rw [NN_length]; exact Nat.le_of_ble_eq_true rfl) (NN_flat _) (NN_over rfl)) ?_
    refine at_nil ?_
    refine at_then ?_
    refine at_seq ?_
    refine at_region ?_
    refine at_d rfl rfl (opr_load (i := 2) rfl rfl rfl Tryd.underlying43 rfl size43 (EE_length _) (EE_all rfl)) ?_
    refine at_d rfl rfl (opr_move rfl rfl) ?_
    refine at_c rfl rfl (opr_call rfl rfl rfl Tryd.func26 (by kernel_rfl) rfl (iStep_ct (t := 1) (.inr rfl) (ig := ig + 3) hG ha0 ha1 ha2 ha3 ha4)) ?_
    rintro _ _ ⟨r1, r2, r3, r4, hr1, hr2, hr3, hr4, hS, rfl, rfl⟩
    refine at_n rfl rfl (opr_alloc rfl zero43 rfl) ?_
    intro g4
    refine at_d rfl rfl (opr_store (i := 0) rfl rfl rfl rfl rfl size43 (EE_length _) (by rw [EE_length]; exact Nat.le_of_ble_eq_true rfl) (EE_flat _) (EE_over rfl)) ?_
    refine at_nil ?_
    refine at_then ?_
    refine at_seq ?_
    refine at_seq ?_
    refine at_region ?_
    refine at_d rfl rfl (opr_load (i := 0) rfl rfl rfl Tryd.underlying43 rfl size43 (EE_length _) (EE_all rfl)) ?_
    refine at_d rfl rfl (opr_move rfl rfl) ?_
    refine at_nil ?_
    refine at_then ?_
    refine at_block ?_
    have hQL : ∀ x ∈ [a0 % pp, q1, q2, q3, q4], x < RR := five_lt (modp_lt _) (pp_RR lq1) (pp_RR lq2) (pp_RR lq3) (pp_RR lq4)
    have hL : [a0 % pp, r1, r2, r3, r4] = [a0 % pp, q1, q2, q3, q4] := by rw [eq_of_el hr1 lq1 (hS.d.h1.trans hQ.d.h1.symm), eq_of_el hr2 lq2 (hS.d.h2.trans hQ.d.h2.symm), eq_of_el hr3 lq3 (hS.h3.trans hQ.h3.symm), eq_of_el hr4 lq4 (hS.h4.trans hQ.h4.symm)]
    clear hS hQ hq
    refine at_loop (fun (x : Nat) => [(9, .pointer (some ⟨g3, 0, none⟩)), (31, .agg (EE [a0 % pp, r1, r2, r3, r4]).toArray), (32, .int .i64 (x : Int))]) (fun (x : Nat) => ⟨g4, 43, EE [a0 % pp, r1, r2, r3, r4]⟩ :: ⟨g3, 39, NN [a0 % pp, q1, q2, q3, q4]⟩ :: ⟨g1, 39, NN (mixl [a0, a1, a2, a3, a4] [0, 0, 0, 0, 0] 5)⟩ :: ⟨g0, 43, EE [a0, a1, a2, a3, a4]⟩ :: M) (fun (x : Nat) => 5 - x) (fun (x : Nat) => x ≤ 5) 0 (Nat.zero_le _) (allIn ⟨rfl, rfl, rfl, trivial⟩) (List.Sublist.refl _) ?_
    intro k hk
    dsimp only
    refine at_seq ?_
    refine at_region ?_
    refine at_d rfl rfl (opr_lss (a := k) (b := 5) rfl rfl rfl) ?_
    refine at_nil ?_
    refine at_then ?_
    refine at_seq ?_
    refine at_cond rfl (fun ht2 => ?_) (fun ht2 => ?_)
    ·
      have hlt : k < 5 := of_decide_eq_true ht2
      refine at_skip ?_
      refine at_then ?_
      refine at_seq ?_
      refine at_block ?_
      refine at_seq ?_
      refine at_region ?_
      refine at_d rfl rfl (opr_move rfl rfl) ?_
      refine at_d rfl rfl (opr_index (j := k) rfl rfl rfl Tryd.underlying43 hlt size22 Tryd.underlying22 rfl (EE_at (k := k) (getD_some (show k < List.length [a0 % pp, r1, r2, r3, r4] from hlt)) (Nat.mul_comm _ _) rfl)) ?_
      refine at_n rfl rfl (opr_alloc rfl zero22 rfl) ?_
      intro g5
      refine at_d rfl rfl (opr_assign rfl rfl) ?_
      refine at_d rfl rfl (opr_store (i := 0) rfl rfl rfl rfl rfl size22 (E_length _) (by rw [EE_length]; exact Nat.le_of_ble_eq_true rfl) (E_flat _) (EE_set (k := 0) (Nat.le_of_ble_eq_true rfl) rfl)) ?_
      refine at_nil ?_
      refine at_then ?_
      refine at_seq ?_
      refine at_drawQ (by kernel_rfl) (by kernel_rfl) (List.cons_ne_nil _ _) ?_
      refine dr_op rfl rfl (opr_load (i := 0) rfl rfl rfl Tryd.underlying22 rfl size22 (E_length _) (EE_at (k := 0) rfl rfl rfl)) ?_
      refine dr_op rfl rfl (opr_move rfl rfl) ?_
      refine dr_op rfl rfl (opr_indexAddr (j := k) (off' := k * 28) rfl rfl rfl Tryd.underlying39 hlt size25 (Nat.zero_add _)) ?_
      refine dr_op rfl rfl (opr_load (i := 2) rfl rfl rfl Tryd.underlying25 rfl size25 (N_length _) (NN_at (k := k) (getD_some (show k < List.length [a0 % pp, q1, q2, q3, q4] from hlt)) (Nat.mul_comm _ _) rfl)) ?_
      refine dr_op rfl rfl (opr_call rfl rfl rfl Tryd.func20 (by kernel_rfl) rfl (is_true (congrArg (fun l => List.getD l k 0) hL) (getD_lt RR_zero hQL k))) ?_
      refine dr_last rfl rfl (opr_unOp (u := .bool false) rfl rfl (fun _ => rfl)) ?_
      refine ⟨rfl, ?_⟩
      refine at_then ?_
      refine at_cond_false rfl ?_
      refine at_skip ?_
      refine at_inBlock_normal ?_
      refine at_then ?_
      refine at_region ?_
      refine at_d rfl rfl (opr_addI (a := k) (b := 1) rfl rfl rfl (by omega)) ?_
      refine at_d rfl rfl (opr_move rfl rfl) ?_
      refine at_nil ?_
      exact at_round (k + 1) (by omega) (by omega) (allIn ⟨rfl, rfl, rfl, trivial⟩) (by repeat (first | exact List.Sublist.refl _ | apply List.Sublist.cons))
    ·
      obtain rfl : k = 5 := by have := of_decide_eq_false ht2; omega
      refine at_exit ?_
      refine at_then_exit ?_
      refine at_then_exit ?_
      refine at_inBlock_same ?_
      refine at_then ?_
      refine at_seq ?_
      refine at_region ?_
      refine at_d rfl rfl (opr_assign rfl rfl) ?_
      refine at_nil ?_
      refine at_then ?_
      refine at_ret ?_
      refine done_of (res1 Tryd.results7 (res_tmp rfl)) ⟨rfl, rfl⟩ (by repeat (first | exact List.Sublist.refl _ | apply List.Sublist.cons))
theorem fnStepIs_ct {M : Mem} {ig Tp : Nat} (hG : M[ig]? = some ⟨0, Tp, EE [pp]⟩) {a0 a1 a2 a3 a4 : Nat} {b : Bool} (ha0 : a0 < RR) (ha1 : a1 < RR) (ha2 : a2 < RR) (ha3 : a3 < RR) (ha4 : a4 < RR) : Ct Tryd.prog 7 #[.agg (EE [a0, a1, a2, a3, a4]).toArray, .bool b] M (Det (.bool true) M) := by
  cases b
  · exact fnStepIs_ct0 hG ha0 ha1 ha2 ha3 ha4
  · exact fnStepIs_ct1 hG ha0 ha1 ha2 ha3 ha4
end Go.Proofs.YtkjfongekklabaaDoor
