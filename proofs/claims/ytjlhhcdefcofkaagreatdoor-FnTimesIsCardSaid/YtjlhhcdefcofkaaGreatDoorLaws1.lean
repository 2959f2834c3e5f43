/- The field's own functions and the laws over them. -/
import Derived.Test.YtjlhhcdefcofkaaGreatDoorSpec
import Derived.Test.YtjlhhcdefcofkaaGreatDoorEq
namespace Go.Proofs.YtjlhhcdefcofkaaGreatDoor
open Go
set_option maxRecDepth 100000
theorem size60 : (Tryz.prog.info? 60).map (·.size) = some 56 := by kernel_rfl
theorem zero22 : (Tryz.prog.info? 22).bind (·.zero) = some (.agg (EE [0]).toArray) := by kernel_rfl
theorem zero60 : (Tryz.prog.info? 60).bind (·.zero) = some (.agg (EE [0]).toArray) := by kernel_rfl
theorem RR_zero : 0 < RR := by decide
theorem RR_one : 1 < RR := by decide
theorem RR_pp : pp < RR := by decide
theorem modp_lt (a : Nat) : a % pp < RR := Nat.lt_trans (Nat.mod_lt _ (by decide)) RR_pp
theorem subF_lt {a b : Nat} (ha : a < RR) (hb : b < RR) : subF a b < RR := by
  unfold subF RR pp at *
  split
  · omega
  · split <;> omega
theorem addF_lt {a b : Nat} (ha : a < RR) (hb : b < RR) : addF a b < RR := by
  unfold addF RR pp at *
  split
  · omega
  · split <;> omega
theorem subF_pp {a : Nat} (ha : a < RR) : subF a pp = a % pp := by
  unfold subF
  by_cases h : pp ≤ a
  · rw [if_pos h]; unfold RR pp at *; omega
  · rw [if_neg h, if_pos (by omega), Nat.mod_eq_of_lt (by omega)]; omega
theorem lset {α : Type} {l : List α} {k : Nat} {a : α} (h : k < l.length) : (l.set k a)[k]? = some a := by simp [h]
theorem lset_lt {α : Type} {l : List α} {k m : Nat} {a : α} (h : m < l.length) : m < (l.set k a).length := by simpa using h
theorem Add_ct {M : Mem} {iz ix iy gz gx gy Tz Tx Ty kz kx ky oz ox oy a b : Nat} {lz lx ly : List Nat} (hz : M[iz]? = some ⟨gz, Tz, EE lz⟩) (hkz : kz < lz.length) (hoz : 56 * kz = oz) (hx : M[ix]? = some ⟨gx, Tx, EE lx⟩) (hkx : lx[kx]? = some a) (hox : 56 * kx = ox) (hy : M[iy]? = some ⟨gy, Ty, EE ly⟩) (hky : ly[ky]? = some b) (hoy : 56 * ky = oy) (ha : a < RR) (hb : b < RR) : Ct Tryz.prog 60 #[.pointer (some ⟨gz, oz, none⟩), .pointer (some ⟨gx, ox, none⟩), .pointer (some ⟨gy, oy, none⟩)] M (Det (.tuple #[]) (M.set iz ⟨gz, Tz, EE (lz.set kz (addF a b))⟩)) :=
  Add_pass (add_pass (addGeneric_ct hz hkz hoz hx hkx hox hy hky hoy ha hb) (fun _ _ h => h.1)) (fun _ _ h => h.1)
theorem Sub_ct {M : Mem} {iz ix iy gz gx gy Tz Tx Ty kz kx ky oz ox oy a b : Nat} {lz lx ly : List Nat} (hz : M[iz]? = some ⟨gz, Tz, EE lz⟩) (hkz : kz < lz.length) (hoz : 56 * kz = oz) (hx : M[ix]? = some ⟨gx, Tx, EE lx⟩) (hkx : lx[kx]? = some a) (hox : 56 * kx = ox) (hy : M[iy]? = some ⟨gy, Ty, EE ly⟩) (hky : ly[ky]? = some b) (hoy : 56 * ky = oy) (ha : a < RR) (hb : b < RR) : Ct Tryz.prog 62 #[.pointer (some ⟨gz, oz, none⟩), .pointer (some ⟨gx, ox, none⟩), .pointer (some ⟨gy, oy, none⟩)] M (Det (.tuple #[]) (M.set iz ⟨gz, Tz, EE (lz.set kz (subF a b))⟩)) :=
  Sub_pass (sub_pass (subGeneric_ct hz hkz hoz hx hkx hox hy hky hoy ha hb) (fun _ _ h => h.1)) (fun _ _ h => h.1)
theorem modp_ct {M : Mem} {ig Tp : Nat} (hG : M[ig]? = some ⟨3, Tp, EE [pp]⟩) {iz gz Tz kz oz a : Nat} {lz : List Nat} (hz : M[iz]? = some ⟨gz, Tz, EE lz⟩) (hkz : lz[kz]? = some a) (hoz : 56 * kz = oz) (ha : a < RR) : Ct Tryz.prog 44 #[.pointer (some ⟨gz, oz, none⟩)] M (Det (.tuple #[]) (M.set iz ⟨gz, Tz, EE (lz.set kz (a % pp))⟩)) := by
  refine ct_of (vs := [.pointer (some ⟨gz, oz, none⟩)]) Tryz.func44 rfl Tryz.ntmps44 rfl fun w0 => ?_
  refine at_seq ?_
  refine at_region ?_
  refine at_d rfl rfl (opr_load (i := ig) rfl rfl hG Tryz.underlying60 rfl size60 (E_length _) (EE_at (k := 0) rfl rfl rfl)) ?_
  refine at_n rfl rfl (opr_alloc rfl zero60 rfl) ?_
  intro g0
  refine at_d rfl rfl (opr_store (i := 0) rfl rfl rfl rfl rfl size60 (E_length _) (by rw [EE_length]; exact Nat.le_of_ble_eq_true rfl) (E_flat _) (EE_set (k := 0) (Nat.le_of_ble_eq_true rfl) rfl)) ?_
  refine at_nil ?_
  refine at_then ?_
  refine at_region ?_
  refine at_d rfl rfl (opr_move rfl rfl) ?_
  refine at_d rfl rfl (opr_move rfl rfl) ?_
  refine at_d rfl rfl (opr_call rfl rfl rfl Tryz.func62 (by kernel_rfl) rfl (Sub_ct (iz := iz + 1) (ix := iz + 1) (iy := 0) (kz := kz) (kx := kz) (ky := 0) hz (List.getElem?_eq_some_iff.1 hkz).1 hoz hz hkz hoz rfl rfl rfl ha RR_pp)) ?_
  refine at_nil ?_
  rw [subF_pp ha]
  exact done_of (res0 Tryz.results44) ⟨rfl, rfl⟩ (List.Sublist.cons _ (List.Sublist.refl _))
theorem reduced_ct {M : Mem} {ig Tp : Nat} (hG : M[ig]? = some ⟨3, Tp, EE [pp]⟩) {a : Nat} (ha : a < RR) : Ct Tryz.prog 28 #[.agg (E a).toArray] M (Det (.agg (E (a % pp)).toArray) M) := by
  refine ct_of (vs := [.agg (E a).toArray]) Tryz.func28 rfl Tryz.ntmps28 rfl fun w0 => ?_
  refine at_seq ?_
  refine at_region ?_
  refine at_n rfl rfl (opr_box (cs := EE [a]) rfl rfl (E_box _)) ?_
  intro g0
  refine at_n rfl rfl (opr_alloc rfl zero22 rfl) ?_
  intro g1
  refine at_nil ?_
  refine at_then ?_
  refine at_seq ?_
  refine at_region ?_
  refine at_d rfl rfl (opr_call rfl rfl rfl Tryz.func44 (by kernel_rfl) rfl (modp_ct (ig := ig + 2) (iz := 1) (kz := 0) hG rfl rfl rfl ha)) ?_
  refine at_nil ?_
  refine at_then ?_
  refine at_seq ?_
  refine at_region ?_
  refine at_d rfl rfl (opr_load (i := 1) rfl rfl rfl Tryz.underlying60 rfl size60 (E_length _) (EE_at (k := 0) rfl rfl rfl)) ?_
  refine at_d rfl rfl (opr_store (i := 0) rfl rfl rfl rfl rfl size22 (E_length _) (by rw [EE_length]; exact Nat.le_of_ble_eq_true rfl) (E_flat _) (EE_set (k := 0) (Nat.le_of_ble_eq_true rfl) rfl)) ?_
  refine at_nil ?_
  refine at_then ?_
  refine at_ret ?_
  refine done_of (res1 Tryz.results28 (res_cell (i := 0) rfl rfl Tryz.underlying22 rfl size22 (E_length _) (EE_at (k := 0) rfl rfl rfl))) ⟨rfl, rfl⟩ (by repeat (first | exact List.Sublist.refl _ | apply List.Sublist.cons))
end Go.Proofs.YtjlhhcdefcofkaaGreatDoor
