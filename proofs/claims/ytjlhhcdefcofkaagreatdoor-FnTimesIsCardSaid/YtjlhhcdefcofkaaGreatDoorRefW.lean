/- Numbers by words of 32 bits. -/
import Derived.Test.YtjlhhcdefcofkaaGreatDoorScalC
import Derived.Test.YtjlhhcdefcofkaaGreatDoorSpec
namespace Go.Proofs.YtjlhhcdefcofkaaGreatDoor
open Go
set_option maxRecDepth 100000
theorem size56 : (Tryz.prog.info? 56).map (·.size) = some 1 := by kernel_rfl
theorem size57 : (Tryz.prog.info? 57).map (·.size) = some 14 := by kernel_rfl
def u32V (d : Nat) : Value := .int .u32 (d : Int)
/-- The digits of 16 bits of words of 32 bits, the highest word first: what the words from place 14 - k on make. -/
def wInv (ws : List Nat) (k : Nat) : List Nat := (List.range 28).map fun j => if 28 - 2 * k ≤ j then (if j % 2 = 0 then ws.getD (13 - j / 2) 0 % 65536 else ws.getD (13 - j / 2) 0 / 65536) else 0
theorem wInv_length (ws : List Nat) (k : Nat) : (wInv ws k).length = 28 := by simp [wInv]
theorem wInv_zero (ws : List Nat) : W (wInv ws 0) = N 0 := by
  have h : wInv ws 0 = digs 65536 28 0 := by
    unfold wInv
    have : ∀ j ∈ List.range 28, (if 28 - 2 * 0 ≤ j then (if j % 2 = 0 then ws.getD (13 - j / 2) 0 % 65536 else ws.getD (13 - j / 2) 0 / 65536) else 0) = 0 := by
      intro j hj
      have := List.mem_range.1 hj
      rw [if_neg (by omega)]
    rw [List.map_congr_left this]
    decide
  rw [h]; rfl
theorem wInv_get {ws : List Nat} {k j : Nat} (hj : j < 28) : (wInv ws k)[j]? = some (if 28 - 2 * k ≤ j then (if j % 2 = 0 then ws.getD (13 - j / 2) 0 % 65536 else ws.getD (13 - j / 2) 0 / 65536) else 0) := by
  rw [wInv, List.getElem?_map, List.getElem?_range hj]; rfl
theorem wInv_step {ws : List Nat} {k : Nat} (hk : k < 14) : ((wInv ws k).set (2 * (13 - k)) (ws.getD k 0 % 65536)).set (2 * (13 - k) + 1) (ws.getD k 0 / 65536) = wInv ws (k + 1) := by
  apply List.ext_getElem?
  intro j
  by_cases hj : j < 28
  · rw [wInv_get hj]
    by_cases e1 : 2 * (13 - k) + 1 = j
    · subst e1
      rw [List.getElem?_set_self (by rw [List.length_set, wInv_length]; omega), if_pos (by omega), if_neg (by omega)]
      congr 3
      omega
    · rw [List.getElem?_set_ne e1]
      by_cases e2 : 2 * (13 - k) = j
      · subst e2
        rw [List.getElem?_set_self (by rw [wInv_length]; omega), if_pos (by omega), if_pos (by omega)]
        congr 3
        omega
      · rw [List.getElem?_set_ne e2, wInv_get hj]
        by_cases h : 28 - 2 * k ≤ j
        · have h2 : 28 - 2 * (k + 1) ≤ j := by omega
          simp only [if_pos h, if_pos h2]
        · have h2 : ¬ 28 - 2 * (k + 1) ≤ j := by omega
          simp only [if_neg h, if_neg h2]
  · rw [List.getElem?_eq_none (by simp [wInv_length]; omega), List.getElem?_eq_none (by rw [wInv_length]; omega)]
theorem wd_get {ws : List Nat} {k : Nat} (hws : ws.length = 14) (hk : k < 14) : ws[k]? = some (ws.getD k 0) := by
  rw [List.getD_eq_getElem?_getD, List.getElem?_eq_getElem (by omega)]; rfl
theorem wd_lt {ws : List Nat} (h : ∀ w ∈ ws, w < 4294967296) (k : Nat) : ws.getD k 0 < 4294967296 := by
  rw [List.getD_eq_getElem?_getD]
  cases hk : ws[k]? with
  | none => decide
  | some a => exact h a (List.mem_of_getElem? hk)
theorem take14 {ws : List Nat} (h : ws.length = 14) : ((ws.map u32V).drop 0).take 14 = ws.map u32V := by rw [List.drop_zero, List.take_of_length_le (by rw [List.length_map, h]; decide)]
theorem Wflat' (l : List Nat) : ∀ v ∈ W l, flat v = true := by
  intro v hv
  obtain ⟨d, _, rfl⟩ := List.mem_map.1 hv
  rfl
theorem Wover {l : List Nat} {a : Nat} (h : l.length = 28) : splice (N a) 0 (W l) = W l := by
  rw [splice, List.take_zero, List.nil_append, List.drop_of_length_le (by rw [N_length, W_length, h]; decide), List.append_nil]
theorem words_ct {M : Mem} {ws : List Nat} (hws : ws.length = 14) (hlt32 : ∀ w ∈ ws, w < 4294967296) : Ct Tryz.prog 23 #[.agg (ws.map u32V).toArray] M (Det (.agg (W (wInv ws 14)).toArray) M) := by
  refine ct_of (vs := [.agg (ws.map u32V).toArray]) Tryz.func23 rfl Tryz.ntmps23 rfl fun w0 => ?_
  refine at_seq ?_
  refine at_region ?_
  refine at_n rfl rfl (opr_box (cs := ws.map u32V) rfl rfl rfl) ?_
  intro g0
  refine at_n rfl rfl (opr_alloc rfl zero31 rfl) ?_
  intro g1
  refine at_nil ?_
  refine at_then ?_
  refine at_seq ?_
  refine at_region ?_
  refine at_d rfl rfl (opr_buildE (ds := N 0) rfl rfl builtn31 rfl) ?_
  refine at_n rfl rfl (opr_alloc rfl zero31 rfl) ?_
  intro g2
  refine at_d rfl rfl (opr_store (i := 0) rfl rfl rfl rfl rfl size31 (N_length _) (by rw [N_length]; decide) (N_flat _) N_over) ?_
  refine at_nil ?_
  refine at_then ?_
  refine at_seq ?_
  refine at_seq ?_
  refine at_region ?_
  refine at_d rfl rfl (opr_load (i := 2) rfl rfl rfl Tryz.underlying57 rfl size57 ((List.length_map _).trans hws) (take14 hws)) ?_
  refine at_d rfl rfl (opr_move rfl rfl) ?_
  refine at_nil ?_
  refine at_then ?_
  refine at_block ?_
  refine at_loop (fun (x : Nat) => [(2, .pointer (some ⟨g1, 0, none⟩)), (3, .pointer (some ⟨g2, 0, none⟩)), (8, .agg (ws.map u32V).toArray), (9, .int .i64 (x : Int))]) (fun (x : Nat) => ⟨g2, 31, W (wInv ws x)⟩ :: ⟨g1, 31, N (0)⟩ :: ⟨g0, 57, ws.map u32V⟩ :: M) (fun (x : Nat) => 14 - x) (fun (x : Nat) => x ≤ 14) 0 (Nat.zero_le _) (allIn ⟨rfl, rfl, rfl, rfl, trivial⟩) (by rw [wInv_zero]; exact List.Sublist.refl _) ?_
  intro k hk
  dsimp only
  refine at_seq ?_
  refine at_region ?_
  refine at_d rfl rfl (opr_lss (a := k) (b := 14) rfl rfl rfl) ?_
  refine at_nil ?_
  refine at_then ?_
  refine at_seq ?_
  refine at_cond rfl (fun ht => ?_) (fun ht => ?_)
  ·
    have hlt : k < 14 := of_decide_eq_true ht
    refine at_skip ?_
    refine at_then ?_
    refine at_seq ?_
    refine at_block ?_
    refine at_seq ?_
    refine at_region ?_
    refine at_d rfl rfl (opr_move rfl rfl) ?_
    refine at_d rfl rfl (opr_index1 (j := k) rfl rfl rfl Tryz.underlying57 hlt size56 Tryz.underlying56 rfl (by rw [List.getElem?_map, wd_get hws hlt]; rfl : (ws.map u32V)[k]? = some (u32V (ws.getD k 0)))) ?_
    refine at_d rfl rfl (opr_assign rfl rfl) ?_
    refine at_d rfl rfl (opr_assign rfl rfl) ?_
    refine at_nil ?_
    refine at_then ?_
    refine at_seq ?_
    refine at_region ?_
    refine at_d rfl rfl (opr_move rfl rfl) ?_
    refine at_d rfl rfl (opr_subI (a := 13) (b := k) rfl rfl rfl (by omega) (by omega)) ?_
    refine at_d rfl rfl (opr_mulI (a := 2) (b := 13 - k) rfl rfl rfl (by omega)) ?_
    refine at_d rfl rfl (opr_assign rfl rfl) ?_
    refine at_nil ?_
    refine at_then ?_
    refine at_seq ?_
    refine at_region ?_
    refine at_d rfl rfl (opr_move rfl rfl) ?_
    refine at_d rfl rfl (opr_move rfl rfl) ?_
    refine at_d rfl rfl (opr_to64 (n := (ws.getD k 0)) rfl rfl Tryz.underlying56 Tryz.underlying29 (Nat.lt_trans (wd_lt hlt32 k) (by decide))) ?_
    refine at_d rfl rfl (opr_rem64 rfl rfl rfl (by decide)) ?_
    refine at_d rfl rfl (opr_indexAddr (j := 2 * (13 - k)) (off' := 2 * (13 - k)) rfl rfl rfl Tryz.underlying31 (by omega) size29 (by omega)) ?_
    refine at_d rfl rfl (opr_store (i := 0) rfl rfl rfl rfl rfl size29 rfl (by rw [W_length, wInv_length]; omega) flat_one (W_put (by rw [wInv_length]; omega) rfl)) ?_
    refine at_nil ?_
    refine at_then ?_
    refine at_region ?_
    refine at_d rfl rfl (opr_move rfl rfl) ?_
    refine at_d rfl rfl (opr_addI (a := 2 * (13 - k)) (b := 1) rfl rfl rfl (by omega)) ?_
    refine at_d rfl rfl (opr_move rfl rfl) ?_
    refine at_d rfl rfl (opr_to64 (n := (ws.getD k 0)) rfl rfl Tryz.underlying56 Tryz.underlying29 (Nat.lt_trans (wd_lt hlt32 k) (by decide))) ?_
    refine at_d rfl rfl (opr_quo64 rfl rfl rfl (by decide) (Nat.lt_trans (wd_lt hlt32 k) (by decide))) ?_
    refine at_d rfl rfl (opr_indexAddr (j := 2 * (13 - k) + 1) (off' := 2 * (13 - k) + 1) rfl rfl rfl Tryz.underlying31 (by omega) size29 (by omega)) ?_
    refine at_d rfl rfl (opr_store (i := 0) rfl rfl rfl rfl rfl size29 rfl (by rw [W_length, List.length_set, wInv_length]; omega) flat_one (W_put (by rw [List.length_set, wInv_length]; omega) (wInv_step hlt))) ?_
    refine at_nil ?_
    refine at_inBlock_normal ?_
    refine at_then ?_
    refine at_region ?_
    refine at_d rfl rfl (opr_addI (a := k) (b := 1) rfl rfl rfl (by omega)) ?_
    refine at_d rfl rfl (opr_move rfl rfl) ?_
    refine at_nil ?_
    exact at_round (k + 1) (by omega) (by omega) (allIn ⟨rfl, rfl, rfl, rfl, trivial⟩) (List.Sublist.refl _)
  ·
    obtain rfl : k = 14 := by have := of_decide_eq_false ht; omega
    refine at_exit ?_
    refine at_then_exit ?_
    refine at_then_exit ?_
    refine at_inBlock_same ?_
    refine at_then ?_
    refine at_seq ?_
    refine at_region ?_
    refine at_d rfl rfl (opr_load (i := 0) rfl rfl rfl Tryz.underlying31 rfl size31 (by rw [W_length, wInv_length]) (W_all (wInv_length _ _))) ?_
    refine at_d rfl rfl (opr_store (i := 1) rfl rfl rfl rfl rfl size31 (by rw [W_length, wInv_length]) (by rw [N_length]; decide) (Wflat' _) (Wover (wInv_length _ _))) ?_
    refine at_nil ?_
    refine at_then ?_
    refine at_ret ?_
    refine done_of (res1 Tryz.results23 (res_cell (i := 1) rfl rfl Tryz.underlying31 rfl size31 (by rw [W_length, wInv_length]) (W_all (wInv_length _ _)))) ⟨rfl, rfl⟩ (by repeat (first | exact List.Sublist.refl _ | apply List.Sublist.cons))
theorem wlit_qq : ([1073741823, 4294967295, 4294967295, 4294967295, 4294967295, 4294967295, 4294967295, 2093622249, 3293502281, 2933274256, 560775794, 2378534741, 595116690, 2874688755] : List Nat).length = 14 ∧ (∀ w ∈ ([1073741823, 4294967295, 4294967295, 4294967295, 4294967295, 4294967295, 4294967295, 2093622249, 3293502281, 2933274256, 560775794, 2378534741, 595116690, 2874688755] : List Nat), w < 4294967296) ∧ wInv [1073741823, 4294967295, 4294967295, 4294967295, 4294967295, 4294967295, 4294967295, 2093622249, 3293502281, 2933274256, 560775794, 2378534741, 595116690, 2874688755] 14 = digs 65536 28 qq := by decide +kernel
theorem words_qq {M : Mem} : Ct Tryz.prog 23 #[.agg ([1073741823, 4294967295, 4294967295, 4294967295, 4294967295, 4294967295, 4294967295, 2093622249, 3293502281, 2933274256, 560775794, 2378534741, 595116690, 2874688755].map u32V).toArray] M (Det (.agg (N qq).toArray) M) := by
  have h := words_ct (M := M) wlit_qq.1 wlit_qq.2.1
  rw [wlit_qq.2.2] at h
  exact h
theorem wbuilt_qq : Tryz.prog.built 57 [(0, .int .u32 1073741823), (1, .int .u32 4294967295), (2, .int .u32 4294967295), (3, .int .u32 4294967295), (4, .int .u32 4294967295), (5, .int .u32 4294967295), (6, .int .u32 4294967295), (7, .int .u32 2093622249), (8, .int .u32 3293502281), (9, .int .u32 2933274256), (10, .int .u32 560775794), (11, .int .u32 2378534741), (12, .int .u32 595116690), (13, .int .u32 2874688755)] = some ([1073741823, 4294967295, 4294967295, 4294967295, 4294967295, 4294967295, 4294967295, 2093622249, 3293502281, 2933274256, 560775794, 2378534741, 595116690, 2874688755].map u32V).toArray := by kernel_rfl
theorem sOrder_ct {M : Mem} : Ct Tryz.prog 11 #[] M (Det (.agg (N qq).toArray) M) := by
  refine ct_of (vs := []) Tryz.func11 rfl Tryz.ntmps11 rfl fun w0 => ?_
  refine at_seq ?_
  refine at_region ?_
  refine at_n rfl rfl (opr_alloc rfl zero31 rfl) ?_
  intro g0
  refine at_nil ?_
  refine at_then ?_
  refine at_seq ?_
  refine at_region ?_
  refine at_d rfl rfl (opr_buildP rfl rfl wbuilt_qq) ?_
  refine at_d rfl rfl (opr_call rfl rfl rfl Tryz.func23 (by kernel_rfl) rfl (words_qq)) ?_
  refine at_d rfl rfl (opr_store (i := 0) rfl rfl rfl rfl rfl size31 (N_length _) (by rw [N_length]; decide) (N_flat _) N_over) ?_
  refine at_nil ?_
  refine at_then ?_
  refine at_ret ?_
  refine done_of (res1 Tryz.results11 (res_cell (i := 0) rfl rfl Tryz.underlying31 rfl size31 (N_length _) (N_at _))) ⟨rfl, rfl⟩ (by repeat (first | exact List.Sublist.refl _ | apply List.Sublist.cons))
end Go.Proofs.YtjlhhcdefcofkaaGreatDoor
