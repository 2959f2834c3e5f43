/- DecR, DecD, DecP, DecU, DecL, in one text. -/
import Derived.Test.YtjanppnnioeifaaDoorPtL0
import Derived.Test.YtjanppnnioeifaaDoorPtS
import Derived.Test.YtjanppnnioeifaaDoorPower
import Derived.Test.YtjanppnnioeifaaDoorDrawA
import Derived.Test.YtjanppnnioeifaaDoorEncE
import Derived.Test.YtjanppnnioeifaaDoorDrawB
import Derived.Test.YtjanppnnioeifaaDoorEncD
import Derived.Test.YtjanppnnioeifaaDoorEncW
import Derived.Test.YtjanppnnioeifaaDoorRefW
/- The reference's roots. -/
namespace Go.Proofs.YtjanppnnioeifaaDoor
open Go
set_option maxRecDepth 100000

theorem half_dig (a k : Nat) : a / 2 / 65536 ^ k % 65536 = a / 65536 ^ k % 65536 / 2 + a / 65536 ^ (k + 1) % 65536 % 2 * 32768 := by
  rw [Nat.div_div_eq_div_mul, Nat.mul_comm, ← Nat.div_div_eq_div_mul, Nat.pow_succ, ← Nat.div_div_eq_div_mul]
  generalize a / 65536 ^ k = A
  omega
theorem half_top {a : Nat} (h : a < RR) : a / 65536 ^ 27 % 65536 / 2 = a / 2 / 65536 ^ 27 % 65536 := by
  rw [half_dig, Nat.div_eq_of_lt (show a < 65536 ^ (27 + 1) by rw [← RR_pow] at h; exact h)]
  simp
theorem half_top' {a k : Nat} (h : a < RR) (e : k = 27) : a / 2 / 65536 ^ k % 65536 = a / 65536 ^ k % 65536 / 2 := by subst e; exact (half_top h).symm
theorem u64_eq' {a b : Nat} (h : a = b) : Value.int .u64 (a : Int) = Value.int .u64 (b : Int) := congrArg (fun n : Nat => Value.int .u64 (n : Int)) h
theorem set_set_mix {m l : List Nat} {n k u x : Nat} (hm : m.length = n) (hl : l.length = n) (hk : k < n) (hx : m[k]? = some x) : ((mixl m l k).set k u).set k x = mixl m l (k + 1) := by
  rw [List.set_set]; exact mixl_put hm hl hk hx
theorem half_ct {M : Mem} {a : Nat} (ha : a < RR) : Ct Tryd.prog 79 #[.agg (N a).toArray] M (Det (.agg (N (a / 2)).toArray) M) := by
  refine ct_of (vs := [.agg (N a).toArray]) Tryd.func79 rfl Tryd.ntmps79 rfl fun w0 => ?_
  refine at_seq ?_
  refine at_region ?_
  refine at_n rfl rfl (opr_box rfl rfl rfl) ?_
  intro g0
  refine at_n rfl rfl (opr_alloc rfl zero31 rfl) ?_
  intro g1
  refine at_nil ?_
  refine at_then ?_
  refine at_seq ?_
  refine at_region ?_
  refine at_d rfl rfl (opr_buildE (ds := N 0) rfl rfl builtn31 rfl) ?_
  refine at_n rfl rfl (opr_alloc rfl zero31 rfl) ?_
  intro g2
  refine at_d rfl rfl (opr_store (i := 0) rfl rfl rfl rfl rfl size31 (N_length _) (by rw [N_length]; decide) (N_flat _) N_over) ?_
  refine at_nil ?_
  refine at_then ?_
  refine at_seq ?_
  refine at_seq ?_
  refine at_region ?_
  refine at_d rfl rfl (opr_move rfl rfl) ?_
  refine at_nil ?_
  refine at_then ?_
  refine at_block ?_
  refine at_loop (fun (x : Nat) => [(1, .pointer (some ⟨g0, 0, none⟩)), (2, .pointer (some ⟨g1, 0, none⟩)), (3, .pointer (some ⟨g2, 0, none⟩)), (6, .int .i64 (x : Int))]) (fun (x : Nat) => ⟨g2, 31, W ((mixl (digs 65536 28 (a / 2)) (digs 65536 28 0) x))⟩ :: ⟨g1, 31, N (0)⟩ :: ⟨g0, 31, N (a)⟩ :: M) (fun (x : Nat) => 28 - x) (fun (x : Nat) => x ≤ 28) 0 (Nat.zero_le _) (allIn ⟨rfl, rfl, rfl, rfl, trivial⟩) (by rw [mixl_zero]; exact List.Sublist.refl _) ?_
  intro k hk0
  dsimp only
  refine at_seq ?_
  refine at_region ?_
  refine at_d rfl rfl (opr_lss (a := k) (b := 28) rfl rfl rfl) ?_
  refine at_nil ?_
  refine at_then ?_
  refine at_seq ?_
  refine at_cond rfl (fun ht => ?_) (fun ht => ?_)
  ·
    have hk : k < 28 := of_decide_eq_true ht
    refine at_skip ?_
    refine at_then ?_
    refine at_seq ?_
    refine at_block ?_
    refine at_seq ?_
    refine at_region ?_
    refine at_d rfl rfl (opr_move rfl rfl) ?_
    refine at_d rfl rfl (opr_assign rfl rfl) ?_
    refine at_nil ?_
    refine at_then ?_
    refine at_seq ?_
    refine at_region ?_
    refine at_d rfl rfl (opr_move rfl rfl) ?_
    refine at_d rfl rfl (opr_move rfl rfl) ?_
    refine at_d rfl rfl (opr_indexAddr (j := k) (off' := k) rfl rfl rfl Tryd.underlying31 hk size29 (by omega)) ?_
    refine at_d rfl rfl (opr_load1 (i := 2) rfl rfl rfl Tryd.underlying29 rfl (W_get (digs_get 28 a k hk))) ?_
    refine at_d rfl rfl (opr_quo64 (b := 2) rfl rfl rfl (by decide) (by have := Nat.mod_lt (a / 65536 ^ k) (show 0 < 65536 by decide); omega)) ?_
    refine at_d rfl rfl (opr_indexAddr (j := k) (off' := k) rfl rfl rfl Tryd.underlying31 hk size29 (by omega)) ?_
    refine at_d rfl rfl (opr_store (i := 0) rfl rfl rfl rfl rfl size29 rfl (by rw [W_length, (mixl_length (digs_length _ _ _) (digs_length _ _ _) (Nat.le_of_lt hk))]; omega) flat_one (W_put (by rw [(mixl_length (digs_length _ _ _) (digs_length _ _ _) (Nat.le_of_lt hk))]; exact hk) rfl)) ?_
    refine at_nil ?_
    refine at_then ?_
    refine at_seq ?_
    refine at_region ?_
    refine at_d rfl rfl (opr_move rfl rfl) ?_
    refine at_d rfl rfl (opr_lss (a := k) (b := 27) rfl rfl rfl) ?_
    refine at_nil ?_
    refine at_then ?_
    refine at_cond rfl (fun ht => ?_) (fun ht => ?_)
    ·
      have hk2 : k < 27 := of_decide_eq_true ht
      refine at_draw (by kernel_rfl) (by kernel_rfl) (by kernel_rfl) (List.cons_ne_nil _ _) ?_
      refine dr_op rfl rfl (opr_move rfl rfl) ?_
      refine dr_op rfl rfl (opr_move rfl rfl) ?_
      refine dr_op rfl rfl (opr_indexAddr (j := k) (off' := k) rfl rfl rfl Tryd.underlying31 hk size29 (by omega)) ?_
      refine dr_op rfl rfl (opr_load1 (i := 0) rfl rfl rfl Tryd.underlying29 rfl (W_get (List.getElem?_set_self (by rw [(mixl_length (digs_length _ _ _) (digs_length _ _ _) (Nat.le_of_lt hk))]; exact hk)))) ?_
      refine dr_op rfl rfl (opr_move rfl rfl) ?_
      refine dr_op rfl rfl (opr_addI (a := k) (b := 1) rfl rfl rfl (by omega)) ?_
      refine dr_op rfl rfl (opr_indexAddr (j := k + 1) (off' := k + 1) rfl rfl rfl Tryd.underlying31 (by omega) size29 (by omega)) ?_
      refine dr_op rfl rfl (opr_load1 (i := 2) rfl rfl rfl Tryd.underlying29 rfl (W_get (digs_get 28 a (k + 1) (by omega)))) ?_
      refine dr_op rfl rfl (opr_rem64 (b := 2) rfl rfl rfl (by decide)) ?_
      refine dr_op rfl rfl (opr_eq' (opr_mul64 (b := 32768) rfl rfl rfl) (u64_eq' (b := a / 65536 ^ (k + 1) % 65536 % 2 * 32768) (Nat.mod_eq_of_lt (by omega)))) ?_
      refine dr_op rfl rfl (opr_eq' (opr_add64 rfl rfl rfl) (u64_eq' (b := a / 2 / 65536 ^ k % 65536) (by rw [half_dig]; exact Nat.mod_eq_of_lt (by omega)))) ?_
      refine dr_op rfl rfl (opr_indexAddr (j := k) (off' := k) rfl rfl rfl Tryd.underlying31 hk size29 (by omega)) ?_
      refine dr_last rfl rfl (opr_store (i := 0) rfl rfl rfl rfl rfl size29 rfl (by rw [W_length, List.length_set, (mixl_length (digs_length _ _ _) (digs_length _ _ _) (Nat.le_of_lt hk))]; omega) flat_one (W_put (by rw [List.length_set, (mixl_length (digs_length _ _ _) (digs_length _ _ _) (Nat.le_of_lt hk))]; exact hk) (set_set_mix (digs_length _ _ _) (digs_length _ _ _) hk (digs_get 28 (a / 2) k hk)))) ?_
      refine at_inBlock_normal ?_
      refine at_then ?_
      refine at_region ?_
      refine at_d rfl rfl (opr_addI (a := k) (b := 1) rfl rfl rfl (by omega)) ?_
      refine at_d rfl rfl (opr_move rfl rfl) ?_
      refine at_nil ?_
      exact at_round (k + 1) (by omega) (by omega) (allIn ⟨rfl, rfl, rfl, rfl, trivial⟩) (List.Sublist.refl _)
    ·
      have e27 : k = 27 := by have := of_decide_eq_false ht; omega
      rw [show ((mixl (digs 65536 28 (a / 2)) (digs 65536 28 0) k).set k ((a / 65536 ^ k % 65536) / 2)) = (mixl (digs 65536 28 (a / 2)) (digs 65536 28 0) (k + 1)) from mixl_put (digs_length _ _ _) (digs_length _ _ _) hk ((digs_get 28 (a / 2) k hk).trans (by rw [half_top' ha e27]))]
      refine at_skip ?_
      refine at_inBlock_normal ?_
      refine at_then ?_
      refine at_region ?_
      refine at_d rfl rfl (opr_addI (a := k) (b := 1) rfl rfl rfl (by omega)) ?_
      refine at_d rfl rfl (opr_move rfl rfl) ?_
      refine at_nil ?_
      exact at_round (k + 1) (by omega) (by omega) (allIn ⟨rfl, rfl, rfl, rfl, trivial⟩) (List.Sublist.refl _)
  ·
    obtain rfl : k = 28 := by have := of_decide_eq_false ht; omega
    rw [mixl_end (digs_length 65536 28 _) (digs_length _ _ _)]
    refine (show At _ _ (⟨g2, 31, N ((a / 2))⟩ :: ⟨g1, 31, N (0)⟩ :: ⟨g0, 31, N (a)⟩ :: _) _ from ?_)
    refine at_exit ?_
    refine at_then_exit ?_
    refine at_then_exit ?_
    refine at_inBlock_same ?_
    refine at_then ?_
    refine at_seq ?_
    refine at_region ?_
    refine at_d rfl rfl (opr_load (i := 0) rfl rfl rfl Tryd.underlying31 rfl size31 (N_length _) (N_at _)) ?_
    refine at_d rfl rfl (opr_store (i := 1) rfl rfl rfl rfl rfl size31 (N_length _) (by rw [N_length]; decide) (N_flat _) N_over) ?_
    refine at_nil ?_
    refine at_then ?_
    refine at_ret ?_
    refine done_of (res1 Tryd.results79 (res_cell (i := 1) rfl rfl Tryd.underlying31 rfl size31 (N_length _) (N_at _))) ⟨rfl, rfl⟩ (by repeat (first | exact List.Sublist.refl _ | apply List.Sublist.cons))
theorem root_ct {M : Mem} {w : Nat} (hw : w < RR) : Ct Tryd.prog 49 #[.agg (N w).toArray] M (Det (.tuple #[.agg (N (powp w (pp / 2 / 2 + 1))).toArray, .bool (decide ((powp w (pp / 2 / 2 + 1)) * (powp w (pp / 2 / 2 + 1)) % pp = w % pp))]) M) := by
  refine ct_of (vs := [.agg (N w).toArray]) Tryd.func49 rfl Tryd.ntmps49 rfl fun w0 => ?_
  refine at_seq ?_
  refine at_region ?_
  refine at_n rfl rfl (opr_box rfl rfl rfl) ?_
  intro g0
  refine at_n rfl rfl (opr_alloc rfl zero31 rfl) ?_
  intro g1
  refine at_d rfl rfl (opr_assign rfl rfl) ?_
  refine at_nil ?_
  refine at_then ?_
  refine at_seq ?_
  refine at_drawG (B := [⟨g1, 31, N (0)⟩, ⟨g0, 31, N (w)⟩]) (E := [⟨.pure [1], 0, [], .v (.agg (N (w)).toArray)⟩, ⟨.pure [], 0, [], .v (.agg (N (pp)).toArray)⟩, ⟨.pure [], 0, [], .v (.agg (N ((pp / 2))).toArray)⟩, ⟨.pure [], 0, [], .v (.agg (N (((pp / 2) / 2))).toArray)⟩, ⟨.pure [], 0, [], .v (.agg (N ((pp / 2 / 2 + 1))).toArray)⟩, ⟨.pure [], 0, [], .v (.agg (N ((powp w (pp / 2 / 2 + 1)))).toArray)⟩, ⟨.alloc, 31, N (0), .p 6 0⟩, ⟨.storeA 6, 0, N ((powp w (pp / 2 / 2 + 1))), .v undef⟩]) (by kernel_rfl) (by kernel_rfl) (by kernel_rfl) (fun γ0 => ?_)
  refine gs_pure rfl rfl (fun M' sB sT => ?_) ?_
  · obtain ⟨iB1, hB1⟩ := sB 1 _ rfl rfl; exact opr_load (i := iB1) rfl rfl hB1 Tryd.underlying31 rfl size31 (N_length _) (N_at _)
  refine gs_pure rfl rfl (fun M' sB sT => ?_) ?_
  · exact opr_call rfl rfl rfl Tryd.func21 (by kernel_rfl) rfl (p_ct)
  refine gs_pure rfl rfl (fun M' sB sT => ?_) ?_
  · exact opr_call rfl rfl rfl Tryd.func79 (by kernel_rfl) rfl (half_ct (by decide))
  refine gs_pure rfl rfl (fun M' sB sT => ?_) ?_
  · exact opr_call rfl rfl rfl Tryd.func79 (by kernel_rfl) rfl (half_ct (by decide))
  refine gs_pure rfl rfl (fun M' sB sT => ?_) ?_
  · exact opr_call rfl rfl rfl Tryd.func78 (by kernel_rfl) rfl (plusOne_ct (by decide))
  refine gs_pure rfl rfl (fun M' sB sT => ?_) ?_
  · exact opr_call rfl rfl rfl Tryd.func77 (by kernel_rfl) rfl (power_ct hw (by decide))
  refine gs_alloc rfl rfl (fun M' => opr_alloc rfl zero31 rfl) ?_
  refine gs_storeA rfl rfl rfl rfl rfl (fun M' j hj => opr_store (i := j) rfl rfl rfl rfl hj size31 (N_length _) (by rw [N_length]; decide) (N_flat _) N_over) ?_
  refine gs_nil ?_
  refine (show At _ _ (⟨(γ0 6), 31, N ((powp w (pp / 2 / 2 + 1)))⟩ :: ⟨g1, 31, N (0)⟩ :: ⟨g0, 31, N (w)⟩ :: _) _ from ?_)
  refine at_then ?_
  refine at_seq ?_
  refine at_drawK (by kernel_rfl) (by kernel_rfl) (M1 := ⟨(γ0 6), 31, N ((powp w (pp / 2 / 2 + 1)))⟩ :: ⟨g1, 31, N ((powp w (pp / 2 / 2 + 1)))⟩ :: ⟨g0, 31, N (w)⟩ :: M) (M2 := ⟨(γ0 6), 31, N ((powp w (pp / 2 / 2 + 1)))⟩ :: ⟨g1, 31, N ((powp w (pp / 2 / 2 + 1)))⟩ :: ⟨g0, 31, N (w)⟩ :: M) [4, 4, 4, 0, 4, 0, 0, 1, 0] 7 9 (by kernel_rfl) (.inr rfl) ?_
  refine drK4 rfl rfl (opr_load (i := 0) rfl rfl rfl Tryd.underlying31 rfl size31 (N_length _) (N_at _)) ?_
  refine drK4 rfl rfl (opr_load (i := 0) rfl rfl rfl Tryd.underlying31 rfl size31 (N_length _) (N_at _)) ?_
  refine drK4 rfl rfl (opr_load (i := 0) rfl rfl rfl Tryd.underlying31 rfl size31 (N_length _) (N_at _)) ?_
  refine drK0 rfl rfl (fun _ => opr_call rfl rfl rfl Tryd.func22 (by kernel_rfl) rfl (sMul_ct (powp_RR _ _) (powp_RR _ _))) ?_
  refine drK4 rfl rfl (opr_load (i := 2) rfl rfl rfl Tryd.underlying31 rfl size31 (N_length _) (N_at _)) ?_
  refine drK0 rfl rfl (fun _ => opr_call rfl rfl rfl Tryd.func42 (by kernel_rfl) rfl (mod_ct hw)) ?_
  refine drK0 rfl rfl (fun _ => opr_eqlN rfl rfl rfl Tryd.underlying31 Tryd.underlying29 size29 (by kernel_rfl) (modp_lt _) (modp_lt _)) ?_
  refine drK1 rfl rfl (opr_store (i := 1) rfl rfl rfl rfl rfl size31 (N_length _) (by rw [N_length]; decide) (N_flat _) N_over) ?_
  refine drK0 rfl rfl (fun _ => opr_assign rfl rfl) ?_
  refine at_then ?_
  refine at_ret ?_
  exact done_of (res2 Tryd.results49 (res_cell (i := 1) rfl rfl Tryd.underlying31 rfl size31 (N_length _) (N_at _)) (res_tmp rfl)) ⟨rfl, rfl⟩ (by repeat (first | exact List.Sublist.refl _ | apply List.Sublist.cons))
end Go.Proofs.YtjanppnnioeifaaDoor

/- The reference's Decode. -/
namespace Go.Proofs.YtjanppnnioeifaaDoor
open Go
set_option maxRecDepth 100000

theorem builtz22 : Tryd.prog.built 22 [] = some (List.replicate 56 (Value.int .u8 0)).toArray := by kernel_rfl
noncomputable def dW (y : Nat) : Nat := (y * y % pp + negp 1) % pp * invp ((curvN (y * y % pp) + negp 1) % pp) % pp
noncomputable def dR (y : Nat) : Nat := powp (dW y) (pp / 2 / 2 + 1)
noncomputable def dOk (y : Nat) : Bool := decide (dR y * dR y % pp = dW y % pp)
theorem dW_lt (y : Nat) : dW y < RR := modp_lt _
theorem dR_pp (y : Nat) : dR y < pp := powp_lt _ _
theorem dR_lt (y : Nat) : dR y < RR := powp_RR _ _
theorem opr_neqF {P : Program} {St : Slots} {M : Mem} {o : Oper} {x y : Operand} {T T' : Nat} {k : IntKind} {a : Nat} (ho : o.op = .binOp .neq T x y T') (hx : evalS St x = some (.int k (a : Int))) (hy : evalS St y = some (.int k (a : Int))) : OpR P St M o (Det (.bool false) M) :=
  opr_eq' (opr_neq ho hx hy) (congrArg Value.bool (decide_eq_false (fun h => h rfl)))
theorem rootW_ct {M : Mem} {y : Nat} : Ct Tryd.prog 49 #[.agg (N (dW y)).toArray] M (Det (.tuple #[.agg (N (dR y)).toArray, .bool (dOk y)]) M) := root_ct (dW_lt y)
theorem sDecodeT_ct {M : Mem} {gl off c y s : Nat} (hy : y < pp) (hs : s < 2) (hok : dOk y = true) (h0 : ¬ dR y = 0) (hs1 : dR y % 2 = s) : CtW Tryd.prog 24 #[.slice (some ⟨gl, off, none⟩) 57 c] gl off (EB y (s * 128)) M (Det (.tuple #[.agg (E (dR y)).toArray, .agg (E y).toArray, .bool true]) M) := by
  have hyR : y < RR := pp_lt_RR hy
  refine ct_ofW (vs := [.slice (some ⟨gl, off, none⟩) 57 c]) Tryd.func24 rfl Tryd.ntmps24 rfl fun w0 hro => ?_
  refine at_seq ?_
  refine at_region ?_
  refine at_n rfl rfl (opr_alloc rfl zero22 rfl) ?_
  intro g0
  refine at_n rfl rfl (opr_alloc rfl zero22 rfl) ?_
  intro g1
  refine at_d rfl rfl (opr_assign rfl rfl) ?_
  refine at_nil ?_
  refine at_then ?_
  refine at_seq ?_
  refine at_region ?_
  refine at_d rfl rfl (opr_buildE (ds := E 0) rfl rfl builtz22 rfl) ?_
  refine at_n rfl rfl (opr_alloc rfl zero22 rfl) ?_
  intro g2
  refine at_d rfl rfl (opr_store (i := 0) rfl rfl rfl rfl rfl size22 (E_length _) (by rw [EE_length]; exact Nat.le_of_ble_eq_true rfl) (E_flat _) (EE_set (k := 0) (Nat.le_of_ble_eq_true rfl) rfl)) ?_
  refine at_nil ?_
  refine at_then ?_
  refine at_seq ?_
  refine at_region ?_
  refine at_d rfl rfl (opr_sliceAll rfl rfl Tryd.underlying22 rfl size5) ?_
  refine at_d rfl rfl (opr_move rfl rfl) ?_
  refine at_dW hro rfl rfl (opr_copyW (i := 0) (n := 56) (vs := E y) rfl rfl rfl rfl Tryd.underlying38 size5 rfl (E_length _) (EB_head _ _) (by rw [EE_length]; decide) (E_flat _) (EE_set (k := 0) (Nat.le_of_ble_eq_true rfl) rfl)) ?_
  refine at_nil ?_
  refine at_then ?_
  refine at_seq ?_
  refine at_region ?_
  refine at_d rfl rfl (opr_load (i := 0) rfl rfl rfl Tryd.underlying22 rfl size22 (E_length _) (EE_at (k := 0) rfl rfl rfl)) ?_
  refine at_d rfl rfl (opr_call rfl rfl rfl Tryd.func20 (by kernel_rfl) rfl (of_ct _)) ?_
  refine at_n rfl rfl (opr_alloc rfl zero31 rfl) ?_
  intro g3
  refine at_d rfl rfl (opr_store (i := 0) rfl rfl rfl rfl rfl size31 (N_length _) (by rw [N_length]; decide) (N_flat _) N_over) ?_
  refine at_nil ?_
  refine at_then ?_
  refine at_seq ?_
  refine at_region ?_
  refine at_d rfl rfl (opr_load (i := 0) rfl rfl rfl Tryd.underlying31 rfl size31 (N_length _) (N_at _)) ?_
  refine at_d rfl rfl (opr_load (i := 0) rfl rfl rfl Tryd.underlying31 rfl size31 (N_length _) (N_at _)) ?_
  refine at_d rfl rfl (opr_call rfl rfl rfl Tryd.func22 (by kernel_rfl) rfl (sMul_ct hyR hyR)) ?_
  refine at_n rfl rfl (opr_alloc rfl zero31 rfl) ?_
  intro g4
  refine at_d rfl rfl (opr_store (i := 0) rfl rfl rfl rfl rfl size31 (N_length _) (by rw [N_length]; decide) (N_flat _) N_over) ?_
  refine at_nil ?_
  refine at_then ?_
  refine at_seq ?_
  refine at_drawG (B := [⟨g4, 31, N ((y * y % pp))⟩, ⟨g3, 31, N (y)⟩, ⟨g2, 22, EE [y]⟩, ⟨g1, 22, EE [0]⟩, ⟨g0, 22, EE [0]⟩]) (E := [⟨.pure [0], 0, [], .v (.agg (N ((y * y % pp))).toArray)⟩, ⟨.pure [], 0, [], .v (.agg (N (1)).toArray)⟩, ⟨.pure [], 0, [], .v (.agg (N ((((y * y % pp) + negp 1) % pp))).toArray)⟩, ⟨.pure [0], 0, [], .v (.agg (N ((y * y % pp))).toArray)⟩, ⟨.pure [], 0, [], .v (.agg (N ((curvN (y * y % pp)))).toArray)⟩, ⟨.pure [], 0, [], .v (.agg (N (1)).toArray)⟩, ⟨.pure [], 0, [], .v (.agg (N ((((curvN (y * y % pp)) + negp 1) % pp))).toArray)⟩, ⟨.pure [], 0, [], .v (.agg (N ((invp (((curvN (y * y % pp)) + negp 1) % pp)))).toArray)⟩, ⟨.pure [], 0, [], .v (.agg (N ((dW y))).toArray)⟩, ⟨.pure [], 0, [], .v (.tuple #[.agg (N ((dR y))).toArray, .bool (dOk y)])⟩, ⟨.pure [], 0, [], .v (.tuple #[.agg (N ((dR y))).toArray, .bool (dOk y)])⟩, ⟨.pure [], 0, [], .v (.agg (N ((dR y))).toArray)⟩, ⟨.pure [], 0, [], .v (.bool (dOk y))⟩, ⟨.alloc, 31, N (0), .p 13 0⟩, ⟨.storeA 13, 0, N ((dR y)), .v undef⟩, ⟨.pure [], 0, [], .v (.bool (dOk y))⟩]) (by kernel_rfl) (by kernel_rfl) (by kernel_rfl) (fun γ0 => ?_)
  refine gs_pure rfl rfl (fun M' sB sT => ?_) ?_
  · obtain ⟨iB0, hB0⟩ := sB 0 _ rfl rfl; exact opr_load (i := iB0) rfl rfl hB0 Tryd.underlying31 rfl size31 (N_length _) (N_at _)
  refine gs_pure rfl rfl (fun M' sB sT => ?_) ?_
  · exact opr_call rfl rfl rfl Tryd.func23 (by kernel_rfl) rfl (small_ct (c := 1) (by decide))
  refine gs_pure rfl rfl (fun M' sB sT => ?_) ?_
  · exact opr_call rfl rfl rfl Tryd.func50 (by kernel_rfl) rfl (sSub_ct (modp_lt _) RR_one)
  refine gs_pure rfl rfl (fun M' sB sT => ?_) ?_
  · obtain ⟨iB0, hB0⟩ := sB 0 _ rfl rfl; exact opr_load (i := iB0) rfl rfl hB0 Tryd.underlying31 rfl size31 (N_length _) (N_at _)
  refine gs_pure rfl rfl (fun M' sB sT => ?_) ?_
  · exact opr_call rfl rfl rfl Tryd.func52 (by kernel_rfl) rfl (curved_ct (modp_lt _))
  refine gs_pure rfl rfl (fun M' sB sT => ?_) ?_
  · exact opr_call rfl rfl rfl Tryd.func23 (by kernel_rfl) rfl (small_ct (c := 1) (by decide))
  refine gs_pure rfl rfl (fun M' sB sT => ?_) ?_
  · exact opr_call rfl rfl rfl Tryd.func50 (by kernel_rfl) rfl (sSub_ct (curvN_lt _) RR_one)
  refine gs_pure rfl rfl (fun M' sB sT => ?_) ?_
  · exact opr_call rfl rfl rfl Tryd.func51 (by kernel_rfl) rfl (sInv_ct (modp_lt _))
  refine gs_pure rfl rfl (fun M' sB sT => ?_) ?_
  · exact opr_call rfl rfl rfl Tryd.func22 (by kernel_rfl) rfl ((show Ct _ _ _ _ (Det (.agg (N (dW y)).toArray) _) from sMul_ct (modp_lt _) (invp_RR _)))
  refine gs_pure rfl rfl (fun M' sB sT => ?_) ?_
  · exact opr_call rfl rfl rfl Tryd.func49 (by kernel_rfl) rfl (rootW_ct)
  refine gs_pure rfl rfl (fun M' sB sT => ?_) ?_
  · exact opr_move rfl rfl
  refine gs_pure rfl rfl (fun M' sB sT => ?_) ?_
  · exact opr_extract rfl rfl rfl
  refine gs_pure rfl rfl (fun M' sB sT => ?_) ?_
  · exact opr_extract rfl rfl rfl
  refine gs_alloc rfl rfl (fun M' => opr_alloc rfl zero31 rfl) ?_
  refine gs_storeA rfl rfl rfl rfl rfl (fun M' j hj => opr_store (i := j) rfl rfl rfl rfl hj size31 (N_length _) (by rw [N_length]; decide) (N_flat _) N_over) ?_
  refine gs_pure rfl rfl (fun M' sB sT => ?_) ?_
  · exact opr_assign rfl rfl
  refine gs_nil ?_
  refine (show At _ _ (⟨(γ0 13), 31, N ((dR y))⟩ :: ⟨g4, 31, N ((y * y % pp))⟩ :: ⟨g3, 31, N (y)⟩ :: ⟨g2, 22, EE [y]⟩ :: ⟨g1, 22, EE [0]⟩ :: ⟨g0, 22, EE [0]⟩ :: _) _ from ?_)
  rw [hok]
  refine at_then ?_
  refine at_seq ?_
  refine at_seq ?_
  refine at_drawW (by kernel_rfl) (by kernel_rfl) ?_
  refine drW_op rfl rfl (opr_move rfl rfl) ?_
  refine drW_op rfl rfl (opr_lenS (n := 57) rfl rfl Tryd.underlying38) ?_
  refine drW_op rfl rfl (opr_neqF (a := 57) rfl rfl rfl) ?_
  refine drW_op rfl rfl (opr_move rfl rfl) ?_
  refine drW_op rfl rfl (opr_move rfl rfl) ?_
  refine drW_op rfl rfl (opr_indexAddrS (j := 56) (off' := off + 56) rfl rfl rfl Tryd.underlying38 (by decide) size5 rfl) ?_
  refine drW_opW hro rfl rfl (opr_loadW (j := 56) rfl rfl Tryd.underlying5 rfl rfl (EB_last _ _)) ?_
  refine drW_op rfl rfl (opr_eq' (opr_rem8 (b := 128) rfl rfl rfl (by decide)) (u8_eq' (b := 0) (Nat.mul_mod_left _ _))) ?_
  refine drW_op rfl rfl (opr_neqF (a := 0) rfl rfl rfl) ?_
  refine drW_op rfl rfl (opr_pickN rfl rfl rfl) ?_
  refine drW_op rfl rfl (opr_move rfl rfl) ?_
  refine drW_op rfl rfl (opr_load (i := 2) rfl rfl rfl Tryd.underlying31 rfl size31 (N_length _) (N_at _)) ?_
  refine drW_op rfl rfl (opr_call rfl rfl rfl Tryd.func21 (by kernel_rfl) rfl (p_ct)) ?_
  refine drW_op rfl rfl (opr_call rfl rfl rfl Tryd.func19 (by kernel_rfl) rfl (lessT_ct hyR RR_pp hy)) ?_
  refine drW_op rfl rfl (opr_unOp (u := .bool false) rfl rfl (fun _ => rfl)) ?_
  refine drW_op rfl rfl (opr_pickN rfl rfl rfl) ?_
  refine drW_op rfl rfl (opr_move rfl rfl) ?_
  refine drW_op rfl rfl (opr_move rfl rfl) ?_
  refine drW_op rfl rfl (opr_unOp (u := .bool false) rfl rfl (fun _ => rfl)) ?_
  refine drW_op rfl rfl (opr_pickN rfl rfl rfl) ?_
  refine drW_op rfl rfl (opr_move rfl rfl) ?_
  refine drW_op rfl rfl (opr_load (i := 0) rfl rfl rfl Tryd.underlying31 rfl size31 (N_length _) (N_at _)) ?_
  refine drW_op rfl rfl (opr_buildE (ds := N 0) rfl rfl builtn31 rfl) ?_
  refine drW_op rfl rfl (opr_eqlNb (t := false) rfl rfl rfl Tryd.underlying31 Tryd.underlying29 size29 (by kernel_rfl) (dR_lt y) (by decide) (decide_eq_false h0)) ?_
  refine drW_op rfl rfl (opr_move rfl rfl) ?_
  refine drW_skip rfl rfl ?_
  refine drW_skip rfl rfl ?_
  refine drW_skip rfl rfl ?_
  refine drW_skip rfl rfl ?_
  refine drW_op rfl rfl (opr_pickN rfl rfl rfl) ?_
  refine drW_op rfl rfl (opr_pickN rfl rfl rfl) ?_
  refine drW_nil ?_
  refine at_then ?_
  refine at_cond_false rfl ?_
  refine at_skip ?_
  refine at_then ?_
  refine at_seq ?_
  refine at_seq ?_
  refine at_drawW (by kernel_rfl) (by kernel_rfl) ?_
  refine drW_op rfl rfl (opr_indexAddr (j := 0) rfl rfl rfl Tryd.underlying31 (by decide) size29 rfl) ?_
  refine drW_op rfl rfl (opr_load1 (i := 0) rfl rfl rfl Tryd.underlying29 rfl (W_get (digs_get 28 (dR y) 0 (by decide)))) ?_
  refine drW_op rfl rfl (opr_eq' (opr_rem64 (b := 2) rfl rfl rfl (by decide)) (u64_eq' (b := dR y % 2) (by rw [Nat.pow_zero, Nat.div_one]; omega))) ?_
  refine drW_op rfl rfl (opr_move rfl rfl) ?_
  refine drW_op rfl rfl (opr_indexAddrS (j := 56) (off' := off + 56) rfl rfl rfl Tryd.underlying38 (by decide) size5 rfl) ?_
  refine drW_opW hro rfl rfl (opr_loadW (j := 56) rfl rfl Tryd.underlying5 rfl rfl (EB_last _ _)) ?_
  refine drW_op rfl rfl (opr_eq' (opr_shr8 (n := 7) rfl rfl rfl (by decide)) (u8_eq' (b := s) (by omega))) ?_
  refine drW_op rfl rfl (opr_to64 (n := s) rfl rfl Tryd.underlying5 Tryd.underlying29 (by omega)) ?_
  refine drW_op rfl rfl (opr_eq' (opr_neq (a := dR y % 2) (b := s) rfl rfl rfl) (congrArg Value.bool (decide_eq_false (fun h => h hs1)))) ?_
  refine drW_nil ?_
  refine at_then ?_
  refine at_cond_false rfl ?_
  refine at_skip ?_
  refine at_then ?_
  refine at_seq ?_
  refine at_drawG (B := [⟨(γ0 13), 31, N ((dR y))⟩, ⟨g4, 31, N ((y * y % pp))⟩, ⟨g3, 31, N (y)⟩, ⟨g2, 22, EE [y]⟩, ⟨g1, 22, EE [0]⟩, ⟨g0, 22, EE [0]⟩]) (E := [⟨.pure [0], 0, [], .v (.agg (N ((dR y))).toArray)⟩, ⟨.pure [], 0, [], .v (.agg (E ((dR y))).toArray)⟩, ⟨.pure [3], 0, [], .v (.agg (E (y)).toArray)⟩, ⟨.storeB 5, 0, EE [(dR y)], .v undef⟩, ⟨.storeB 4, 0, EE [y], .v undef⟩, ⟨.pure [], 0, [], .v (.bool true)⟩]) (by kernel_rfl) (by kernel_rfl) (by kernel_rfl) (fun γ1 => ?_)
  refine gs_pure rfl rfl (fun M' sB sT => ?_) ?_
  · obtain ⟨iB0, hB0⟩ := sB 0 _ rfl rfl; exact opr_load (i := iB0) rfl rfl hB0 Tryd.underlying31 rfl size31 (N_length _) (N_at _)
  refine gs_pure rfl rfl (fun M' sB sT => ?_) ?_
  · exact opr_call rfl rfl rfl Tryd.func54 (by kernel_rfl) rfl (bytes_ct _)
  refine gs_pure rfl rfl (fun M' sB sT => ?_) ?_
  · obtain ⟨iB3, hB3⟩ := sB 3 _ rfl rfl; exact opr_load (i := iB3) rfl rfl hB3 Tryd.underlying22 rfl size22 (E_length _) (EE_at (k := 0) rfl rfl rfl)
  refine gs_storeB rfl rfl rfl (fun M' j hj => opr_store (i := j) rfl rfl rfl rfl hj size22 (E_length _) (by rw [EE_length]; exact Nat.le_of_ble_eq_true rfl) (E_flat _) (EE_set (k := 0) (Nat.le_of_ble_eq_true rfl) rfl)) ?_
  refine gs_storeB rfl rfl rfl (fun M' j hj => opr_store (i := j) rfl rfl rfl rfl hj size22 (E_length _) (by rw [EE_length]; exact Nat.le_of_ble_eq_true rfl) (E_flat _) (EE_set (k := 0) (Nat.le_of_ble_eq_true rfl) rfl)) ?_
  refine gs_pure rfl rfl (fun M' sB sT => ?_) ?_
  · exact opr_assign rfl rfl
  refine gs_nil ?_
  refine (show At _ _ (⟨(γ0 13), 31, N ((dR y))⟩ :: ⟨g4, 31, N ((y * y % pp))⟩ :: ⟨g3, 31, N (y)⟩ :: ⟨g2, 22, EE [y]⟩ :: ⟨g1, 22, EE [y]⟩ :: ⟨g0, 22, EE [(dR y)]⟩ :: _) _ from ?_)
  refine at_then ?_
  refine at_ret ?_
  exact done_of (res3 Tryd.results24 (res_cell (i := 5) rfl rfl Tryd.underlying22 rfl size22 (E_length _) (EE_at (k := 0) rfl rfl rfl)) (res_cell (i := 4) rfl rfl Tryd.underlying22 rfl size22 (E_length _) (EE_at (k := 0) rfl rfl rfl)) (res_tmp rfl)) ⟨rfl, rfl⟩ (by repeat (first | exact List.Sublist.refl _ | apply List.Sublist.cons))
theorem sDecodeN_ct {M : Mem} {gl off c y s : Nat} (hy : y < pp) (hs : s < 2) (hok : dOk y = true) (h0 : ¬ dR y = 0) (hs1 : ¬ dR y % 2 = s) : CtW Tryd.prog 24 #[.slice (some ⟨gl, off, none⟩) 57 c] gl off (EB y (s * 128)) M (Det (.tuple #[.agg (E (negp (dR y))).toArray, .agg (E y).toArray, .bool true]) M) := by
  have hyR : y < RR := pp_lt_RR hy
  refine ct_ofW (vs := [.slice (some ⟨gl, off, none⟩) 57 c]) Tryd.func24 rfl Tryd.ntmps24 rfl fun w0 hro => ?_
  refine at_seq ?_
  refine at_region ?_
  refine at_n rfl rfl (opr_alloc rfl zero22 rfl) ?_
  intro g0
  refine at_n rfl rfl (opr_alloc rfl zero22 rfl) ?_
  intro g1
  refine at_d rfl rfl (opr_assign rfl rfl) ?_
  refine at_nil ?_
  refine at_then ?_
  refine at_seq ?_
  refine at_region ?_
  refine at_d rfl rfl (opr_buildE (ds := E 0) rfl rfl builtz22 rfl) ?_
  refine at_n rfl rfl (opr_alloc rfl zero22 rfl) ?_
  intro g2
  refine at_d rfl rfl (opr_store (i := 0) rfl rfl rfl rfl rfl size22 (E_length _) (by rw [EE_length]; exact Nat.le_of_ble_eq_true rfl) (E_flat _) (EE_set (k := 0) (Nat.le_of_ble_eq_true rfl) rfl)) ?_
  refine at_nil ?_
  refine at_then ?_
  refine at_seq ?_
  refine at_region ?_
  refine at_d rfl rfl (opr_sliceAll rfl rfl Tryd.underlying22 rfl size5) ?_
  refine at_d rfl rfl (opr_move rfl rfl) ?_
  refine at_dW hro rfl rfl (opr_copyW (i := 0) (n := 56) (vs := E y) rfl rfl rfl rfl Tryd.underlying38 size5 rfl (E_length _) (EB_head _ _) (by rw [EE_length]; decide) (E_flat _) (EE_set (k := 0) (Nat.le_of_ble_eq_true rfl) rfl)) ?_
  refine at_nil ?_
  refine at_then ?_
  refine at_seq ?_
  refine at_region ?_
  refine at_d rfl rfl (opr_load (i := 0) rfl rfl rfl Tryd.underlying22 rfl size22 (E_length _) (EE_at (k := 0) rfl rfl rfl)) ?_
  refine at_d rfl rfl (opr_call rfl rfl rfl Tryd.func20 (by kernel_rfl) rfl (of_ct _)) ?_
  refine at_n rfl rfl (opr_alloc rfl zero31 rfl) ?_
  intro g3
  refine at_d rfl rfl (opr_store (i := 0) rfl rfl rfl rfl rfl size31 (N_length _) (by rw [N_length]; decide) (N_flat _) N_over) ?_
  refine at_nil ?_
  refine at_then ?_
  refine at_seq ?_
  refine at_region ?_
  refine at_d rfl rfl (opr_load (i := 0) rfl rfl rfl Tryd.underlying31 rfl size31 (N_length _) (N_at _)) ?_
  refine at_d rfl rfl (opr_load (i := 0) rfl rfl rfl Tryd.underlying31 rfl size31 (N_length _) (N_at _)) ?_
  refine at_d rfl rfl (opr_call rfl rfl rfl Tryd.func22 (by kernel_rfl) rfl (sMul_ct hyR hyR)) ?_
  refine at_n rfl rfl (opr_alloc rfl zero31 rfl) ?_
  intro g4
  refine at_d rfl rfl (opr_store (i := 0) rfl rfl rfl rfl rfl size31 (N_length _) (by rw [N_length]; decide) (N_flat _) N_over) ?_
  refine at_nil ?_
  refine at_then ?_
  refine at_seq ?_
  refine at_drawG (B := [⟨g4, 31, N ((y * y % pp))⟩, ⟨g3, 31, N (y)⟩, ⟨g2, 22, EE [y]⟩, ⟨g1, 22, EE [0]⟩, ⟨g0, 22, EE [0]⟩]) (E := [⟨.pure [0], 0, [], .v (.agg (N ((y * y % pp))).toArray)⟩, ⟨.pure [], 0, [], .v (.agg (N (1)).toArray)⟩, ⟨.pure [], 0, [], .v (.agg (N ((((y * y % pp) + negp 1) % pp))).toArray)⟩, ⟨.pure [0], 0, [], .v (.agg (N ((y * y % pp))).toArray)⟩, ⟨.pure [], 0, [], .v (.agg (N ((curvN (y * y % pp)))).toArray)⟩, ⟨.pure [], 0, [], .v (.agg (N (1)).toArray)⟩, ⟨.pure [], 0, [], .v (.agg (N ((((curvN (y * y % pp)) + negp 1) % pp))).toArray)⟩, ⟨.pure [], 0, [], .v (.agg (N ((invp (((curvN (y * y % pp)) + negp 1) % pp)))).toArray)⟩, ⟨.pure [], 0, [], .v (.agg (N ((dW y))).toArray)⟩, ⟨.pure [], 0, [], .v (.tuple #[.agg (N ((dR y))).toArray, .bool (dOk y)])⟩, ⟨.pure [], 0, [], .v (.tuple #[.agg (N ((dR y))).toArray, .bool (dOk y)])⟩, ⟨.pure [], 0, [], .v (.agg (N ((dR y))).toArray)⟩, ⟨.pure [], 0, [], .v (.bool (dOk y))⟩, ⟨.alloc, 31, N (0), .p 13 0⟩, ⟨.storeA 13, 0, N ((dR y)), .v undef⟩, ⟨.pure [], 0, [], .v (.bool (dOk y))⟩]) (by kernel_rfl) (by kernel_rfl) (by kernel_rfl) (fun γ0 => ?_)
  refine gs_pure rfl rfl (fun M' sB sT => ?_) ?_
  · obtain ⟨iB0, hB0⟩ := sB 0 _ rfl rfl; exact opr_load (i := iB0) rfl rfl hB0 Tryd.underlying31 rfl size31 (N_length _) (N_at _)
  refine gs_pure rfl rfl (fun M' sB sT => ?_) ?_
  · exact opr_call rfl rfl rfl Tryd.func23 (by kernel_rfl) rfl (small_ct (c := 1) (by decide))
  refine gs_pure rfl rfl (fun M' sB sT => ?_) ?_
  · exact opr_call rfl rfl rfl Tryd.func50 (by kernel_rfl) rfl (sSub_ct (modp_lt _) RR_one)
  refine gs_pure rfl rfl (fun M' sB sT => ?_) ?_
  · obtain ⟨iB0, hB0⟩ := sB 0 _ rfl rfl; exact opr_load (i := iB0) rfl rfl hB0 Tryd.underlying31 rfl size31 (N_length _) (N_at _)
  refine gs_pure rfl rfl (fun M' sB sT => ?_) ?_
  · exact opr_call rfl rfl rfl Tryd.func52 (by kernel_rfl) rfl (curved_ct (modp_lt _))
  refine gs_pure rfl rfl (fun M' sB sT => ?_) ?_
  · exact opr_call rfl rfl rfl Tryd.func23 (by kernel_rfl) rfl (small_ct (c := 1) (by decide))
  refine gs_pure rfl rfl (fun M' sB sT => ?_) ?_
  · exact opr_call rfl rfl rfl Tryd.func50 (by kernel_rfl) rfl (sSub_ct (curvN_lt _) RR_one)
  refine gs_pure rfl rfl (fun M' sB sT => ?_) ?_
  · exact opr_call rfl rfl rfl Tryd.func51 (by kernel_rfl) rfl (sInv_ct (modp_lt _))
  refine gs_pure rfl rfl (fun M' sB sT => ?_) ?_
  · exact opr_call rfl rfl rfl Tryd.func22 (by kernel_rfl) rfl ((show Ct _ _ _ _ (Det (.agg (N (dW y)).toArray) _) from sMul_ct (modp_lt _) (invp_RR _)))
  refine gs_pure rfl rfl (fun M' sB sT => ?_) ?_
  · exact opr_call rfl rfl rfl Tryd.func49 (by kernel_rfl) rfl (rootW_ct)
  refine gs_pure rfl rfl (fun M' sB sT => ?_) ?_
  · exact opr_move rfl rfl
  refine gs_pure rfl rfl (fun M' sB sT => ?_) ?_
  · exact opr_extract rfl rfl rfl
  refine gs_pure rfl rfl (fun M' sB sT => ?_) ?_
  · exact opr_extract rfl rfl rfl
  refine gs_alloc rfl rfl (fun M' => opr_alloc rfl zero31 rfl) ?_
  refine gs_storeA rfl rfl rfl rfl rfl (fun M' j hj => opr_store (i := j) rfl rfl rfl rfl hj size31 (N_length _) (by rw [N_length]; decide) (N_flat _) N_over) ?_
  refine gs_pure rfl rfl (fun M' sB sT => ?_) ?_
  · exact opr_assign rfl rfl
  refine gs_nil ?_
  refine (show At _ _ (⟨(γ0 13), 31, N ((dR y))⟩ :: ⟨g4, 31, N ((y * y % pp))⟩ :: ⟨g3, 31, N (y)⟩ :: ⟨g2, 22, EE [y]⟩ :: ⟨g1, 22, EE [0]⟩ :: ⟨g0, 22, EE [0]⟩ :: _) _ from ?_)
  rw [hok]
  refine at_then ?_
  refine at_seq ?_
  refine at_seq ?_
  refine at_drawW (by kernel_rfl) (by kernel_rfl) ?_
  refine drW_op rfl rfl (opr_move rfl rfl) ?_
  refine drW_op rfl rfl (opr_lenS (n := 57) rfl rfl Tryd.underlying38) ?_
  refine drW_op rfl rfl (opr_neqF (a := 57) rfl rfl rfl) ?_
  refine drW_op rfl rfl (opr_move rfl rfl) ?_
  refine drW_op rfl rfl (opr_move rfl rfl) ?_
  refine drW_op rfl rfl (opr_indexAddrS (j := 56) (off' := off + 56) rfl rfl rfl Tryd.underlying38 (by decide) size5 rfl) ?_
  refine drW_opW hro rfl rfl (opr_loadW (j := 56) rfl rfl Tryd.underlying5 rfl rfl (EB_last _ _)) ?_
  refine drW_op rfl rfl (opr_eq' (opr_rem8 (b := 128) rfl rfl rfl (by decide)) (u8_eq' (b := 0) (Nat.mul_mod_left _ _))) ?_
  refine drW_op rfl rfl (opr_neqF (a := 0) rfl rfl rfl) ?_
  refine drW_op rfl rfl (opr_pickN rfl rfl rfl) ?_
  refine drW_op rfl rfl (opr_move rfl rfl) ?_
  refine drW_op rfl rfl (opr_load (i := 2) rfl rfl rfl Tryd.underlying31 rfl size31 (N_length _) (N_at _)) ?_
  refine drW_op rfl rfl (opr_call rfl rfl rfl Tryd.func21 (by kernel_rfl) rfl (p_ct)) ?_
  refine drW_op rfl rfl (opr_call rfl rfl rfl Tryd.func19 (by kernel_rfl) rfl (lessT_ct hyR RR_pp hy)) ?_
  refine drW_op rfl rfl (opr_unOp (u := .bool false) rfl rfl (fun _ => rfl)) ?_
  refine drW_op rfl rfl (opr_pickN rfl rfl rfl) ?_
  refine drW_op rfl rfl (opr_move rfl rfl) ?_
  refine drW_op rfl rfl (opr_move rfl rfl) ?_
  refine drW_op rfl rfl (opr_unOp (u := .bool false) rfl rfl (fun _ => rfl)) ?_
  refine drW_op rfl rfl (opr_pickN rfl rfl rfl) ?_
  refine drW_op rfl rfl (opr_move rfl rfl) ?_
  refine drW_op rfl rfl (opr_load (i := 0) rfl rfl rfl Tryd.underlying31 rfl size31 (N_length _) (N_at _)) ?_
  refine drW_op rfl rfl (opr_buildE (ds := N 0) rfl rfl builtn31 rfl) ?_
  refine drW_op rfl rfl (opr_eqlNb (t := false) rfl rfl rfl Tryd.underlying31 Tryd.underlying29 size29 (by kernel_rfl) (dR_lt y) (by decide) (decide_eq_false h0)) ?_
  refine drW_op rfl rfl (opr_move rfl rfl) ?_
  refine drW_skip rfl rfl ?_
  refine drW_skip rfl rfl ?_
  refine drW_skip rfl rfl ?_
  refine drW_skip rfl rfl ?_
  refine drW_op rfl rfl (opr_pickN rfl rfl rfl) ?_
  refine drW_op rfl rfl (opr_pickN rfl rfl rfl) ?_
  refine drW_nil ?_
  refine at_then ?_
  refine at_cond_false rfl ?_
  refine at_skip ?_
  refine at_then ?_
  refine at_seq ?_
  refine at_seq ?_
  refine at_drawW (by kernel_rfl) (by kernel_rfl) ?_
  refine drW_op rfl rfl (opr_indexAddr (j := 0) rfl rfl rfl Tryd.underlying31 (by decide) size29 rfl) ?_
  refine drW_op rfl rfl (opr_load1 (i := 0) rfl rfl rfl Tryd.underlying29 rfl (W_get (digs_get 28 (dR y) 0 (by decide)))) ?_
  refine drW_op rfl rfl (opr_eq' (opr_rem64 (b := 2) rfl rfl rfl (by decide)) (u64_eq' (b := dR y % 2) (by rw [Nat.pow_zero, Nat.div_one]; omega))) ?_
  refine drW_op rfl rfl (opr_move rfl rfl) ?_
  refine drW_op rfl rfl (opr_indexAddrS (j := 56) (off' := off + 56) rfl rfl rfl Tryd.underlying38 (by decide) size5 rfl) ?_
  refine drW_opW hro rfl rfl (opr_loadW (j := 56) rfl rfl Tryd.underlying5 rfl rfl (EB_last _ _)) ?_
  refine drW_op rfl rfl (opr_eq' (opr_shr8 (n := 7) rfl rfl rfl (by decide)) (u8_eq' (b := s) (by omega))) ?_
  refine drW_op rfl rfl (opr_to64 (n := s) rfl rfl Tryd.underlying5 Tryd.underlying29 (by omega)) ?_
  refine drW_op rfl rfl (opr_eq' (opr_neq (a := dR y % 2) (b := s) rfl rfl rfl) (congrArg Value.bool (decide_eq_true hs1))) ?_
  refine drW_nil ?_
  refine at_then ?_
  refine at_cond_true rfl ?_
  refine at_region ?_
  refine at_d rfl rfl (opr_load (i := 0) rfl rfl rfl Tryd.underlying31 rfl size31 (N_length _) (N_at _)) ?_
  refine at_d rfl rfl (opr_call rfl rfl rfl Tryd.func53 (by kernel_rfl) rfl (sNeg_ct (dR_lt y))) ?_
  refine at_d rfl rfl (opr_store (i := 0) rfl rfl rfl rfl rfl size31 (N_length _) (by rw [N_length]; decide) (N_flat _) N_over) ?_
  refine at_nil ?_
  refine at_then ?_
  refine at_seq ?_
  refine at_drawG (B := [⟨(γ0 13), 31, N ((negp (dR y)))⟩, ⟨g4, 31, N ((y * y % pp))⟩, ⟨g3, 31, N (y)⟩, ⟨g2, 22, EE [y]⟩, ⟨g1, 22, EE [0]⟩, ⟨g0, 22, EE [0]⟩]) (E := [⟨.pure [0], 0, [], .v (.agg (N ((negp (dR y)))).toArray)⟩, ⟨.pure [], 0, [], .v (.agg (E ((negp (dR y)))).toArray)⟩, ⟨.pure [3], 0, [], .v (.agg (E (y)).toArray)⟩, ⟨.storeB 5, 0, EE [(negp (dR y))], .v undef⟩, ⟨.storeB 4, 0, EE [y], .v undef⟩, ⟨.pure [], 0, [], .v (.bool true)⟩]) (by kernel_rfl) (by kernel_rfl) (by kernel_rfl) (fun γ1 => ?_)
  refine gs_pure rfl rfl (fun M' sB sT => ?_) ?_
  · obtain ⟨iB0, hB0⟩ := sB 0 _ rfl rfl; exact opr_load (i := iB0) rfl rfl hB0 Tryd.underlying31 rfl size31 (N_length _) (N_at _)
  refine gs_pure rfl rfl (fun M' sB sT => ?_) ?_
  · exact opr_call rfl rfl rfl Tryd.func54 (by kernel_rfl) rfl (bytes_ct _)
  refine gs_pure rfl rfl (fun M' sB sT => ?_) ?_
  · obtain ⟨iB3, hB3⟩ := sB 3 _ rfl rfl; exact opr_load (i := iB3) rfl rfl hB3 Tryd.underlying22 rfl size22 (E_length _) (EE_at (k := 0) rfl rfl rfl)
  refine gs_storeB rfl rfl rfl (fun M' j hj => opr_store (i := j) rfl rfl rfl rfl hj size22 (E_length _) (by rw [EE_length]; exact Nat.le_of_ble_eq_true rfl) (E_flat _) (EE_set (k := 0) (Nat.le_of_ble_eq_true rfl) rfl)) ?_
  refine gs_storeB rfl rfl rfl (fun M' j hj => opr_store (i := j) rfl rfl rfl rfl hj size22 (E_length _) (by rw [EE_length]; exact Nat.le_of_ble_eq_true rfl) (E_flat _) (EE_set (k := 0) (Nat.le_of_ble_eq_true rfl) rfl)) ?_
  refine gs_pure rfl rfl (fun M' sB sT => ?_) ?_
  · exact opr_assign rfl rfl
  refine gs_nil ?_
  refine (show At _ _ (⟨(γ0 13), 31, N ((negp (dR y)))⟩ :: ⟨g4, 31, N ((y * y % pp))⟩ :: ⟨g3, 31, N (y)⟩ :: ⟨g2, 22, EE [y]⟩ :: ⟨g1, 22, EE [y]⟩ :: ⟨g0, 22, EE [(negp (dR y))]⟩ :: _) _ from ?_)
  refine at_then ?_
  refine at_ret ?_
  exact done_of (res3 Tryd.results24 (res_cell (i := 5) rfl rfl Tryd.underlying22 rfl size22 (E_length _) (EE_at (k := 0) rfl rfl rfl)) (res_cell (i := 4) rfl rfl Tryd.underlying22 rfl size22 (E_length _) (EE_at (k := 0) rfl rfl rfl)) (res_tmp rfl)) ⟨rfl, rfl⟩ (by repeat (first | exact List.Sublist.refl _ | apply List.Sublist.cons))
theorem sDecodeF_ct {M : Mem} {gl off c y s : Nat} (hy : y < pp) (hs : s < 2) (hok : dOk y = false) : CtW Tryd.prog 24 #[.slice (some ⟨gl, off, none⟩) 57 c] gl off (EB y (s * 128)) M (Det (.tuple #[.agg (E 0).toArray, .agg (E 0).toArray, .bool false]) M) := by
  have hyR : y < RR := pp_lt_RR hy
  refine ct_ofW (vs := [.slice (some ⟨gl, off, none⟩) 57 c]) Tryd.func24 rfl Tryd.ntmps24 rfl fun w0 hro => ?_
  refine at_seq ?_
  refine at_region ?_
  refine at_n rfl rfl (opr_alloc rfl zero22 rfl) ?_
  intro g0
  refine at_n rfl rfl (opr_alloc rfl zero22 rfl) ?_
  intro g1
  refine at_d rfl rfl (opr_assign rfl rfl) ?_
  refine at_nil ?_
  refine at_then ?_
  refine at_seq ?_
  refine at_region ?_
  refine at_d rfl rfl (opr_buildE (ds := E 0) rfl rfl builtz22 rfl) ?_
  refine at_n rfl rfl (opr_alloc rfl zero22 rfl) ?_
  intro g2
  refine at_d rfl rfl (opr_store (i := 0) rfl rfl rfl rfl rfl size22 (E_length _) (by rw [EE_length]; exact Nat.le_of_ble_eq_true rfl) (E_flat _) (EE_set (k := 0) (Nat.le_of_ble_eq_true rfl) rfl)) ?_
  refine at_nil ?_
  refine at_then ?_
  refine at_seq ?_
  refine at_region ?_
  refine at_d rfl rfl (opr_sliceAll rfl rfl Tryd.underlying22 rfl size5) ?_
  refine at_d rfl rfl (opr_move rfl rfl) ?_
  refine at_dW hro rfl rfl (opr_copyW (i := 0) (n := 56) (vs := E y) rfl rfl rfl rfl Tryd.underlying38 size5 rfl (E_length _) (EB_head _ _) (by rw [EE_length]; decide) (E_flat _) (EE_set (k := 0) (Nat.le_of_ble_eq_true rfl) rfl)) ?_
  refine at_nil ?_
  refine at_then ?_
  refine at_seq ?_
  refine at_region ?_
  refine at_d rfl rfl (opr_load (i := 0) rfl rfl rfl Tryd.underlying22 rfl size22 (E_length _) (EE_at (k := 0) rfl rfl rfl)) ?_
  refine at_d rfl rfl (opr_call rfl rfl rfl Tryd.func20 (by kernel_rfl) rfl (of_ct _)) ?_
  refine at_n rfl rfl (opr_alloc rfl zero31 rfl) ?_
  intro g3
  refine at_d rfl rfl (opr_store (i := 0) rfl rfl rfl rfl rfl size31 (N_length _) (by rw [N_length]; decide) (N_flat _) N_over) ?_
  refine at_nil ?_
  refine at_then ?_
  refine at_seq ?_
  refine at_region ?_
  refine at_d rfl rfl (opr_load (i := 0) rfl rfl rfl Tryd.underlying31 rfl size31 (N_length _) (N_at _)) ?_
  refine at_d rfl rfl (opr_load (i := 0) rfl rfl rfl Tryd.underlying31 rfl size31 (N_length _) (N_at _)) ?_
  refine at_d rfl rfl (opr_call rfl rfl rfl Tryd.func22 (by kernel_rfl) rfl (sMul_ct hyR hyR)) ?_
  refine at_n rfl rfl (opr_alloc rfl zero31 rfl) ?_
  intro g4
  refine at_d rfl rfl (opr_store (i := 0) rfl rfl rfl rfl rfl size31 (N_length _) (by rw [N_length]; decide) (N_flat _) N_over) ?_
  refine at_nil ?_
  refine at_then ?_
  refine at_seq ?_
  refine at_drawG (B := [⟨g4, 31, N ((y * y % pp))⟩, ⟨g3, 31, N (y)⟩, ⟨g2, 22, EE [y]⟩, ⟨g1, 22, EE [0]⟩, ⟨g0, 22, EE [0]⟩]) (E := [⟨.pure [0], 0, [], .v (.agg (N ((y * y % pp))).toArray)⟩, ⟨.pure [], 0, [], .v (.agg (N (1)).toArray)⟩, ⟨.pure [], 0, [], .v (.agg (N ((((y * y % pp) + negp 1) % pp))).toArray)⟩, ⟨.pure [0], 0, [], .v (.agg (N ((y * y % pp))).toArray)⟩, ⟨.pure [], 0, [], .v (.agg (N ((curvN (y * y % pp)))).toArray)⟩, ⟨.pure [], 0, [], .v (.agg (N (1)).toArray)⟩, ⟨.pure [], 0, [], .v (.agg (N ((((curvN (y * y % pp)) + negp 1) % pp))).toArray)⟩, ⟨.pure [], 0, [], .v (.agg (N ((invp (((curvN (y * y % pp)) + negp 1) % pp)))).toArray)⟩, ⟨.pure [], 0, [], .v (.agg (N ((dW y))).toArray)⟩, ⟨.pure [], 0, [], .v (.tuple #[.agg (N ((dR y))).toArray, .bool (dOk y)])⟩, ⟨.pure [], 0, [], .v (.tuple #[.agg (N ((dR y))).toArray, .bool (dOk y)])⟩, ⟨.pure [], 0, [], .v (.agg (N ((dR y))).toArray)⟩, ⟨.pure [], 0, [], .v (.bool (dOk y))⟩, ⟨.alloc, 31, N (0), .p 13 0⟩, ⟨.storeA 13, 0, N ((dR y)), .v undef⟩, ⟨.pure [], 0, [], .v (.bool (dOk y))⟩]) (by kernel_rfl) (by kernel_rfl) (by kernel_rfl) (fun γ0 => ?_)
  refine gs_pure rfl rfl (fun M' sB sT => ?_) ?_
  · obtain ⟨iB0, hB0⟩ := sB 0 _ rfl rfl; exact opr_load (i := iB0) rfl rfl hB0 Tryd.underlying31 rfl size31 (N_length _) (N_at _)
  refine gs_pure rfl rfl (fun M' sB sT => ?_) ?_
  · exact opr_call rfl rfl rfl Tryd.func23 (by kernel_rfl) rfl (small_ct (c := 1) (by decide))
  refine gs_pure rfl rfl (fun M' sB sT => ?_) ?_
  · exact opr_call rfl rfl rfl Tryd.func50 (by kernel_rfl) rfl (sSub_ct (modp_lt _) RR_one)
  refine gs_pure rfl rfl (fun M' sB sT => ?_) ?_
  · obtain ⟨iB0, hB0⟩ := sB 0 _ rfl rfl; exact opr_load (i := iB0) rfl rfl hB0 Tryd.underlying31 rfl size31 (N_length _) (N_at _)
  refine gs_pure rfl rfl (fun M' sB sT => ?_) ?_
  · exact opr_call rfl rfl rfl Tryd.func52 (by kernel_rfl) rfl (curved_ct (modp_lt _))
  refine gs_pure rfl rfl (fun M' sB sT => ?_) ?_
  · exact opr_call rfl rfl rfl Tryd.func23 (by kernel_rfl) rfl (small_ct (c := 1) (by decide))
  refine gs_pure rfl rfl (fun M' sB sT => ?_) ?_
  · exact opr_call rfl rfl rfl Tryd.func50 (by kernel_rfl) rfl (sSub_ct (curvN_lt _) RR_one)
  refine gs_pure rfl rfl (fun M' sB sT => ?_) ?_
  · exact opr_call rfl rfl rfl Tryd.func51 (by kernel_rfl) rfl (sInv_ct (modp_lt _))
  refine gs_pure rfl rfl (fun M' sB sT => ?_) ?_
  · exact opr_call rfl rfl rfl Tryd.func22 (by kernel_rfl) rfl ((show Ct _ _ _ _ (Det (.agg (N (dW y)).toArray) _) from sMul_ct (modp_lt _) (invp_RR _)))
  refine gs_pure rfl rfl (fun M' sB sT => ?_) ?_
  · exact opr_call rfl rfl rfl Tryd.func49 (by kernel_rfl) rfl (rootW_ct)
  refine gs_pure rfl rfl (fun M' sB sT => ?_) ?_
  · exact opr_move rfl rfl
  refine gs_pure rfl rfl (fun M' sB sT => ?_) ?_
  · exact opr_extract rfl rfl rfl
  refine gs_pure rfl rfl (fun M' sB sT => ?_) ?_
  · exact opr_extract rfl rfl rfl
  refine gs_alloc rfl rfl (fun M' => opr_alloc rfl zero31 rfl) ?_
  refine gs_storeA rfl rfl rfl rfl rfl (fun M' j hj => opr_store (i := j) rfl rfl rfl rfl hj size31 (N_length _) (by rw [N_length]; decide) (N_flat _) N_over) ?_
  refine gs_pure rfl rfl (fun M' sB sT => ?_) ?_
  · exact opr_assign rfl rfl
  refine gs_nil ?_
  refine (show At _ _ (⟨(γ0 13), 31, N ((dR y))⟩ :: ⟨g4, 31, N ((y * y % pp))⟩ :: ⟨g3, 31, N (y)⟩ :: ⟨g2, 22, EE [y]⟩ :: ⟨g1, 22, EE [0]⟩ :: ⟨g0, 22, EE [0]⟩ :: _) _ from ?_)
  rw [hok]
  refine at_then ?_
  refine at_seq ?_
  refine at_seq ?_
  refine at_drawW (by kernel_rfl) (by kernel_rfl) ?_
  refine drW_op rfl rfl (opr_move rfl rfl) ?_
  refine drW_op rfl rfl (opr_lenS (n := 57) rfl rfl Tryd.underlying38) ?_
  refine drW_op rfl rfl (opr_neqF (a := 57) rfl rfl rfl) ?_
  refine drW_op rfl rfl (opr_move rfl rfl) ?_
  refine drW_op rfl rfl (opr_move rfl rfl) ?_
  refine drW_op rfl rfl (opr_indexAddrS (j := 56) (off' := off + 56) rfl rfl rfl Tryd.underlying38 (by decide) size5 rfl) ?_
  refine drW_opW hro rfl rfl (opr_loadW (j := 56) rfl rfl Tryd.underlying5 rfl rfl (EB_last _ _)) ?_
  refine drW_op rfl rfl (opr_eq' (opr_rem8 (b := 128) rfl rfl rfl (by decide)) (u8_eq' (b := 0) (Nat.mul_mod_left _ _))) ?_
  refine drW_op rfl rfl (opr_neqF (a := 0) rfl rfl rfl) ?_
  refine drW_op rfl rfl (opr_pickN rfl rfl rfl) ?_
  refine drW_op rfl rfl (opr_move rfl rfl) ?_
  refine drW_op rfl rfl (opr_load (i := 2) rfl rfl rfl Tryd.underlying31 rfl size31 (N_length _) (N_at _)) ?_
  refine drW_op rfl rfl (opr_call rfl rfl rfl Tryd.func21 (by kernel_rfl) rfl (p_ct)) ?_
  refine drW_op rfl rfl (opr_call rfl rfl rfl Tryd.func19 (by kernel_rfl) rfl (lessT_ct hyR RR_pp hy)) ?_
  refine drW_op rfl rfl (opr_unOp (u := .bool false) rfl rfl (fun _ => rfl)) ?_
  refine drW_op rfl rfl (opr_pickN rfl rfl rfl) ?_
  refine drW_op rfl rfl (opr_move rfl rfl) ?_
  refine drW_op rfl rfl (opr_move rfl rfl) ?_
  refine drW_op rfl rfl (opr_unOp (u := .bool true) rfl rfl (fun _ => rfl)) ?_
  refine drW_op rfl rfl (opr_pickN rfl rfl rfl) ?_
  refine drW_op rfl rfl (opr_move rfl rfl) ?_
  refine drW_skip rfl rfl ?_
  refine drW_skip rfl rfl ?_
  refine drW_skip rfl rfl ?_
  refine drW_skip rfl rfl ?_
  refine drW_skip rfl rfl ?_
  refine drW_skip rfl rfl ?_
  refine drW_skip rfl rfl ?_
  refine drW_skip rfl rfl ?_
  refine drW_skip rfl rfl ?_
  refine drW_op rfl rfl (opr_pickT rfl rfl rfl) ?_
  refine drW_nil ?_
  refine at_then ?_
  refine at_cond_true rfl ?_
  refine at_seq ?_
  refine at_region ?_
  refine at_d rfl rfl (opr_buildE (ds := E 0) rfl rfl builtz22 rfl) ?_
  refine at_d rfl rfl (opr_buildE (ds := E 0) rfl rfl builtz22 rfl) ?_
  refine at_d rfl rfl (opr_store (i := 5) rfl rfl rfl rfl rfl size22 (E_length _) (by rw [EE_length]; exact Nat.le_of_ble_eq_true rfl) (E_flat _) (EE_set (k := 0) (Nat.le_of_ble_eq_true rfl) rfl)) ?_
  refine at_d rfl rfl (opr_store (i := 4) rfl rfl rfl rfl rfl size22 (E_length _) (by rw [EE_length]; exact Nat.le_of_ble_eq_true rfl) (E_flat _) (EE_set (k := 0) (Nat.le_of_ble_eq_true rfl) rfl)) ?_
  refine at_d rfl rfl (opr_assign rfl rfl) ?_
  refine at_nil ?_
  refine at_then ?_
  refine at_ret ?_
  refine at_then_ret ?_
  exact done_of (res3 Tryd.results24 (res_cell (i := 5) rfl rfl Tryd.underlying22 rfl size22 (E_length _) (EE_at (k := 0) rfl rfl rfl)) (res_cell (i := 4) rfl rfl Tryd.underlying22 rfl size22 (E_length _) (EE_at (k := 0) rfl rfl rfl)) (res_tmp rfl)) ⟨rfl, rfl⟩ (by repeat (first | exact List.Sublist.refl _ | apply List.Sublist.cons))
end Go.Proofs.YtjanppnnioeifaaDoor

/- Plain: what is decoded. -/
namespace Go.Proofs.YtjanppnnioeifaaDoor
open Go
set_option maxRecDepth 100000
def dU (y : Nat) : Nat := (y * y % pp + negp 1) % pp
def dV (y : Nat) : Nat := (curvN (y * y % pp) + negp 1) % pp
theorem el_dU (y : Nat) : el (dU y) = el y * el y - 1 := by
  rw [dU, el_mod, el_add, el_mod, el_mul, el_neg, el_one]
  generalize el y = a
  grind
theorem el_dV (y : Nat) : el (dV y) = el y * el y * el dP - 1 := by
  rw [dV, el_mod, el_add, el_curvN, el_neg, el_mod, el_mul, el_one, el_dP]
  generalize el y = a
  generalize el 39081 = b
  grind
theorem dV_ne (y : Nat) : el (dV y) ≠ 0 := by
  intro h0
  rw [el_dV] at h0
  have hy : el y ≠ 0 := by
    intro hy
    apply isF_pp.one
    have z : (el y * el dP) * el y = 0 := by
      conv => lhs; rw [hy]
      exact mul_zero' _
    rw [← z]
    generalize el dP = d at *
    generalize el y = a at *
    clear z hy; grind
  obtain ⟨i, hi⟩ := isF_pp.inv _ hy
  refine dP_nsq i ?_
  generalize el dP = d at *
  generalize el y = a at *
  clear hy
  have h1 : a * a * d = 1 := by clear hi; grind
  have h2 : (a * i) * (a * i) * d = i * i * (a * a * d) := by clear h0 hi h1; grind
  rw [hi, h1] at h2
  clear h0 hi h1; grind
theorem dR_isq (y : Nat) : dR y = isq (dU y) (dV y) := by
  have hv : ¬ dV y % pp = 0 := fun h => dV_ne y (el_eq_zero.2 h)
  rw [dR, powp_eq, dW, ← Nat.pow_mod, show pp / 2 / 2 + 1 = (pp - 3) / 4 + 1 by decide +kernel]
  exact isq_root hv
theorem dOk_iff (y : Nat) : dOk y = true ↔ el (dR y) * el (dR y) * (el y * el y * el dP - 1) = el y * el y - 1 := by
  have hv : ¬ dV y % pp = 0 := fun h => dV_ne y (el_eq_zero.2 h)
  have hi : el (dV y) * el (invp (dV y)) = 1 := by
    rw [← el_mul, ← el_one, el_eq, mul_invp hv]; decide +kernel
  have hw : el (dW y) = el (dU y) * el (invp (dV y)) := by
    show el ((y * y % pp + negp 1) % pp * invp ((curvN (y * y % pp) + negp 1) % pp) % pp) = _
    rw [el_mod, el_mul]; rfl
  rw [dOk, decide_eq_true_iff, ← el_eq, el_mul, hw, ← el_dU, ← el_dV]
  have nv := dV_ne y
  generalize el (dR y) = r at *
  generalize el (dU y) = a at *
  generalize el (dV y) = b at *
  generalize el (invp (dV y)) = i at *
  constructor
  · intro h
    rw [h]
    clear h hw nv; grind
  · intro h
    rw [← h]
    clear h hw nv; grind
theorem dec_no {y : Nat} (h : dOk y = false) : ∀ X : Fin pp, X * X * (el y * el y * el dP - 1) ≠ el y * el y - 1 := by
  intro X hX
  have hn : ¬ dOk y = true := by rw [h]; decide
  apply hn
  rw [dOk_iff, dR_isq]
  rcases Classical.em (X = 0) with h0 | h0
  · have hu : el (dU y) = 0 := by
      rw [el_dU, ← hX, h0]
      generalize el y * el y * el dP - 1 = b
      grind
    have hq : el (isq (dU y) (dV y)) = 0 := by
      rw [isq_eq, el_mod, el_mul, el_mul, hu]
      generalize el (dV y) = b
      generalize el ((dU y * dV y * (dV y * dV y)) ^ ((pp - 3) / 4)) = c
      grind
    rw [hq, ← el_dU, hu]
    generalize el y * el y * el dP - 1 = b
    grind
  · have e : el X.val = X := by
      apply Fin.ext
      rw [el_val]; exact Nat.mod_eq_of_lt X.isLt
    have hx : ¬ X.val % pp = 0 := fun h => h0 (by rw [← e]; exact el_eq_zero.2 h)
    have hOn : On (el dP) (el X.val) (el y) := by
      rw [e]; unfold On
      generalize el dP = d at *
      generalize el y = a at *
      clear hn h e hx h0; grind
    have k := (isqOk_true (el_dU y) (el_dV y) hOn hx).1
    have k2 := of_decide_eq_true k
    rw [← el_eq, el_mul, el_mul, el_dU, el_dV] at k2
    exact k2
/-- The point that is decoded. -/
theorem dec_yes {y s : Nat} (h : dOk y = true) (hs : s < 2) (hy1 : ¬ el y * el y = 1) : ∃ x, x < pp ∧ ¬ x = 0 ∧ x % 2 = s ∧ On (el dP) (el x) (el y) ∧ (dR y % 2 = s → x = dR y) ∧ (¬ dR y % 2 = s → x = negp (dR y)) ∧ ¬ dR y = 0 := by
  have k := (dOk_iff y).1 h
  have hr : dR y < pp := dR_pp y
  have h0 : ¬ dR y = 0 := by
    intro h0
    rw [h0, el_zero] at k
    apply hy1
    generalize el y * el y * el dP - 1 = b at *
    generalize el y * el y = a at *
    clear hy1; grind
  have hodd : pp % 2 = 1 := by decide +kernel
  have hneg : negp (dR y) = pp - dR y := by
    rw [negp, Nat.mod_eq_of_lt hr, Nat.mod_eq_of_lt (by omega)]
  have hOn : ∀ X : Fin pp, X * X = el (dR y) * el (dR y) → On (el dP) X (el y) := by
    intro X hX
    unfold On
    rw [← hX] at k
    generalize el dP = d at *
    generalize el y = a at *
    clear hX h hy1; grind
  by_cases hp : dR y % 2 = s
  · exact ⟨dR y, hr, h0, hp, hOn _ rfl, fun _ => rfl, fun hn => absurd hp hn, h0⟩
  · refine ⟨negp (dR y), by omega, by omega, by omega, hOn _ ?_, fun hq => absurd hq hp, fun _ => rfl, h0⟩
    rw [el_neg]
    generalize el (dR y) = r
    grind
end Go.Proofs.YtjanppnnioeifaaDoor

/- Bytes decoded by the package. -/
namespace Go.Proofs.YtjanppnnioeifaaDoor
open Go
set_option maxRecDepth 100000

theorem cloneW_ct {M : Mem} {gl off c y s : Nat} : CtW Tryd.prog 56 #[.slice (some ⟨gl, off, none⟩) 57 c] gl off (EB y s) M (fun v M' => ∃ q : Sl, v = .slice (some ⟨q.g, 0, none⟩) 57 q.cap ∧ q.cs.length = q.cap ∧ 57 ≤ q.cap ∧ q.cs.take 57 = EB y s ∧ M' = ⟨q.g, 5, q.cs⟩ :: M) := by
  refine ct_ofW (vs := [.slice (some ⟨gl, off, none⟩) 57 c]) Tryd.func56 rfl Tryd.ntmps56 rfl fun w0 hro => ?_
  refine at_seq ?_
  refine at_region ?_
  refine at_d rfl rfl (opr_assign rfl rfl) ?_
  refine at_nil ?_
  refine at_then ?_
  refine at_seq ?_
  refine at_seq ?_
  refine at_region ?_
  refine at_d rfl rfl (opr_move rfl rfl) ?_
  refine at_d rfl rfl (opr_sliceNil rfl rfl Tryd.underlying38 rfl) ?_
  refine at_nil ?_
  refine at_then ?_
  refine at_cond_false rfl ?_
  refine at_skip ?_
  refine at_then ?_
  refine at_seq ?_
  refine at_region ?_
  refine at_c rfl rfl (opr_buildSlice0 rfl Tryd.underlying38 size5) ?_
  rintro _ _ ⟨g0, rfl, rfl⟩
  refine at_d rfl rfl (opr_move rfl rfl) ?_
  refine at_cW hro rfl rfl (opr_appendW (e := 5) (i := 0) (cs := []) (z := .int .u8 0) rfl rfl rfl rfl rfl (Nat.le_refl _) (EB_length _ _) (EB_flat _ _) Tryd.underlying38 (by kernel_rfl) (by decide) (by kernel_rfl) (by decide)) ?_
  rintro _ _ ⟨q, rfl, hs1, hs2, hs3, rfl⟩
  rw [List.take_zero, List.nil_append] at hs3
  rw [Nat.zero_add] at hs2 hs3 ⊢
  refine at_d rfl rfl (opr_assign rfl rfl) ?_
  refine at_nil ?_
  refine at_then ?_
  refine at_ret ?_
  refine done_of (res1 Tryd.results56 (res_tmp rfl)) ⟨q, rfl, hs1, hs2, hs3, rfl⟩ (by repeat (first | exact List.Sublist.refl _ | apply List.Sublist.cons))
theorem cloneC_ct {M : Mem} {ix gx Tx c y s : Nat} {cs : List Value} (hX : M[ix]? = some ⟨gx, Tx, cs⟩) (hcs : cs.take 57 = EB y s) : Ct Tryd.prog 56 #[.slice (some ⟨gx, 0, none⟩) 57 c] M (fun v M' => ∃ q : Sl, v = .slice (some ⟨q.g, 0, none⟩) 57 q.cap ∧ q.cs.length = q.cap ∧ 57 ≤ q.cap ∧ q.cs.take 57 = EB y s ∧ M' = ⟨q.g, 5, q.cs⟩ :: M) := by
  refine ct_of (vs := [.slice (some ⟨gx, 0, none⟩) 57 c]) Tryd.func56 rfl Tryd.ntmps56 rfl fun w0 => ?_
  refine at_seq ?_
  refine at_region ?_
  refine at_d rfl rfl (opr_assign rfl rfl) ?_
  refine at_nil ?_
  refine at_then ?_
  refine at_seq ?_
  refine at_seq ?_
  refine at_region ?_
  refine at_d rfl rfl (opr_move rfl rfl) ?_
  refine at_d rfl rfl (opr_sliceNil rfl rfl Tryd.underlying38 rfl) ?_
  refine at_nil ?_
  refine at_then ?_
  refine at_cond_false rfl ?_
  refine at_skip ?_
  refine at_then ?_
  refine at_seq ?_
  refine at_region ?_
  refine at_c rfl rfl (opr_buildSlice0 rfl Tryd.underlying38 size5) ?_
  rintro _ _ ⟨g0, rfl, rfl⟩
  refine at_d rfl rfl (opr_move rfl rfl) ?_
  refine at_c rfl rfl (opr_append (e := 5) (i := 0) (j := ix + 1) (cs := []) (news := EB y s) (z := .int .u8 0) rfl rfl rfl rfl rfl (Nat.le_refl _) (by rw [List.getElem?_cons_succ]; exact hX) (EB_length _ _) (by rw [List.drop_zero]; exact hcs) (EB_flat _ _) Tryd.underlying38 (by kernel_rfl) (by decide) (by kernel_rfl) (by decide)) ?_
  rintro _ _ ⟨q, rfl, hs1, hs2, hs3, rfl⟩
  rw [List.take_zero, List.nil_append] at hs3
  rw [Nat.zero_add] at hs2 hs3 ⊢
  refine at_d rfl rfl (opr_assign rfl rfl) ?_
  refine at_nil ?_
  refine at_then ?_
  refine at_ret ?_
  refine done_of (res1 Tryd.results56 (res_tmp rfl)) ⟨q, rfl, hs1, hs2, hs3, rfl⟩ (by repeat (first | exact List.Sublist.refl _ | apply List.Sublist.cons))
theorem unmT_ct {M : Mem} {ig Tp jd Td : Nat} (hG : M[ig]? = some ⟨3, Tp, EE [pp]⟩) (hD : M[jd]? = some ⟨0, Td, EE [dP]⟩) {ix gx Tx c y : Nat} {cs : List Value} (hX : M[ix]? = some ⟨gx, Tx, cs⟩) {x : Nat} (hcs : cs.take 57 = EB y (x % pp % 2 * 128)) (hc : 57 ≤ c) (hy : y < pp) (hx0 : ¬ x % pp = 0) (hOn : On (el dP) (el x) (el y)) {ip gP TP : Nat} (hP : M[ip]? = some ⟨gP, TP, EE [0, 0, 0, 0, 0]⟩) : Ct Tryd.prog 58 #[.pointer (some ⟨gP, 0, none⟩), .slice (some ⟨gx, 0, none⟩) 57 c] M (fun v M' => ∃ x1, x1 < RR ∧ el x1 = el x ∧ v = .nilIface ∧ M' = M.set ip ⟨gP, TP, EE [x1, y, 1, x1, y]⟩) := by
  refine ct_of (vs := [.pointer (some ⟨gP, 0, none⟩), .slice (some ⟨gx, 0, none⟩) 57 c]) Tryd.func58 rfl Tryd.ntmps58 rfl fun w0 => ?_
  refine at_seq ?_
  refine at_region ?_
  refine at_d rfl rfl (opr_assign rfl rfl) ?_
  refine at_nil ?_
  refine at_then ?_
  refine at_seq ?_
  refine at_region ?_
  refine at_d rfl rfl (opr_move rfl rfl) ?_
  refine at_c rfl rfl (opr_call rfl rfl rfl Tryd.func55 (by kernel_rfl) rfl (fromBytes_ct (ig := ig) (jd := jd) (ix := ix) hG hD hX hcs hc hy hx0 hOn)) ?_
  rintro _ _ ⟨g, x1, hx1, hel, rfl, rfl⟩
  refine at_d rfl rfl (opr_move rfl rfl) ?_
  refine at_d rfl rfl (opr_extract rfl rfl rfl) ?_
  refine at_d rfl rfl (opr_extract rfl rfl rfl) ?_
  refine at_d rfl rfl (opr_assign rfl rfl) ?_
  refine at_d rfl rfl (opr_assign rfl rfl) ?_
  refine at_nil ?_
  refine at_then ?_
  refine at_seq ?_
  refine at_seq ?_
  refine at_region ?_
  refine at_d rfl rfl (opr_move rfl rfl) ?_
  refine at_d rfl rfl (opr_neqNil rfl rfl (by kernel_rfl)) ?_
  refine at_nil ?_
  refine at_then ?_
  refine at_cond_false rfl ?_
  refine at_skip ?_
  refine at_then ?_
  refine at_seq ?_
  refine at_region ?_
  refine at_d rfl rfl (opr_move rfl rfl) ?_
  refine at_d rfl rfl (opr_move rfl rfl) ?_
  refine at_d rfl rfl (opr_nilCheck rfl rfl) ?_
  refine at_d rfl rfl (opr_load (i := 0) rfl rfl rfl Tryd.underlying84 rfl size84 (EE_length _) (EE_all rfl)) ?_
  refine at_d rfl rfl (opr_nilCheck rfl rfl) ?_
  refine at_d rfl rfl (opr_store (i := ip + 1) rfl rfl rfl rfl hP size84 (EE_length _) (by rw [EE_length]; exact Nat.le_of_ble_eq_true rfl) (EE_flat _) (EE_over rfl)) ?_
  have hb1 : (M.set ip ⟨gP, TP, EE [x1, y, 1, x1, y]⟩)[ip]? = some ⟨gP, TP, EE [x1, y, 1, x1, y]⟩ := get_set hP
  refine at_mem (M2 := ⟨g, 84, EE [x1, y, 1, x1, y]⟩ :: (M.set ip ⟨gP, TP, EE [x1, y, 1, x1, y]⟩)) (by simp) ?_
  refine at_nil ?_
  refine at_then ?_
  refine at_seq ?_
  refine at_region ?_
  refine at_d rfl rfl (opr_assign rfl rfl) ?_
  refine at_nil ?_
  refine at_then ?_
  refine at_ret ?_
  exact done_of (res1 Tryd.results58 (res_tmp rfl)) ⟨x1, hx1, hel, rfl, rfl⟩ (by repeat (first | exact List.Sublist.refl _ | apply List.Sublist.cons_cons | apply List.Sublist.cons))
theorem unmF_ct {M : Mem} {ig Tp jd Td : Nat} (hG : M[ig]? = some ⟨3, Tp, EE [pp]⟩) (hD : M[jd]? = some ⟨0, Td, EE [dP]⟩) {ix gx Tx c y : Nat} {cs : List Value} (hX : M[ix]? = some ⟨gx, Tx, cs⟩) {s : Nat} (hcs : cs.take 57 = EB y (s * 128)) (hs : s < 2) (hc : 57 ≤ c) (hy : y < pp) (hno : ∀ X : Fin pp, X * X * (el y * el y * el dP - 1) ≠ el y * el y - 1) {ip gP TP : Nat} (hP : M[ip]? = some ⟨gP, TP, EE [0, 0, 0, 0, 0]⟩) : Ct Tryd.prog 58 #[.pointer (some ⟨gP, 0, none⟩), .slice (some ⟨gx, 0, none⟩) 57 c] M (fun v M' => ∃ X e, v = .iface X e ∧ M' = M) := by
  refine ct_of (vs := [.pointer (some ⟨gP, 0, none⟩), .slice (some ⟨gx, 0, none⟩) 57 c]) Tryd.func58 rfl Tryd.ntmps58 rfl fun w0 => ?_
  refine at_seq ?_
  refine at_region ?_
  refine at_d rfl rfl (opr_assign rfl rfl) ?_
  refine at_nil ?_
  refine at_then ?_
  refine at_seq ?_
  refine at_region ?_
  refine at_d rfl rfl (opr_move rfl rfl) ?_
  refine at_c rfl rfl (opr_call rfl rfl rfl Tryd.func55 (by kernel_rfl) rfl (fromBytesF_ct (ig := ig) (jd := jd) (ix := ix) hG hD hX hcs hs hc hy hno)) ?_
  rintro _ _ ⟨Xe, xe, rfl, rfl⟩
  refine at_d rfl rfl (opr_move rfl rfl) ?_
  refine at_d rfl rfl (opr_extract rfl rfl rfl) ?_
  refine at_d rfl rfl (opr_extract rfl rfl rfl) ?_
  refine at_d rfl rfl (opr_assign rfl rfl) ?_
  refine at_d rfl rfl (opr_assign rfl rfl) ?_
  refine at_nil ?_
  refine at_then ?_
  refine at_seq ?_
  refine at_seq ?_
  refine at_region ?_
  refine at_d rfl rfl (opr_move rfl rfl) ?_
  refine at_d rfl rfl (opr_neqHeld rfl rfl (by kernel_rfl)) ?_
  refine at_nil ?_
  refine at_then ?_
  refine at_cond_true rfl ?_
  refine at_seq ?_
  refine at_region ?_
  refine at_d rfl rfl (opr_move rfl rfl) ?_
  refine at_d rfl rfl (opr_assign rfl rfl) ?_
  refine at_nil ?_
  refine at_then ?_
  refine at_ret ?_
  refine at_then_ret ?_
  exact done_of (res1 Tryd.results58 (res_tmp rfl)) ⟨_, _, rfl, rfl⟩ (by repeat (first | exact List.Sublist.refl _ | apply List.Sublist.cons_cons | apply List.Sublist.cons))
theorem iDecWT_ct {M : Mem} {ig Tp jd Td : Nat} (hG : M[ig]? = some ⟨3, Tp, EE [pp]⟩) (hD : M[jd]? = some ⟨0, Td, EE [dP]⟩) {gl off c y x : Nat} (hy : y < pp) (hx0 : ¬ x % pp = 0) (hOn : On (el dP) (el x) (el y)) : CtW Tryd.prog 25 #[.slice (some ⟨gl, off, none⟩) 57 c] gl off (EB y (x % pp % 2 * 128)) M (Det (.tuple #[.agg (EE [x % pp, y]).toArray, .bool true]) M) := by
  refine ct_ofW (vs := [.slice (some ⟨gl, off, none⟩) 57 c]) Tryd.func25 rfl Tryd.ntmps25 rfl fun w0 hro => ?_
  refine at_seq ?_
  refine at_region ?_
  refine at_n rfl rfl (opr_alloc rfl zero24 rfl) ?_
  intro g0
  refine at_d rfl rfl (opr_assign rfl rfl) ?_
  refine at_nil ?_
  refine at_then ?_
  refine at_seq ?_
  refine at_region ?_
  refine at_d rfl rfl (opr_move rfl rfl) ?_
  refine at_cW hro rfl rfl (opr_callW rfl rfl rfl Tryd.func56 (by kernel_rfl) rfl (cloneW_ct)) ?_
  rintro _ _ ⟨q, rfl, hs1, hs2, hs3, rfl⟩
  refine at_c rfl rfl (opr_call rfl rfl rfl Tryd.func55 (by kernel_rfl) rfl (fromBytes_ct (ig := ig + 2) (jd := jd + 2) (ix := 0) hG hD rfl hs3 hs2 hy hx0 hOn)) ?_
  rintro _ _ ⟨g, x1, hx1, hel, rfl, rfl⟩
  refine at_d rfl rfl (opr_move rfl rfl) ?_
  refine at_d rfl rfl (opr_extract rfl rfl rfl) ?_
  refine at_d rfl rfl (opr_extract rfl rfl rfl) ?_
  refine at_d rfl rfl (opr_assign rfl rfl) ?_
  refine at_d rfl rfl (opr_assign rfl rfl) ?_
  refine at_nil ?_
  refine at_then ?_
  refine at_seq ?_
  refine at_seq ?_
  refine at_region ?_
  refine at_d rfl rfl (opr_move rfl rfl) ?_
  refine at_d rfl rfl (opr_neqNil rfl rfl (by kernel_rfl)) ?_
  refine at_nil ?_
  refine at_then ?_
  refine at_cond_false rfl ?_
  refine at_skip ?_
  refine at_then ?_
  refine at_seq ?_
  refine at_region ?_
  refine at_d rfl rfl (opr_move rfl rfl) ?_
  refine at_d rfl rfl (opr_call rfl rfl rfl Tryd.func57 (by kernel_rfl) rfl (plain_ct (ig := ig + 3) (ip := 0) hG rfl (by omega) hx1 (pp_lt_RR hy) RR_one)) ?_
  refine at_d rfl rfl (opr_store (i := 2) rfl rfl rfl rfl rfl size24 (EE_length _) (by rw [EE_length]; exact Nat.le_of_ble_eq_true rfl) (EE_flat _) (EE_over rfl)) ?_
  refine at_d rfl rfl (opr_assign rfl rfl) ?_
  refine at_nil ?_
  refine at_then ?_
  refine at_ret ?_
  refine done_of (res2 Tryd.results25 (res_cell (i := 2) rfl rfl Tryd.underlying24 rfl size24 (EE_length _) (EE_all rfl)) (res_tmp rfl)) ⟨?_, rfl⟩ (by repeat (first | exact List.Sublist.refl _ | apply List.Sublist.cons))
  rw [aff_mod, aff_mod, Nat.mod_eq_of_lt hy, el_eq.1 hel]
theorem iDecWF_ct {M : Mem} {ig Tp jd Td : Nat} (hG : M[ig]? = some ⟨3, Tp, EE [pp]⟩) (hD : M[jd]? = some ⟨0, Td, EE [dP]⟩) {gl off c y s : Nat} (hs : s < 2) (hy : y < pp) (hno : ∀ X : Fin pp, X * X * (el y * el y * el dP - 1) ≠ el y * el y - 1) : CtW Tryd.prog 25 #[.slice (some ⟨gl, off, none⟩) 57 c] gl off (EB y (s * 128)) M (Det (.tuple #[.agg (EE [0, 0]).toArray, .bool false]) M) := by
  refine ct_ofW (vs := [.slice (some ⟨gl, off, none⟩) 57 c]) Tryd.func25 rfl Tryd.ntmps25 rfl fun w0 hro => ?_
  refine at_seq ?_
  refine at_region ?_
  refine at_n rfl rfl (opr_alloc rfl zero24 rfl) ?_
  intro g0
  refine at_d rfl rfl (opr_assign rfl rfl) ?_
  refine at_nil ?_
  refine at_then ?_
  refine at_seq ?_
  refine at_region ?_
  refine at_d rfl rfl (opr_move rfl rfl) ?_
  refine at_cW hro rfl rfl (opr_callW rfl rfl rfl Tryd.func56 (by kernel_rfl) rfl (cloneW_ct)) ?_
  rintro _ _ ⟨q, rfl, hs1, hs2, hs3, rfl⟩
  refine at_c rfl rfl (opr_call rfl rfl rfl Tryd.func55 (by kernel_rfl) rfl (fromBytesF_ct (ig := ig + 2) (jd := jd + 2) (ix := 0) hG hD rfl hs3 hs hs2 hy hno)) ?_
  rintro _ _ ⟨Xe, xe, rfl, rfl⟩
  refine at_d rfl rfl (opr_move rfl rfl) ?_
  refine at_d rfl rfl (opr_extract rfl rfl rfl) ?_
  refine at_d rfl rfl (opr_extract rfl rfl rfl) ?_
  refine at_d rfl rfl (opr_assign rfl rfl) ?_
  refine at_d rfl rfl (opr_assign rfl rfl) ?_
  refine at_nil ?_
  refine at_then ?_
  refine at_seq ?_
  refine at_seq ?_
  refine at_region ?_
  refine at_d rfl rfl (opr_move rfl rfl) ?_
  refine at_d rfl rfl (opr_neqHeld rfl rfl (by kernel_rfl)) ?_
  refine at_nil ?_
  refine at_then ?_
  refine at_cond_true rfl ?_
  refine at_seq ?_
  refine at_region ?_
  refine at_d rfl rfl (opr_buildE (ds := EE [0, 0]) rfl rfl (builtp24 [] rfl) rfl) ?_
  refine at_d rfl rfl (opr_store (i := 1) rfl rfl rfl rfl rfl size24 (EE_length _) (by rw [EE_length]; exact Nat.le_of_ble_eq_true rfl) (EE_flat _) (EE_over rfl)) ?_
  refine at_d rfl rfl (opr_assign rfl rfl) ?_
  refine at_nil ?_
  refine at_then ?_
  refine at_ret ?_
  refine at_then_ret ?_
  refine done_of (res2 Tryd.results25 (res_cell (i := 1) rfl rfl Tryd.underlying24 rfl size24 (EE_length _) (EE_all rfl)) (res_tmp rfl)) ⟨rfl, rfl⟩ (by repeat (first | exact List.Sublist.refl _ | apply List.Sublist.cons))
theorem iDecCT_ct {M : Mem} {ig Tp jd Td : Nat} (hG : M[ig]? = some ⟨3, Tp, EE [pp]⟩) (hD : M[jd]? = some ⟨0, Td, EE [dP]⟩) {ix gx Tx c y : Nat} {cs : List Value} (hX : M[ix]? = some ⟨gx, Tx, cs⟩) {x : Nat} (hcs : cs.take 57 = EB y (x % pp % 2 * 128)) (hy : y < pp) (hx0 : ¬ x % pp = 0) (hOn : On (el dP) (el x) (el y)) : Ct Tryd.prog 25 #[.slice (some ⟨gx, 0, none⟩) 57 c] M (Det (.tuple #[.agg (EE [x % pp, y]).toArray, .bool true]) M) := by
  refine ct_of (vs := [.slice (some ⟨gx, 0, none⟩) 57 c]) Tryd.func25 rfl Tryd.ntmps25 rfl fun w0 => ?_
  refine at_seq ?_
  refine at_region ?_
  refine at_n rfl rfl (opr_alloc rfl zero24 rfl) ?_
  intro g0
  refine at_d rfl rfl (opr_assign rfl rfl) ?_
  refine at_nil ?_
  refine at_then ?_
  refine at_seq ?_
  refine at_region ?_
  refine at_d rfl rfl (opr_move rfl rfl) ?_
  refine at_c rfl rfl (opr_call rfl rfl rfl Tryd.func56 (by kernel_rfl) rfl (cloneC_ct (ix := ix + 1) hX hcs)) ?_
  rintro _ _ ⟨q, rfl, hs1, hs2, hs3, rfl⟩
  refine at_c rfl rfl (opr_call rfl rfl rfl Tryd.func55 (by kernel_rfl) rfl (fromBytes_ct (ig := ig + 2) (jd := jd + 2) (ix := 0) hG hD rfl hs3 hs2 hy hx0 hOn)) ?_
  rintro _ _ ⟨g, x1, hx1, hel, rfl, rfl⟩
  refine at_d rfl rfl (opr_move rfl rfl) ?_
  refine at_d rfl rfl (opr_extract rfl rfl rfl) ?_
  refine at_d rfl rfl (opr_extract rfl rfl rfl) ?_
  refine at_d rfl rfl (opr_assign rfl rfl) ?_
  refine at_d rfl rfl (opr_assign rfl rfl) ?_
  refine at_nil ?_
  refine at_then ?_
  refine at_seq ?_
  refine at_seq ?_
  refine at_region ?_
  refine at_d rfl rfl (opr_move rfl rfl) ?_
  refine at_d rfl rfl (opr_neqNil rfl rfl (by kernel_rfl)) ?_
  refine at_nil ?_
  refine at_then ?_
  refine at_cond_false rfl ?_
  refine at_skip ?_
  refine at_then ?_
  refine at_seq ?_
  refine at_region ?_
  refine at_d rfl rfl (opr_move rfl rfl) ?_
  refine at_d rfl rfl (opr_call rfl rfl rfl Tryd.func57 (by kernel_rfl) rfl (plain_ct (ig := ig + 3) (ip := 0) hG rfl (by omega) hx1 (pp_lt_RR hy) RR_one)) ?_
  refine at_d rfl rfl (opr_store (i := 2) rfl rfl rfl rfl rfl size24 (EE_length _) (by rw [EE_length]; exact Nat.le_of_ble_eq_true rfl) (EE_flat _) (EE_over rfl)) ?_
  refine at_d rfl rfl (opr_assign rfl rfl) ?_
  refine at_nil ?_
  refine at_then ?_
  refine at_ret ?_
  refine done_of (res2 Tryd.results25 (res_cell (i := 2) rfl rfl Tryd.underlying24 rfl size24 (EE_length _) (EE_all rfl)) (res_tmp rfl)) ⟨?_, rfl⟩ (by repeat (first | exact List.Sublist.refl _ | apply List.Sublist.cons))
  rw [aff_mod, aff_mod, Nat.mod_eq_of_lt hy, el_eq.1 hel]
theorem iUnmWT_ct {M : Mem} {ig Tp jd Td : Nat} (hG : M[ig]? = some ⟨3, Tp, EE [pp]⟩) (hD : M[jd]? = some ⟨0, Td, EE [dP]⟩) {gl off c y x : Nat} (hy : y < pp) (hx0 : ¬ x % pp = 0) (hOn : On (el dP) (el x) (el y)) : CtW Tryd.prog 26 #[.slice (some ⟨gl, off, none⟩) 57 c] gl off (EB y (x % pp % 2 * 128)) M (Det (.tuple #[.agg (EE [x % pp, y]).toArray, .bool true]) M) := by
  refine ct_ofW (vs := [.slice (some ⟨gl, off, none⟩) 57 c]) Tryd.func26 rfl Tryd.ntmps26 rfl fun w0 hro => ?_
  refine at_seq ?_
  refine at_region ?_
  refine at_n rfl rfl (opr_alloc rfl zero24 rfl) ?_
  intro g0
  refine at_d rfl rfl (opr_assign rfl rfl) ?_
  refine at_nil ?_
  refine at_then ?_
  refine at_seq ?_
  refine at_region ?_
  refine at_d rfl rfl (opr_buildE (ds := EE [0, 0, 0, 0, 0]) rfl rfl (builtp84 [] rfl) rfl) ?_
  refine at_n rfl rfl (opr_box rfl rfl rfl) ?_
  intro g1
  refine at_d rfl rfl (opr_assign rfl rfl) ?_
  refine at_nil ?_
  refine at_then ?_
  refine at_seq ?_
  refine at_seq ?_
  refine at_region ?_
  refine at_d rfl rfl (opr_move rfl rfl) ?_
  refine at_d rfl rfl (opr_move rfl rfl) ?_
  refine at_cW hro rfl rfl (opr_callW rfl rfl rfl Tryd.func56 (by kernel_rfl) rfl (cloneW_ct)) ?_
  rintro _ _ ⟨q, rfl, hs1, hs2, hs3, rfl⟩
  refine at_c rfl rfl (opr_call rfl rfl rfl Tryd.func58 (by kernel_rfl) rfl (unmT_ct (ig := ig + 3) (jd := jd + 3) (ix := 0) (ip := 1) hG hD rfl hs3 hs2 hy hx0 hOn rfl)) ?_
  rintro _ _ ⟨x1, hx1, hel, rfl, rfl⟩
  refine at_d rfl rfl (opr_neqNil rfl rfl (by kernel_rfl)) ?_
  refine at_nil ?_
  refine at_then ?_
  refine at_cond_false rfl ?_
  refine at_skip ?_
  refine at_then ?_
  refine at_seq ?_
  refine at_region ?_
  refine at_d rfl rfl (opr_move rfl rfl) ?_
  refine at_d rfl rfl (opr_call rfl rfl rfl Tryd.func57 (by kernel_rfl) rfl (plain_ct (ig := ig + 3) (ip := 1) hG rfl (by omega) hx1 (pp_lt_RR hy) RR_one)) ?_
  refine at_d rfl rfl (opr_store (i := 2) rfl rfl rfl rfl rfl size24 (EE_length _) (by rw [EE_length]; exact Nat.le_of_ble_eq_true rfl) (EE_flat _) (EE_over rfl)) ?_
  refine at_d rfl rfl (opr_assign rfl rfl) ?_
  refine at_nil ?_
  refine at_then ?_
  refine at_ret ?_
  refine done_of (res2 Tryd.results26 (res_cell (i := 2) rfl rfl Tryd.underlying24 rfl size24 (EE_length _) (EE_all rfl)) (res_tmp rfl)) ⟨?_, rfl⟩ (by repeat (first | exact List.Sublist.refl _ | apply List.Sublist.cons))
  rw [aff_mod, aff_mod, Nat.mod_eq_of_lt hy, el_eq.1 hel]
theorem iUnmWF_ct {M : Mem} {ig Tp jd Td : Nat} (hG : M[ig]? = some ⟨3, Tp, EE [pp]⟩) (hD : M[jd]? = some ⟨0, Td, EE [dP]⟩) {gl off c y s : Nat} (hs : s < 2) (hy : y < pp) (hno : ∀ X : Fin pp, X * X * (el y * el y * el dP - 1) ≠ el y * el y - 1) : CtW Tryd.prog 26 #[.slice (some ⟨gl, off, none⟩) 57 c] gl off (EB y (s * 128)) M (Det (.tuple #[.agg (EE [0, 0]).toArray, .bool false]) M) := by
  refine ct_ofW (vs := [.slice (some ⟨gl, off, none⟩) 57 c]) Tryd.func26 rfl Tryd.ntmps26 rfl fun w0 hro => ?_
  refine at_seq ?_
  refine at_region ?_
  refine at_n rfl rfl (opr_alloc rfl zero24 rfl) ?_
  intro g0
  refine at_d rfl rfl (opr_assign rfl rfl) ?_
  refine at_nil ?_
  refine at_then ?_
  refine at_seq ?_
  refine at_region ?_
  refine at_d rfl rfl (opr_buildE (ds := EE [0, 0, 0, 0, 0]) rfl rfl (builtp84 [] rfl) rfl) ?_
  refine at_n rfl rfl (opr_box rfl rfl rfl) ?_
  intro g1
  refine at_d rfl rfl (opr_assign rfl rfl) ?_
  refine at_nil ?_
  refine at_then ?_
  refine at_seq ?_
  refine at_seq ?_
  refine at_region ?_
  refine at_d rfl rfl (opr_move rfl rfl) ?_
  refine at_d rfl rfl (opr_move rfl rfl) ?_
  refine at_cW hro rfl rfl (opr_callW rfl rfl rfl Tryd.func56 (by kernel_rfl) rfl (cloneW_ct)) ?_
  rintro _ _ ⟨q, rfl, hs1, hs2, hs3, rfl⟩
  refine at_c rfl rfl (opr_call rfl rfl rfl Tryd.func58 (by kernel_rfl) rfl (unmF_ct (ig := ig + 3) (jd := jd + 3) (ix := 0) (ip := 1) hG hD rfl hs3 hs hs2 hy hno rfl)) ?_
  rintro _ _ ⟨Xe, xe, rfl, rfl⟩
  refine at_d rfl rfl (opr_neqHeld rfl rfl (by kernel_rfl)) ?_
  refine at_nil ?_
  refine at_then ?_
  refine at_cond_true rfl ?_
  refine at_seq ?_
  refine at_region ?_
  refine at_d rfl rfl (opr_buildE (ds := EE [0, 0]) rfl rfl (builtp24 [] rfl) rfl) ?_
  refine at_d rfl rfl (opr_store (i := 2) rfl rfl rfl rfl rfl size24 (EE_length _) (by rw [EE_length]; exact Nat.le_of_ble_eq_true rfl) (EE_flat _) (EE_over rfl)) ?_
  refine at_d rfl rfl (opr_assign rfl rfl) ?_
  refine at_nil ?_
  refine at_then ?_
  refine at_ret ?_
  refine at_then_ret ?_
  refine done_of (res2 Tryd.results26 (res_cell (i := 2) rfl rfl Tryd.underlying24 rfl size24 (EE_length _) (EE_all rfl)) (res_tmp rfl)) ⟨rfl, rfl⟩ (by repeat (first | exact List.Sublist.refl _ | apply List.Sublist.cons))
end Go.Proofs.YtjanppnnioeifaaDoor

/- The law FnDecodeIs. -/
namespace Go.Proofs.YtjanppnnioeifaaDoor
open Go
set_option maxRecDepth 100000

theorem gX0 : ¬ gXn % pp = 0 := by decide +kernel
theorem gX_RR : gXn < RR := by decide +kernel
theorem gY_RR : gYn < RR := by decide +kernel
theorem gY_pp : gYn % pp < pp := Nat.mod_lt _ (by decide)
theorem base_on : On (el dP) (el gXn) (el (gYn % pp)) := by unfold On; decide +kernel
theorem xs_EB {bs : List Nat} (hl : bs.length = 57) (hb : ∀ b ∈ bs, b < 256) : ∃ y t, y < RR ∧ t < 256 ∧ bs.map u8V = EB y t := by
  have h56 : (bs.take 56).length = 56 := by rw [List.length_take, hl]; rfl
  have hb' : ∀ b ∈ bs.take 56, b < 256 := fun b h => hb b (List.mem_of_mem_take h)
  refine ⟨dval 256 (bs.take 56), bs.getD 56 0, ?_, ?_, ?_⟩
  · have := dval_lt _ hb'
    rw [h56] at this
    exact Nat.lt_of_lt_of_le this (by decide +kernel)
  · rw [List.getD_eq_getElem?_getD, List.getElem?_eq_getElem (by omega)]
    exact hb _ (List.getElem_mem _)
  · have hd := digs_dval _ hb'
    rw [h56] at hd
    rw [EB, E, hd]
    have e : bs = bs.take 56 ++ [bs.getD 56 0] := by
      conv => lhs; rw [← List.take_append_drop 56 bs]
      congr 1
      rw [List.drop_eq_getElem_cons (by omega), List.drop_of_length_le (by omega), List.getD_eq_getElem?_getD, List.getElem?_eq_getElem (by omega)]
      rfl
    conv => lhs; rw [e]
    rw [List.map_append]; rfl
theorem lawA1_ct {M : Mem} {a : Option Addr} {n c : Nat} (hn : 2147483647 < n) : Ct Tryd.prog 4 #[.slice a n c] M (Det (.bool true) M) := by
  refine ct_of (vs := [.slice a n c]) Tryd.func4 rfl Tryd.ntmps4 rfl fun w0 => ?_
  refine at_seq ?_
  refine at_region ?_
  refine at_d rfl rfl (opr_assign rfl rfl) ?_
  refine at_nil ?_
  refine at_then ?_
  refine at_seq ?_
  refine at_seq ?_
  refine at_region ?_
  refine at_d rfl rfl (opr_move rfl rfl) ?_
  refine at_d rfl rfl (opr_lenS (n := n) rfl rfl Tryd.underlying38) ?_
  refine at_d rfl rfl (opr_eq' (v' := .bool true) (opr_gtr (a := n) (b := 2147483647) rfl rfl rfl) (congrArg Value.bool (decide_eq_true hn))) ?_
  refine at_nil ?_
  refine at_then ?_
  refine at_cond_true rfl ?_
  refine at_seq ?_
  refine at_region ?_
  refine at_d rfl rfl (opr_assign rfl rfl) ?_
  refine at_nil ?_
  refine at_then ?_
  refine at_ret ?_
  refine at_then_ret ?_
  refine done_of (res1 Tryd.results4 (res_tmp rfl)) ⟨rfl, rfl⟩ (by repeat (first | exact List.Sublist.refl _ | apply List.Sublist.cons))
theorem lawA2_ct {M : Mem} {a : Option Addr} {n c : Nat} (hn : ¬ 2147483647 < n) (h57 : n ≠ 57) : Ct Tryd.prog 4 #[.slice a n c] M (Det (.bool true) M) := by
  refine ct_of (vs := [.slice a n c]) Tryd.func4 rfl Tryd.ntmps4 rfl fun w0 => ?_
  refine at_seq ?_
  refine at_region ?_
  refine at_d rfl rfl (opr_assign rfl rfl) ?_
  refine at_nil ?_
  refine at_then ?_
  refine at_seq ?_
  refine at_seq ?_
  refine at_region ?_
  refine at_d rfl rfl (opr_move rfl rfl) ?_
  refine at_d rfl rfl (opr_lenS (n := n) rfl rfl Tryd.underlying38) ?_
  refine at_d rfl rfl (opr_eq' (v' := .bool false) (opr_gtr (a := n) (b := 2147483647) rfl rfl rfl) (congrArg Value.bool (decide_eq_false hn))) ?_
  refine at_nil ?_
  refine at_then ?_
  refine at_cond_false rfl ?_
  refine at_skip ?_
  refine at_then ?_
  refine at_seq ?_
  refine at_seq ?_
  refine at_region ?_
  refine at_d rfl rfl (opr_move rfl rfl) ?_
  refine at_d rfl rfl (opr_lenS (n := n) rfl rfl Tryd.underlying38) ?_
  refine at_d rfl rfl (opr_eq' (v' := .bool true) (opr_neq (a := n) (b := 57) rfl rfl rfl) (congrArg Value.bool (decide_eq_true h57))) ?_
  refine at_d rfl rfl (opr_move rfl rfl) ?_
  refine at_op_skip rfl rfl ?_
  refine at_op_skip rfl rfl ?_
  refine at_op_skip rfl rfl ?_
  refine at_op_skip rfl rfl ?_
  refine at_op_skip rfl rfl ?_
  refine at_d rfl rfl (opr_pickT rfl rfl rfl) ?_
  refine at_d rfl rfl (opr_move rfl rfl) ?_
  refine at_op_skip rfl rfl ?_
  refine at_op_skip rfl rfl ?_
  refine at_op_skip rfl rfl ?_
  refine at_op_skip rfl rfl ?_
  refine at_op_skip rfl rfl ?_
  refine at_op_skip rfl rfl ?_
  refine at_op_skip rfl rfl ?_
  refine at_op_skip rfl rfl ?_
  refine at_d rfl rfl (opr_pickT rfl rfl rfl) ?_
  refine at_nil ?_
  refine at_then ?_
  refine at_cond_true rfl ?_
  refine at_seq ?_
  refine at_region ?_
  refine at_d rfl rfl (opr_assign rfl rfl) ?_
  refine at_nil ?_
  refine at_then ?_
  refine at_ret ?_
  refine at_then_ret ?_
  refine done_of (res1 Tryd.results4 (res_tmp rfl)) ⟨rfl, rfl⟩ (by repeat (first | exact List.Sublist.refl _ | apply List.Sublist.cons))
theorem lawA_ct {M : Mem} {a : Option Addr} {n c : Nat} (h57 : n ≠ 57) : Ct Tryd.prog 4 #[.slice a n c] M (Det (.bool true) M) := by
  by_cases hn : 2147483647 < n
  · exact lawA1_ct hn
  · exact lawA2_ct hn h57
theorem lawB_ct {M : Mem} {ig Tp jd Td : Nat} (hG : M[ig]? = some ⟨3, Tp, EE [pp]⟩) (hD : M[jd]? = some ⟨0, Td, EE [dP]⟩) {gl off c y t : Nat} (hc57 : 57 ≤ c) (hyR : y < RR) (ht : ¬ t % 128 = 0) : CtW Tryd.prog 4 #[.slice (some ⟨gl, off, none⟩) 57 c] gl off (EB y t) M (Det (.bool true) M) := by
  refine ct_ofW (vs := [.slice (some ⟨gl, off, none⟩) 57 c]) Tryd.func4 rfl Tryd.ntmps4 rfl fun w0 hro => ?_
  refine at_seq ?_
  refine at_region ?_
  refine at_d rfl rfl (opr_assign rfl rfl) ?_
  refine at_nil ?_
  refine at_then ?_
  refine at_seq ?_
  refine at_seq ?_
  refine at_region ?_
  refine at_d rfl rfl (opr_move rfl rfl) ?_
  refine at_d rfl rfl (opr_lenS (n := 57) rfl rfl Tryd.underlying38) ?_
  refine at_d rfl rfl (opr_eq' (v' := .bool false) (opr_gtr (a := 57) (b := 2147483647) rfl rfl rfl) rfl) ?_
  refine at_nil ?_
  refine at_then ?_
  refine at_cond_false rfl ?_
  refine at_skip ?_
  refine at_then ?_
  refine at_seq ?_
  refine at_seq ?_
  refine at_region ?_
  refine at_d rfl rfl (opr_move rfl rfl) ?_
  refine at_d rfl rfl (opr_lenS (n := 57) rfl rfl Tryd.underlying38) ?_
  refine at_d rfl rfl (opr_neqF (a := 57) rfl rfl rfl) ?_
  refine at_d rfl rfl (opr_move rfl rfl) ?_
  refine at_d rfl rfl (opr_move rfl rfl) ?_
  refine at_d rfl rfl (opr_indexAddrS (j := 56) (off' := off + 56) rfl rfl rfl Tryd.underlying38 (by decide) size5 rfl) ?_
  refine at_dW hro rfl rfl (opr_loadW (j := 56) rfl rfl Tryd.underlying5 rfl rfl (EB_last _ _)) ?_
  refine at_d rfl rfl (opr_rem8 (a := t) (b := 128) rfl rfl rfl (by decide)) ?_
  refine at_d rfl rfl (opr_eq' (v' := .bool true) (opr_neq (a := t % 128) (b := 0) rfl rfl rfl) (congrArg Value.bool (decide_eq_true ht))) ?_
  refine at_d rfl rfl (opr_pickN rfl rfl rfl) ?_
  refine at_d rfl rfl (opr_move rfl rfl) ?_
  refine at_op_skip rfl rfl ?_
  refine at_op_skip rfl rfl ?_
  refine at_op_skip rfl rfl ?_
  refine at_op_skip rfl rfl ?_
  refine at_op_skip rfl rfl ?_
  refine at_op_skip rfl rfl ?_
  refine at_op_skip rfl rfl ?_
  refine at_op_skip rfl rfl ?_
  refine at_d rfl rfl (opr_pickT rfl rfl rfl) ?_
  refine at_nil ?_
  refine at_then ?_
  refine at_cond_true rfl ?_
  refine at_seq ?_
  refine at_region ?_
  refine at_d rfl rfl (opr_assign rfl rfl) ?_
  refine at_nil ?_
  refine at_then ?_
  refine at_ret ?_
  refine at_then_ret ?_
  refine done_of (res1 Tryd.results4 (res_tmp rfl)) ⟨rfl, rfl⟩ (by repeat (first | exact List.Sublist.refl _ | apply List.Sublist.cons))
theorem lawC_ct {M : Mem} {ig Tp jd Td : Nat} (hG : M[ig]? = some ⟨3, Tp, EE [pp]⟩) (hD : M[jd]? = some ⟨0, Td, EE [dP]⟩) {gl off c y s : Nat} (hc57 : 57 ≤ c) (hyR : y < RR) (hs : s < 2) (hy : ¬ y < pp) : CtW Tryd.prog 4 #[.slice (some ⟨gl, off, none⟩) 57 c] gl off (EB y (s * 128)) M (Det (.bool true) M) := by
  refine ct_ofW (vs := [.slice (some ⟨gl, off, none⟩) 57 c]) Tryd.func4 rfl Tryd.ntmps4 rfl fun w0 hro => ?_
  refine at_seq ?_
  refine at_region ?_
  refine at_d rfl rfl (opr_assign rfl rfl) ?_
  refine at_nil ?_
  refine at_then ?_
  refine at_seq ?_
  refine at_seq ?_
  refine at_region ?_
  refine at_d rfl rfl (opr_move rfl rfl) ?_
  refine at_d rfl rfl (opr_lenS (n := 57) rfl rfl Tryd.underlying38) ?_
  refine at_d rfl rfl (opr_eq' (v' := .bool false) (opr_gtr (a := 57) (b := 2147483647) rfl rfl rfl) rfl) ?_
  refine at_nil ?_
  refine at_then ?_
  refine at_cond_false rfl ?_
  refine at_skip ?_
  refine at_then ?_
  refine at_seq ?_
  refine at_seq ?_
  refine at_region ?_
  refine at_d rfl rfl (opr_move rfl rfl) ?_
  refine at_d rfl rfl (opr_lenS (n := 57) rfl rfl Tryd.underlying38) ?_
  refine at_d rfl rfl (opr_neqF (a := 57) rfl rfl rfl) ?_
  refine at_d rfl rfl (opr_move rfl rfl) ?_
  refine at_d rfl rfl (opr_move rfl rfl) ?_
  refine at_d rfl rfl (opr_indexAddrS (j := 56) (off' := off + 56) rfl rfl rfl Tryd.underlying38 (by decide) size5 rfl) ?_
  refine at_dW hro rfl rfl (opr_loadW (j := 56) rfl rfl Tryd.underlying5 rfl rfl (EB_last _ _)) ?_
  refine at_d rfl rfl (opr_eq' (opr_rem8 (b := 128) rfl rfl rfl (by decide)) (u8_eq' (b := 0) (Nat.mul_mod_left _ _))) ?_
  refine at_d rfl rfl (opr_neqF (a := 0) rfl rfl rfl) ?_
  refine at_d rfl rfl (opr_pickN rfl rfl rfl) ?_
  refine at_d rfl rfl (opr_move rfl rfl) ?_
  refine at_d rfl rfl (opr_move rfl rfl) ?_
  refine at_d rfl rfl (opr_sliceSHi (b := 56) rfl rfl rfl Tryd.underlying38 size5 (by omega) (by omega)) ?_
  refine at_d rfl rfl (opr_arrayAt (n := 56) rfl rfl Tryd.underlying22 (by decide)) ?_
  refine at_dW hro rfl rfl (opr_loadAW (j := 0) rfl rfl Tryd.underlying22 rfl size22 rfl (E_length _) (EB_head _ _)) ?_
  refine at_d rfl rfl (opr_call rfl rfl rfl Tryd.func20 (by kernel_rfl) rfl (of_ct _)) ?_
  refine at_d rfl rfl (opr_call rfl rfl rfl Tryd.func21 (by kernel_rfl) rfl (p_ct)) ?_
  refine at_d rfl rfl (opr_call rfl rfl rfl Tryd.func19 (by kernel_rfl) rfl ((less_ct (a := y) (by rw [RR_pow]; exact hyR) (by decide)).mono (fun _ _ h => by rw [decide_eq_false hy] at h; exact h))) ?_
  refine at_d rfl rfl (opr_unOp (u := .bool true) rfl rfl (fun _ => rfl)) ?_
  refine at_d rfl rfl (opr_pickN rfl rfl rfl) ?_
  refine at_nil ?_
  refine at_then ?_
  refine at_cond_true rfl ?_
  refine at_seq ?_
  refine at_region ?_
  refine at_d rfl rfl (opr_assign rfl rfl) ?_
  refine at_nil ?_
  refine at_then ?_
  refine at_ret ?_
  refine at_then_ret ?_
  refine done_of (res1 Tryd.results4 (res_tmp rfl)) ⟨rfl, rfl⟩ (by repeat (first | exact List.Sublist.refl _ | apply List.Sublist.cons))
theorem lawD_ct {M : Mem} {ig Tp jd Td : Nat} (hG : M[ig]? = some ⟨3, Tp, EE [pp]⟩) (hD : M[jd]? = some ⟨0, Td, EE [dP]⟩) {gl off c y s : Nat} (hc57 : 57 ≤ c) (hyR : y < RR) (hs : s < 2) (hy : y < pp) (h1 : y * y % pp = 1) : CtW Tryd.prog 4 #[.slice (some ⟨gl, off, none⟩) 57 c] gl off (EB y (s * 128)) M (Det (.bool true) M) := by
  refine ct_ofW (vs := [.slice (some ⟨gl, off, none⟩) 57 c]) Tryd.func4 rfl Tryd.ntmps4 rfl fun w0 hro => ?_
  refine at_seq ?_
  refine at_region ?_
  refine at_d rfl rfl (opr_assign rfl rfl) ?_
  refine at_nil ?_
  refine at_then ?_
  refine at_seq ?_
  refine at_seq ?_
  refine at_region ?_
  refine at_d rfl rfl (opr_move rfl rfl) ?_
  refine at_d rfl rfl (opr_lenS (n := 57) rfl rfl Tryd.underlying38) ?_
  refine at_d rfl rfl (opr_eq' (v' := .bool false) (opr_gtr (a := 57) (b := 2147483647) rfl rfl rfl) rfl) ?_
  refine at_nil ?_
  refine at_then ?_
  refine at_cond_false rfl ?_
  refine at_skip ?_
  refine at_then ?_
  refine at_seq ?_
  refine at_seq ?_
  refine at_region ?_
  refine at_d rfl rfl (opr_move rfl rfl) ?_
  refine at_d rfl rfl (opr_lenS (n := 57) rfl rfl Tryd.underlying38) ?_
  refine at_d rfl rfl (opr_neqF (a := 57) rfl rfl rfl) ?_
  refine at_d rfl rfl (opr_move rfl rfl) ?_
  refine at_d rfl rfl (opr_move rfl rfl) ?_
  refine at_d rfl rfl (opr_indexAddrS (j := 56) (off' := off + 56) rfl rfl rfl Tryd.underlying38 (by decide) size5 rfl) ?_
  refine at_dW hro rfl rfl (opr_loadW (j := 56) rfl rfl Tryd.underlying5 rfl rfl (EB_last _ _)) ?_
  refine at_d rfl rfl (opr_eq' (opr_rem8 (b := 128) rfl rfl rfl (by decide)) (u8_eq' (b := 0) (Nat.mul_mod_left _ _))) ?_
  refine at_d rfl rfl (opr_neqF (a := 0) rfl rfl rfl) ?_
  refine at_d rfl rfl (opr_pickN rfl rfl rfl) ?_
  refine at_d rfl rfl (opr_move rfl rfl) ?_
  refine at_d rfl rfl (opr_move rfl rfl) ?_
  refine at_d rfl rfl (opr_sliceSHi (b := 56) rfl rfl rfl Tryd.underlying38 size5 (by omega) (by omega)) ?_
  refine at_d rfl rfl (opr_arrayAt (n := 56) rfl rfl Tryd.underlying22 (by decide)) ?_
  refine at_dW hro rfl rfl (opr_loadAW (j := 0) rfl rfl Tryd.underlying22 rfl size22 rfl (E_length _) (EB_head _ _)) ?_
  refine at_d rfl rfl (opr_call rfl rfl rfl Tryd.func20 (by kernel_rfl) rfl (of_ct _)) ?_
  refine at_d rfl rfl (opr_call rfl rfl rfl Tryd.func21 (by kernel_rfl) rfl (p_ct)) ?_
  refine at_d rfl rfl (opr_call rfl rfl rfl Tryd.func19 (by kernel_rfl) rfl (lessT_ct hyR RR_pp hy)) ?_
  refine at_d rfl rfl (opr_unOp (u := .bool false) rfl rfl (fun _ => rfl)) ?_
  refine at_d rfl rfl (opr_pickN rfl rfl rfl) ?_
  refine at_nil ?_
  refine at_then ?_
  refine at_cond_false rfl ?_
  refine at_skip ?_
  refine at_then ?_
  refine at_seq ?_
  refine at_region ?_
  refine at_d rfl rfl (opr_move rfl rfl) ?_
  refine at_d rfl rfl (opr_sliceSHi (b := 56) rfl rfl rfl Tryd.underlying38 size5 (by omega) (by omega)) ?_
  refine at_d rfl rfl (opr_arrayAt (n := 56) rfl rfl Tryd.underlying22 (by decide)) ?_
  refine at_dW hro rfl rfl (opr_loadAW (j := 0) rfl rfl Tryd.underlying22 rfl size22 rfl (E_length _) (EB_head _ _)) ?_
  refine at_d rfl rfl (opr_call rfl rfl rfl Tryd.func20 (by kernel_rfl) rfl (of_ct _)) ?_
  refine at_n rfl rfl (opr_alloc rfl zero31 rfl) ?_
  intro g0
  refine at_d rfl rfl (opr_store (i := 0) rfl rfl rfl rfl rfl size31 (N_length _) (by rw [N_length]; decide) (N_flat _) N_over) ?_
  refine at_nil ?_
  refine at_then ?_
  refine at_seq ?_
  refine at_seq ?_
  refine at_region ?_
  refine at_d rfl rfl (opr_load (i := 0) rfl rfl rfl Tryd.underlying31 rfl size31 (N_length _) (N_at _)) ?_
  refine at_d rfl rfl (opr_load (i := 0) rfl rfl rfl Tryd.underlying31 rfl size31 (N_length _) (N_at _)) ?_
  refine at_d rfl rfl (opr_call rfl rfl rfl Tryd.func22 (by kernel_rfl) rfl (sMul_ct hyR hyR)) ?_
  refine at_d rfl rfl (opr_call rfl rfl rfl Tryd.func23 (by kernel_rfl) rfl (small_ct (c := 1) (by decide))) ?_
  refine at_d rfl rfl (opr_eqlNb (t := true) rfl rfl rfl Tryd.underlying31 Tryd.underlying29 size29 (by kernel_rfl) (modp_lt _) (by decide) (decide_eq_true h1)) ?_
  refine at_nil ?_
  refine at_then ?_
  refine at_cond_true rfl ?_
  refine at_seq ?_
  refine at_region ?_
  refine at_d rfl rfl (opr_assign rfl rfl) ?_
  refine at_nil ?_
  refine at_then ?_
  refine at_ret ?_
  refine at_then_ret ?_
  refine done_of (res1 Tryd.results4 (res_tmp rfl)) ⟨rfl, rfl⟩ (by repeat (first | exact List.Sublist.refl _ | apply List.Sublist.cons))
theorem lawF_ct {M : Mem} {ig Tp jd Td : Nat} (hG : M[ig]? = some ⟨3, Tp, EE [pp]⟩) (hD : M[jd]? = some ⟨0, Td, EE [dP]⟩) {gl off c y s : Nat} (hc57 : 57 ≤ c) (hyR : y < RR) (hs : s < 2) (hy : y < pp) (h1 : ¬ y * y % pp = 1) (hok : dOk y = false) : CtW Tryd.prog 4 #[.slice (some ⟨gl, off, none⟩) 57 c] gl off (EB y (s * 128)) M (Det (.bool true) M) := by
  refine ct_ofW (vs := [.slice (some ⟨gl, off, none⟩) 57 c]) Tryd.func4 rfl Tryd.ntmps4 rfl fun w0 hro => ?_
  refine at_seq ?_
  refine at_region ?_
  refine at_d rfl rfl (opr_assign rfl rfl) ?_
  refine at_nil ?_
  refine at_then ?_
  refine at_seq ?_
  refine at_seq ?_
  refine at_region ?_
  refine at_d rfl rfl (opr_move rfl rfl) ?_
  refine at_d rfl rfl (opr_lenS (n := 57) rfl rfl Tryd.underlying38) ?_
  refine at_d rfl rfl (opr_eq' (v' := .bool false) (opr_gtr (a := 57) (b := 2147483647) rfl rfl rfl) rfl) ?_
  refine at_nil ?_
  refine at_then ?_
  refine at_cond_false rfl ?_
  refine at_skip ?_
  refine at_then ?_
  refine at_seq ?_
  refine at_seq ?_
  refine at_region ?_
  refine at_d rfl rfl (opr_move rfl rfl) ?_
  refine at_d rfl rfl (opr_lenS (n := 57) rfl rfl Tryd.underlying38) ?_
  refine at_d rfl rfl (opr_neqF (a := 57) rfl rfl rfl) ?_
  refine at_d rfl rfl (opr_move rfl rfl) ?_
  refine at_d rfl rfl (opr_move rfl rfl) ?_
  refine at_d rfl rfl (opr_indexAddrS (j := 56) (off' := off + 56) rfl rfl rfl Tryd.underlying38 (by decide) size5 rfl) ?_
  refine at_dW hro rfl rfl (opr_loadW (j := 56) rfl rfl Tryd.underlying5 rfl rfl (EB_last _ _)) ?_
  refine at_d rfl rfl (opr_eq' (opr_rem8 (b := 128) rfl rfl rfl (by decide)) (u8_eq' (b := 0) (Nat.mul_mod_left _ _))) ?_
  refine at_d rfl rfl (opr_neqF (a := 0) rfl rfl rfl) ?_
  refine at_d rfl rfl (opr_pickN rfl rfl rfl) ?_
  refine at_d rfl rfl (opr_move rfl rfl) ?_
  refine at_d rfl rfl (opr_move rfl rfl) ?_
  refine at_d rfl rfl (opr_sliceSHi (b := 56) rfl rfl rfl Tryd.underlying38 size5 (by omega) (by omega)) ?_
  refine at_d rfl rfl (opr_arrayAt (n := 56) rfl rfl Tryd.underlying22 (by decide)) ?_
  refine at_dW hro rfl rfl (opr_loadAW (j := 0) rfl rfl Tryd.underlying22 rfl size22 rfl (E_length _) (EB_head _ _)) ?_
  refine at_d rfl rfl (opr_call rfl rfl rfl Tryd.func20 (by kernel_rfl) rfl (of_ct _)) ?_
  refine at_d rfl rfl (opr_call rfl rfl rfl Tryd.func21 (by kernel_rfl) rfl (p_ct)) ?_
  refine at_d rfl rfl (opr_call rfl rfl rfl Tryd.func19 (by kernel_rfl) rfl (lessT_ct hyR RR_pp hy)) ?_
  refine at_d rfl rfl (opr_unOp (u := .bool false) rfl rfl (fun _ => rfl)) ?_
  refine at_d rfl rfl (opr_pickN rfl rfl rfl) ?_
  refine at_nil ?_
  refine at_then ?_
  refine at_cond_false rfl ?_
  refine at_skip ?_
  refine at_then ?_
  refine at_seq ?_
  refine at_region ?_
  refine at_d rfl rfl (opr_move rfl rfl) ?_
  refine at_d rfl rfl (opr_sliceSHi (b := 56) rfl rfl rfl Tryd.underlying38 size5 (by omega) (by omega)) ?_
  refine at_d rfl rfl (opr_arrayAt (n := 56) rfl rfl Tryd.underlying22 (by decide)) ?_
  refine at_dW hro rfl rfl (opr_loadAW (j := 0) rfl rfl Tryd.underlying22 rfl size22 rfl (E_length _) (EB_head _ _)) ?_
  refine at_d rfl rfl (opr_call rfl rfl rfl Tryd.func20 (by kernel_rfl) rfl (of_ct _)) ?_
  refine at_n rfl rfl (opr_alloc rfl zero31 rfl) ?_
  intro g0
  refine at_d rfl rfl (opr_store (i := 0) rfl rfl rfl rfl rfl size31 (N_length _) (by rw [N_length]; decide) (N_flat _) N_over) ?_
  refine at_nil ?_
  refine at_then ?_
  refine at_seq ?_
  refine at_seq ?_
  refine at_region ?_
  refine at_d rfl rfl (opr_load (i := 0) rfl rfl rfl Tryd.underlying31 rfl size31 (N_length _) (N_at _)) ?_
  refine at_d rfl rfl (opr_load (i := 0) rfl rfl rfl Tryd.underlying31 rfl size31 (N_length _) (N_at _)) ?_
  refine at_d rfl rfl (opr_call rfl rfl rfl Tryd.func22 (by kernel_rfl) rfl (sMul_ct hyR hyR)) ?_
  refine at_d rfl rfl (opr_call rfl rfl rfl Tryd.func23 (by kernel_rfl) rfl (small_ct (c := 1) (by decide))) ?_
  refine at_d rfl rfl (opr_eqlNb (t := false) rfl rfl rfl Tryd.underlying31 Tryd.underlying29 size29 (by kernel_rfl) (modp_lt _) (by decide) (decide_eq_false h1)) ?_
  refine at_nil ?_
  refine at_then ?_
  refine at_cond_false rfl ?_
  refine at_skip ?_
  refine at_then ?_
  refine at_seq ?_
  refine at_region ?_
  refine at_d rfl rfl (opr_move rfl rfl) ?_
  refine at_dW hro rfl rfl (opr_callW rfl rfl rfl Tryd.func24 (by kernel_rfl) rfl (sDecodeF_ct hy hs hok)) ?_
  refine at_d rfl rfl (opr_move rfl rfl) ?_
  refine at_d rfl rfl (opr_extract rfl rfl rfl) ?_
  refine at_d rfl rfl (opr_extract rfl rfl rfl) ?_
  refine at_d rfl rfl (opr_extract rfl rfl rfl) ?_
  refine at_n rfl rfl (opr_alloc rfl zero22 rfl) ?_
  intro g1
  refine at_n rfl rfl (opr_alloc rfl zero22 rfl) ?_
  intro g2
  refine at_d rfl rfl (opr_store (i := 1) rfl rfl rfl rfl rfl size22 (E_length _) (by rw [EE_length]; exact Nat.le_of_ble_eq_true rfl) (E_flat _) (EE_set (k := 0) (Nat.le_of_ble_eq_true rfl) rfl)) ?_
  refine at_d rfl rfl (opr_store (i := 0) rfl rfl rfl rfl rfl size22 (E_length _) (by rw [EE_length]; exact Nat.le_of_ble_eq_true rfl) (E_flat _) (EE_set (k := 0) (Nat.le_of_ble_eq_true rfl) rfl)) ?_
  refine at_d rfl rfl (opr_assign rfl rfl) ?_
  refine at_nil ?_
  refine at_then ?_
  refine at_seq ?_
  refine at_region ?_
  refine at_d rfl rfl (opr_move rfl rfl) ?_
  refine at_dW hro rfl rfl (opr_callW rfl rfl rfl Tryd.func25 (by kernel_rfl) rfl (iDecWF_ct (ig := ig + 3) (jd := jd + 3) hG hD hs hy (dec_no hok))) ?_
  refine at_d rfl rfl (opr_move rfl rfl) ?_
  refine at_d rfl rfl (opr_extract rfl rfl rfl) ?_
  refine at_d rfl rfl (opr_extract rfl rfl rfl) ?_
  refine at_n rfl rfl (opr_alloc rfl zero24 rfl) ?_
  intro g3
  refine at_d rfl rfl (opr_store (i := 0) rfl rfl rfl rfl rfl size24 (EE_length _) (by rw [EE_length]; exact Nat.le_of_ble_eq_true rfl) (EE_flat _) (EE_over rfl)) ?_
  refine at_d rfl rfl (opr_assign rfl rfl) ?_
  refine at_nil ?_
  refine at_then ?_
  refine at_seq ?_
  refine at_region ?_
  refine at_d rfl rfl (opr_move rfl rfl) ?_
  refine at_dW hro rfl rfl (opr_callW rfl rfl rfl Tryd.func26 (by kernel_rfl) rfl (iUnmWF_ct (ig := ig + 4) (jd := jd + 4) hG hD hs hy (dec_no hok))) ?_
  refine at_d rfl rfl (opr_move rfl rfl) ?_
  refine at_d rfl rfl (opr_extract rfl rfl rfl) ?_
  refine at_d rfl rfl (opr_extract rfl rfl rfl) ?_
  refine at_n rfl rfl (opr_alloc rfl zero24 rfl) ?_
  intro g4
  refine at_d rfl rfl (opr_store (i := 0) rfl rfl rfl rfl rfl size24 (EE_length _) (by rw [EE_length]; exact Nat.le_of_ble_eq_true rfl) (EE_flat _) (EE_over rfl)) ?_
  refine at_d rfl rfl (opr_assign rfl rfl) ?_
  refine at_nil ?_
  refine at_then ?_
  refine at_seq ?_
  refine at_region ?_
  refine at_d rfl rfl (opr_call rfl rfl rfl Tryd.func27 (by kernel_rfl) rfl (sBase_ct)) ?_
  refine at_c rfl rfl (opr_call rfl rfl rfl Tryd.func28 (by kernel_rfl) rfl (sEncode1_ct gX_RR gY_RR)) ?_
  rintro _ _ ⟨q, rfl, hq1, hq2, hq3, rfl⟩
  refine at_d rfl rfl (opr_call rfl rfl rfl Tryd.func25 (by kernel_rfl) rfl (iDecCT_ct (ig := ig + 6) (jd := jd + 6) (ix := 0) (x := gXn) hG hD rfl hq3 gY_pp gX0 base_on)) ?_
  refine at_d rfl rfl (opr_move rfl rfl) ?_
  refine at_d rfl rfl (opr_extract rfl rfl rfl) ?_
  refine at_d rfl rfl (opr_extract rfl rfl rfl) ?_
  refine at_n rfl rfl (opr_alloc rfl zero24 rfl) ?_
  intro g5
  refine at_d rfl rfl (opr_store (i := 0) rfl rfl rfl rfl rfl size24 (EE_length _) (by rw [EE_length]; exact Nat.le_of_ble_eq_true rfl) (EE_flat _) (EE_over rfl)) ?_
  refine at_d rfl rfl (opr_assign rfl rfl) ?_
  refine at_nil ?_
  refine at_then ?_
  refine at_seq ?_
  refine at_region ?_
  refine at_d rfl rfl (opr_move rfl rfl) ?_
  refine at_d rfl rfl (opr_move rfl rfl) ?_
  refine at_d rfl rfl (opr_move rfl rfl) ?_
  refine at_d rfl rfl (opr_move rfl rfl) ?_
  refine at_d rfl rfl (opr_eqlBb (t := true) rfl rfl rfl Tryd.underlying4 rfl) ?_
  refine at_d rfl rfl (opr_pickT rfl rfl rfl) ?_
  refine at_d rfl rfl (opr_move rfl rfl) ?_
  refine at_d rfl rfl (opr_move rfl rfl) ?_
  refine at_d rfl rfl (opr_move rfl rfl) ?_
  refine at_d rfl rfl (opr_eqlBb (t := true) rfl rfl rfl Tryd.underlying4 rfl) ?_
  refine at_d rfl rfl (opr_pickT rfl rfl rfl) ?_
  refine at_d rfl rfl (opr_move rfl rfl) ?_
  refine at_d rfl rfl (opr_move rfl rfl) ?_
  refine at_d rfl rfl (opr_unOp (u := .bool true) rfl rfl (fun _ => rfl)) ?_
  refine at_d rfl rfl (opr_move rfl rfl) ?_
  refine at_op_skip rfl rfl ?_
  refine at_op_skip rfl rfl ?_
  refine at_op_skip rfl rfl ?_
  refine at_op_skip rfl rfl ?_
  refine at_op_skip rfl rfl ?_
  refine at_op_skip rfl rfl ?_
  refine at_op_skip rfl rfl ?_
  refine at_op_skip rfl rfl ?_
  refine at_op_skip rfl rfl ?_
  refine at_op_skip rfl rfl ?_
  refine at_d rfl rfl (opr_pickT rfl rfl rfl) ?_
  refine at_d rfl rfl (opr_pickT rfl rfl rfl) ?_
  refine at_d rfl rfl (opr_assign rfl rfl) ?_
  refine at_nil ?_
  refine at_then ?_
  refine at_ret ?_
  refine done_of (res1 Tryd.results4 (res_tmp rfl)) ⟨rfl, rfl⟩ (by repeat (first | exact List.Sublist.refl _ | apply List.Sublist.cons))
theorem lawT_ct {M : Mem} {ig Tp jd Td : Nat} (hG : M[ig]? = some ⟨3, Tp, EE [pp]⟩) (hD : M[jd]? = some ⟨0, Td, EE [dP]⟩) {gl off c y x : Nat} (hc57 : 57 ≤ c) (hyR : y < RR) (hy : y < pp) (h1 : ¬ y * y % pp = 1) (hok : dOk y = true) (h0 : ¬ dR y = 0) (hx0 : ¬ x % pp = 0) (hOn : On (el dP) (el x) (el y)) (hs1 : dR y % 2 = x % pp % 2) (hX : x % pp = dR y) : CtW Tryd.prog 4 #[.slice (some ⟨gl, off, none⟩) 57 c] gl off (EB y (x % pp % 2 * 128)) M (Det (.bool true) M) := by
  refine ct_ofW (vs := [.slice (some ⟨gl, off, none⟩) 57 c]) Tryd.func4 rfl Tryd.ntmps4 rfl fun w0 hro => ?_
  refine at_seq ?_
  refine at_region ?_
  refine at_d rfl rfl (opr_assign rfl rfl) ?_
  refine at_nil ?_
  refine at_then ?_
  refine at_seq ?_
  refine at_seq ?_
  refine at_region ?_
  refine at_d rfl rfl (opr_move rfl rfl) ?_
  refine at_d rfl rfl (opr_lenS (n := 57) rfl rfl Tryd.underlying38) ?_
  refine at_d rfl rfl (opr_eq' (v' := .bool false) (opr_gtr (a := 57) (b := 2147483647) rfl rfl rfl) rfl) ?_
  refine at_nil ?_
  refine at_then ?_
  refine at_cond_false rfl ?_
  refine at_skip ?_
  refine at_then ?_
  refine at_seq ?_
  refine at_seq ?_
  refine at_region ?_
  refine at_d rfl rfl (opr_move rfl rfl) ?_
  refine at_d rfl rfl (opr_lenS (n := 57) rfl rfl Tryd.underlying38) ?_
  refine at_d rfl rfl (opr_neqF (a := 57) rfl rfl rfl) ?_
  refine at_d rfl rfl (opr_move rfl rfl) ?_
  refine at_d rfl rfl (opr_move rfl rfl) ?_
  refine at_d rfl rfl (opr_indexAddrS (j := 56) (off' := off + 56) rfl rfl rfl Tryd.underlying38 (by decide) size5 rfl) ?_
  refine at_dW hro rfl rfl (opr_loadW (j := 56) rfl rfl Tryd.underlying5 rfl rfl (EB_last _ _)) ?_
  refine at_d rfl rfl (opr_eq' (opr_rem8 (b := 128) rfl rfl rfl (by decide)) (u8_eq' (b := 0) (Nat.mul_mod_left _ _))) ?_
  refine at_d rfl rfl (opr_neqF (a := 0) rfl rfl rfl) ?_
  refine at_d rfl rfl (opr_pickN rfl rfl rfl) ?_
  refine at_d rfl rfl (opr_move rfl rfl) ?_
  refine at_d rfl rfl (opr_move rfl rfl) ?_
  refine at_d rfl rfl (opr_sliceSHi (b := 56) rfl rfl rfl Tryd.underlying38 size5 (by omega) (by omega)) ?_
  refine at_d rfl rfl (opr_arrayAt (n := 56) rfl rfl Tryd.underlying22 (by decide)) ?_
  refine at_dW hro rfl rfl (opr_loadAW (j := 0) rfl rfl Tryd.underlying22 rfl size22 rfl (E_length _) (EB_head _ _)) ?_
  refine at_d rfl rfl (opr_call rfl rfl rfl Tryd.func20 (by kernel_rfl) rfl (of_ct _)) ?_
  refine at_d rfl rfl (opr_call rfl rfl rfl Tryd.func21 (by kernel_rfl) rfl (p_ct)) ?_
  refine at_d rfl rfl (opr_call rfl rfl rfl Tryd.func19 (by kernel_rfl) rfl (lessT_ct hyR RR_pp hy)) ?_
  refine at_d rfl rfl (opr_unOp (u := .bool false) rfl rfl (fun _ => rfl)) ?_
  refine at_d rfl rfl (opr_pickN rfl rfl rfl) ?_
  refine at_nil ?_
  refine at_then ?_
  refine at_cond_false rfl ?_
  refine at_skip ?_
  refine at_then ?_
  refine at_seq ?_
  refine at_region ?_
  refine at_d rfl rfl (opr_move rfl rfl) ?_
  refine at_d rfl rfl (opr_sliceSHi (b := 56) rfl rfl rfl Tryd.underlying38 size5 (by omega) (by omega)) ?_
  refine at_d rfl rfl (opr_arrayAt (n := 56) rfl rfl Tryd.underlying22 (by decide)) ?_
  refine at_dW hro rfl rfl (opr_loadAW (j := 0) rfl rfl Tryd.underlying22 rfl size22 rfl (E_length _) (EB_head _ _)) ?_
  refine at_d rfl rfl (opr_call rfl rfl rfl Tryd.func20 (by kernel_rfl) rfl (of_ct _)) ?_
  refine at_n rfl rfl (opr_alloc rfl zero31 rfl) ?_
  intro g0
  refine at_d rfl rfl (opr_store (i := 0) rfl rfl rfl rfl rfl size31 (N_length _) (by rw [N_length]; decide) (N_flat _) N_over) ?_
  refine at_nil ?_
  refine at_then ?_
  refine at_seq ?_
  refine at_seq ?_
  refine at_region ?_
  refine at_d rfl rfl (opr_load (i := 0) rfl rfl rfl Tryd.underlying31 rfl size31 (N_length _) (N_at _)) ?_
  refine at_d rfl rfl (opr_load (i := 0) rfl rfl rfl Tryd.underlying31 rfl size31 (N_length _) (N_at _)) ?_
  refine at_d rfl rfl (opr_call rfl rfl rfl Tryd.func22 (by kernel_rfl) rfl (sMul_ct hyR hyR)) ?_
  refine at_d rfl rfl (opr_call rfl rfl rfl Tryd.func23 (by kernel_rfl) rfl (small_ct (c := 1) (by decide))) ?_
  refine at_d rfl rfl (opr_eqlNb (t := false) rfl rfl rfl Tryd.underlying31 Tryd.underlying29 size29 (by kernel_rfl) (modp_lt _) (by decide) (decide_eq_false h1)) ?_
  refine at_nil ?_
  refine at_then ?_
  refine at_cond_false rfl ?_
  refine at_skip ?_
  refine at_then ?_
  refine at_seq ?_
  refine at_region ?_
  refine at_d rfl rfl (opr_move rfl rfl) ?_
  refine at_dW hro rfl rfl (opr_callW rfl rfl rfl Tryd.func24 (by kernel_rfl) rfl (sDecodeT_ct hy (Nat.mod_lt _ (by decide)) hok h0 hs1)) ?_
  refine at_d rfl rfl (opr_move rfl rfl) ?_
  refine at_d rfl rfl (opr_extract rfl rfl rfl) ?_
  refine at_d rfl rfl (opr_extract rfl rfl rfl) ?_
  refine at_d rfl rfl (opr_extract rfl rfl rfl) ?_
  refine at_n rfl rfl (opr_alloc rfl zero22 rfl) ?_
  intro g1
  refine at_n rfl rfl (opr_alloc rfl zero22 rfl) ?_
  intro g2
  refine at_d rfl rfl (opr_store (i := 1) rfl rfl rfl rfl rfl size22 (E_length _) (by rw [EE_length]; exact Nat.le_of_ble_eq_true rfl) (E_flat _) (EE_set (k := 0) (Nat.le_of_ble_eq_true rfl) rfl)) ?_
  refine at_d rfl rfl (opr_store (i := 0) rfl rfl rfl rfl rfl size22 (E_length _) (by rw [EE_length]; exact Nat.le_of_ble_eq_true rfl) (E_flat _) (EE_set (k := 0) (Nat.le_of_ble_eq_true rfl) rfl)) ?_
  refine at_d rfl rfl (opr_assign rfl rfl) ?_
  refine at_nil ?_
  refine at_then ?_
  refine at_seq ?_
  refine at_region ?_
  refine at_d rfl rfl (opr_move rfl rfl) ?_
  refine at_dW hro rfl rfl (opr_callW rfl rfl rfl Tryd.func25 (by kernel_rfl) rfl (iDecWT_ct (ig := ig + 3) (jd := jd + 3) hG hD hy hx0 hOn)) ?_
  refine at_d rfl rfl (opr_move rfl rfl) ?_
  refine at_d rfl rfl (opr_extract rfl rfl rfl) ?_
  refine at_d rfl rfl (opr_extract rfl rfl rfl) ?_
  refine at_n rfl rfl (opr_alloc rfl zero24 rfl) ?_
  intro g3
  refine at_d rfl rfl (opr_store (i := 0) rfl rfl rfl rfl rfl size24 (EE_length _) (by rw [EE_length]; exact Nat.le_of_ble_eq_true rfl) (EE_flat _) (EE_over rfl)) ?_
  refine at_d rfl rfl (opr_assign rfl rfl) ?_
  refine at_nil ?_
  refine at_then ?_
  refine at_seq ?_
  refine at_region ?_
  refine at_d rfl rfl (opr_move rfl rfl) ?_
  refine at_dW hro rfl rfl (opr_callW rfl rfl rfl Tryd.func26 (by kernel_rfl) rfl (iUnmWT_ct (ig := ig + 4) (jd := jd + 4) hG hD hy hx0 hOn)) ?_
  refine at_d rfl rfl (opr_move rfl rfl) ?_
  refine at_d rfl rfl (opr_extract rfl rfl rfl) ?_
  refine at_d rfl rfl (opr_extract rfl rfl rfl) ?_
  refine at_n rfl rfl (opr_alloc rfl zero24 rfl) ?_
  intro g4
  refine at_d rfl rfl (opr_store (i := 0) rfl rfl rfl rfl rfl size24 (EE_length _) (by rw [EE_length]; exact Nat.le_of_ble_eq_true rfl) (EE_flat _) (EE_over rfl)) ?_
  refine at_d rfl rfl (opr_assign rfl rfl) ?_
  refine at_nil ?_
  refine at_then ?_
  refine at_seq ?_
  refine at_region ?_
  refine at_d rfl rfl (opr_call rfl rfl rfl Tryd.func27 (by kernel_rfl) rfl (sBase_ct)) ?_
  refine at_c rfl rfl (opr_call rfl rfl rfl Tryd.func28 (by kernel_rfl) rfl (sEncode1_ct gX_RR gY_RR)) ?_
  rintro _ _ ⟨q, rfl, hq1, hq2, hq3, rfl⟩
  refine at_d rfl rfl (opr_call rfl rfl rfl Tryd.func25 (by kernel_rfl) rfl (iDecCT_ct (ig := ig + 6) (jd := jd + 6) (ix := 0) (x := gXn) hG hD rfl hq3 gY_pp gX0 base_on)) ?_
  refine at_d rfl rfl (opr_move rfl rfl) ?_
  refine at_d rfl rfl (opr_extract rfl rfl rfl) ?_
  refine at_d rfl rfl (opr_extract rfl rfl rfl) ?_
  refine at_n rfl rfl (opr_alloc rfl zero24 rfl) ?_
  intro g5
  refine at_d rfl rfl (opr_store (i := 0) rfl rfl rfl rfl rfl size24 (EE_length _) (by rw [EE_length]; exact Nat.le_of_ble_eq_true rfl) (EE_flat _) (EE_over rfl)) ?_
  refine at_d rfl rfl (opr_assign rfl rfl) ?_
  refine at_nil ?_
  refine at_then ?_
  refine at_seq ?_
  refine at_region ?_
  refine at_d rfl rfl (opr_move rfl rfl) ?_
  refine at_d rfl rfl (opr_move rfl rfl) ?_
  refine at_d rfl rfl (opr_move rfl rfl) ?_
  refine at_d rfl rfl (opr_move rfl rfl) ?_
  refine at_d rfl rfl (opr_eqlBb (t := true) rfl rfl rfl Tryd.underlying4 rfl) ?_
  refine at_d rfl rfl (opr_pickT rfl rfl rfl) ?_
  refine at_d rfl rfl (opr_move rfl rfl) ?_
  refine at_d rfl rfl (opr_move rfl rfl) ?_
  refine at_d rfl rfl (opr_move rfl rfl) ?_
  refine at_d rfl rfl (opr_eqlBb (t := true) rfl rfl rfl Tryd.underlying4 rfl) ?_
  refine at_d rfl rfl (opr_pickT rfl rfl rfl) ?_
  refine at_d rfl rfl (opr_move rfl rfl) ?_
  refine at_d rfl rfl (opr_move rfl rfl) ?_
  refine at_d rfl rfl (opr_unOp (u := .bool false) rfl rfl (fun _ => rfl)) ?_
  refine at_d rfl rfl (opr_move rfl rfl) ?_
  refine at_d rfl rfl (opr_load (i := 3) rfl rfl rfl Tryd.underlying24 rfl size24 (EE_length _) (EE_all rfl)) ?_
  refine at_d rfl rfl (opr_load (i := 5) rfl rfl rfl Tryd.underlying22 rfl size22 (E_length _) (EE_at (k := 0) rfl rfl rfl)) ?_
  refine at_d rfl rfl (opr_load (i := 4) rfl rfl rfl Tryd.underlying22 rfl size22 (E_length _) (EE_at (k := 0) rfl rfl rfl)) ?_
  refine at_d rfl rfl (opr_buildE (ds := EE [(dR y), y]) rfl rfl (builtp24 [(0, (dR y)), (1, y)] rfl) rfl) ?_
  refine at_d rfl rfl (opr_eqlPt (e := 22) rfl rfl rfl Tryd.underlying24 (by kernel_rfl) (by kernel_rfl) Tryd.underlying22 size22 Tryd.underlying5 size5 (by kernel_rfl) (by kernel_rfl) hX rfl) ?_
  refine at_d rfl rfl (opr_move rfl rfl) ?_
  refine at_d rfl rfl (opr_load (i := 2) rfl rfl rfl Tryd.underlying24 rfl size24 (EE_length _) (EE_all rfl)) ?_
  refine at_d rfl rfl (opr_load (i := 3) rfl rfl rfl Tryd.underlying24 rfl size24 (EE_length _) (EE_all rfl)) ?_
  refine at_d rfl rfl (opr_eqlPt (e := 22) rfl rfl rfl Tryd.underlying24 (by kernel_rfl) (by kernel_rfl) Tryd.underlying22 size22 Tryd.underlying5 size5 (by kernel_rfl) (by kernel_rfl) rfl rfl) ?_
  refine at_d rfl rfl (opr_pickT rfl rfl rfl) ?_
  refine at_d rfl rfl (opr_pickN rfl rfl rfl) ?_
  refine at_d rfl rfl (opr_pickT rfl rfl rfl) ?_
  refine at_d rfl rfl (opr_assign rfl rfl) ?_
  refine at_nil ?_
  refine at_then ?_
  refine at_ret ?_
  refine done_of (res1 Tryd.results4 (res_tmp rfl)) ⟨rfl, rfl⟩ (by repeat (first | exact List.Sublist.refl _ | apply List.Sublist.cons))
theorem lawN_ct {M : Mem} {ig Tp jd Td : Nat} (hG : M[ig]? = some ⟨3, Tp, EE [pp]⟩) (hD : M[jd]? = some ⟨0, Td, EE [dP]⟩) {gl off c y x : Nat} (hc57 : 57 ≤ c) (hyR : y < RR) (hy : y < pp) (h1 : ¬ y * y % pp = 1) (hok : dOk y = true) (h0 : ¬ dR y = 0) (hx0 : ¬ x % pp = 0) (hOn : On (el dP) (el x) (el y)) (hs1 : ¬ dR y % 2 = x % pp % 2) (hX : x % pp = negp (dR y)) : CtW Tryd.prog 4 #[.slice (some ⟨gl, off, none⟩) 57 c] gl off (EB y (x % pp % 2 * 128)) M (Det (.bool true) M) := by
  refine ct_ofW (vs := [.slice (some ⟨gl, off, none⟩) 57 c]) Tryd.func4 rfl Tryd.ntmps4 rfl fun w0 hro => ?_
  refine at_seq ?_
  refine at_region ?_
  refine at_d rfl rfl (opr_assign rfl rfl) ?_
  refine at_nil ?_
  refine at_then ?_
  refine at_seq ?_
  refine at_seq ?_
  refine at_region ?_
  refine at_d rfl rfl (opr_move rfl rfl) ?_
  refine at_d rfl rfl (opr_lenS (n := 57) rfl rfl Tryd.underlying38) ?_
  refine at_d rfl rfl (opr_eq' (v' := .bool false) (opr_gtr (a := 57) (b := 2147483647) rfl rfl rfl) rfl) ?_
  refine at_nil ?_
  refine at_then ?_
  refine at_cond_false rfl ?_
  refine at_skip ?_
  refine at_then ?_
  refine at_seq ?_
  refine at_seq ?_
  refine at_region ?_
  refine at_d rfl rfl (opr_move rfl rfl) ?_
  refine at_d rfl rfl (opr_lenS (n := 57) rfl rfl Tryd.underlying38) ?_
  refine at_d rfl rfl (opr_neqF (a := 57) rfl rfl rfl) ?_
  refine at_d rfl rfl (opr_move rfl rfl) ?_
  refine at_d rfl rfl (opr_move rfl rfl) ?_
  refine at_d rfl rfl (opr_indexAddrS (j := 56) (off' := off + 56) rfl rfl rfl Tryd.underlying38 (by decide) size5 rfl) ?_
  refine at_dW hro rfl rfl (opr_loadW (j := 56) rfl rfl Tryd.underlying5 rfl rfl (EB_last _ _)) ?_
  refine at_d rfl rfl (opr_eq' (opr_rem8 (b := 128) rfl rfl rfl (by decide)) (u8_eq' (b := 0) (Nat.mul_mod_left _ _))) ?_
  refine at_d rfl rfl (opr_neqF (a := 0) rfl rfl rfl) ?_
  refine at_d rfl rfl (opr_pickN rfl rfl rfl) ?_
  refine at_d rfl rfl (opr_move rfl rfl) ?_
  refine at_d rfl rfl (opr_move rfl rfl) ?_
  refine at_d rfl rfl (opr_sliceSHi (b := 56) rfl rfl rfl Tryd.underlying38 size5 (by omega) (by omega)) ?_
  refine at_d rfl rfl (opr_arrayAt (n := 56) rfl rfl Tryd.underlying22 (by decide)) ?_
  refine at_dW hro rfl rfl (opr_loadAW (j := 0) rfl rfl Tryd.underlying22 rfl size22 rfl (E_length _) (EB_head _ _)) ?_
  refine at_d rfl rfl (opr_call rfl rfl rfl Tryd.func20 (by kernel_rfl) rfl (of_ct _)) ?_
  refine at_d rfl rfl (opr_call rfl rfl rfl Tryd.func21 (by kernel_rfl) rfl (p_ct)) ?_
  refine at_d rfl rfl (opr_call rfl rfl rfl Tryd.func19 (by kernel_rfl) rfl (lessT_ct hyR RR_pp hy)) ?_
  refine at_d rfl rfl (opr_unOp (u := .bool false) rfl rfl (fun _ => rfl)) ?_
  refine at_d rfl rfl (opr_pickN rfl rfl rfl) ?_
  refine at_nil ?_
  refine at_then ?_
  refine at_cond_false rfl ?_
  refine at_skip ?_
  refine at_then ?_
  refine at_seq ?_
  refine at_region ?_
  refine at_d rfl rfl (opr_move rfl rfl) ?_
  refine at_d rfl rfl (opr_sliceSHi (b := 56) rfl rfl rfl Tryd.underlying38 size5 (by omega) (by omega)) ?_
  refine at_d rfl rfl (opr_arrayAt (n := 56) rfl rfl Tryd.underlying22 (by decide)) ?_
  refine at_dW hro rfl rfl (opr_loadAW (j := 0) rfl rfl Tryd.underlying22 rfl size22 rfl (E_length _) (EB_head _ _)) ?_
  refine at_d rfl rfl (opr_call rfl rfl rfl Tryd.func20 (by kernel_rfl) rfl (of_ct _)) ?_
  refine at_n rfl rfl (opr_alloc rfl zero31 rfl) ?_
  intro g0
  refine at_d rfl rfl (opr_store (i := 0) rfl rfl rfl rfl rfl size31 (N_length _) (by rw [N_length]; decide) (N_flat _) N_over) ?_
  refine at_nil ?_
  refine at_then ?_
  refine at_seq ?_
  refine at_seq ?_
  refine at_region ?_
  refine at_d rfl rfl (opr_load (i := 0) rfl rfl rfl Tryd.underlying31 rfl size31 (N_length _) (N_at _)) ?_
  refine at_d rfl rfl (opr_load (i := 0) rfl rfl rfl Tryd.underlying31 rfl size31 (N_length _) (N_at _)) ?_
  refine at_d rfl rfl (opr_call rfl rfl rfl Tryd.func22 (by kernel_rfl) rfl (sMul_ct hyR hyR)) ?_
  refine at_d rfl rfl (opr_call rfl rfl rfl Tryd.func23 (by kernel_rfl) rfl (small_ct (c := 1) (by decide))) ?_
  refine at_d rfl rfl (opr_eqlNb (t := false) rfl rfl rfl Tryd.underlying31 Tryd.underlying29 size29 (by kernel_rfl) (modp_lt _) (by decide) (decide_eq_false h1)) ?_
  refine at_nil ?_
  refine at_then ?_
  refine at_cond_false rfl ?_
  refine at_skip ?_
  refine at_then ?_
  refine at_seq ?_
  refine at_region ?_
  refine at_d rfl rfl (opr_move rfl rfl) ?_
  refine at_dW hro rfl rfl (opr_callW rfl rfl rfl Tryd.func24 (by kernel_rfl) rfl (sDecodeN_ct hy (Nat.mod_lt _ (by decide)) hok h0 hs1)) ?_
  refine at_d rfl rfl (opr_move rfl rfl) ?_
  refine at_d rfl rfl (opr_extract rfl rfl rfl) ?_
  refine at_d rfl rfl (opr_extract rfl rfl rfl) ?_
  refine at_d rfl rfl (opr_extract rfl rfl rfl) ?_
  refine at_n rfl rfl (opr_alloc rfl zero22 rfl) ?_
  intro g1
  refine at_n rfl rfl (opr_alloc rfl zero22 rfl) ?_
  intro g2
  refine at_d rfl rfl (opr_store (i := 1) rfl rfl rfl rfl rfl size22 (E_length _) (by rw [EE_length]; exact Nat.le_of_ble_eq_true rfl) (E_flat _) (EE_set (k := 0) (Nat.le_of_ble_eq_true rfl) rfl)) ?_
  refine at_d rfl rfl (opr_store (i := 0) rfl rfl rfl rfl rfl size22 (E_length _) (by rw [EE_length]; exact Nat.le_of_ble_eq_true rfl) (E_flat _) (EE_set (k := 0) (Nat.le_of_ble_eq_true rfl) rfl)) ?_
  refine at_d rfl rfl (opr_assign rfl rfl) ?_
  refine at_nil ?_
  refine at_then ?_
  refine at_seq ?_
  refine at_region ?_
  refine at_d rfl rfl (opr_move rfl rfl) ?_
  refine at_dW hro rfl rfl (opr_callW rfl rfl rfl Tryd.func25 (by kernel_rfl) rfl (iDecWT_ct (ig := ig + 3) (jd := jd + 3) hG hD hy hx0 hOn)) ?_
  refine at_d rfl rfl (opr_move rfl rfl) ?_
  refine at_d rfl rfl (opr_extract rfl rfl rfl) ?_
  refine at_d rfl rfl (opr_extract rfl rfl rfl) ?_
  refine at_n rfl rfl (opr_alloc rfl zero24 rfl) ?_
  intro g3
  refine at_d rfl rfl (opr_store (i := 0) rfl rfl rfl rfl rfl size24 (EE_length _) (by rw [EE_length]; exact Nat.le_of_ble_eq_true rfl) (EE_flat _) (EE_over rfl)) ?_
  refine at_d rfl rfl (opr_assign rfl rfl) ?_
  refine at_nil ?_
  refine at_then ?_
  refine at_seq ?_
  refine at_region ?_
  refine at_d rfl rfl (opr_move rfl rfl) ?_
  refine at_dW hro rfl rfl (opr_callW rfl rfl rfl Tryd.func26 (by kernel_rfl) rfl (iUnmWT_ct (ig := ig + 4) (jd := jd + 4) hG hD hy hx0 hOn)) ?_
  refine at_d rfl rfl (opr_move rfl rfl) ?_
  refine at_d rfl rfl (opr_extract rfl rfl rfl) ?_
  refine at_d rfl rfl (opr_extract rfl rfl rfl) ?_
  refine at_n rfl rfl (opr_alloc rfl zero24 rfl) ?_
  intro g4
  refine at_d rfl rfl (opr_store (i := 0) rfl rfl rfl rfl rfl size24 (EE_length _) (by rw [EE_length]; exact Nat.le_of_ble_eq_true rfl) (EE_flat _) (EE_over rfl)) ?_
  refine at_d rfl rfl (opr_assign rfl rfl) ?_
  refine at_nil ?_
  refine at_then ?_
  refine at_seq ?_
  refine at_region ?_
  refine at_d rfl rfl (opr_call rfl rfl rfl Tryd.func27 (by kernel_rfl) rfl (sBase_ct)) ?_
  refine at_c rfl rfl (opr_call rfl rfl rfl Tryd.func28 (by kernel_rfl) rfl (sEncode1_ct gX_RR gY_RR)) ?_
  rintro _ _ ⟨q, rfl, hq1, hq2, hq3, rfl⟩
  refine at_d rfl rfl (opr_call rfl rfl rfl Tryd.func25 (by kernel_rfl) rfl (iDecCT_ct (ig := ig + 6) (jd := jd + 6) (ix := 0) (x := gXn) hG hD rfl hq3 gY_pp gX0 base_on)) ?_
  refine at_d rfl rfl (opr_move rfl rfl) ?_
  refine at_d rfl rfl (opr_extract rfl rfl rfl) ?_
  refine at_d rfl rfl (opr_extract rfl rfl rfl) ?_
  refine at_n rfl rfl (opr_alloc rfl zero24 rfl) ?_
  intro g5
  refine at_d rfl rfl (opr_store (i := 0) rfl rfl rfl rfl rfl size24 (EE_length _) (by rw [EE_length]; exact Nat.le_of_ble_eq_true rfl) (EE_flat _) (EE_over rfl)) ?_
  refine at_d rfl rfl (opr_assign rfl rfl) ?_
  refine at_nil ?_
  refine at_then ?_
  refine at_seq ?_
  refine at_region ?_
  refine at_d rfl rfl (opr_move rfl rfl) ?_
  refine at_d rfl rfl (opr_move rfl rfl) ?_
  refine at_d rfl rfl (opr_move rfl rfl) ?_
  refine at_d rfl rfl (opr_move rfl rfl) ?_
  refine at_d rfl rfl (opr_eqlBb (t := true) rfl rfl rfl Tryd.underlying4 rfl) ?_
  refine at_d rfl rfl (opr_pickT rfl rfl rfl) ?_
  refine at_d rfl rfl (opr_move rfl rfl) ?_
  refine at_d rfl rfl (opr_move rfl rfl) ?_
  refine at_d rfl rfl (opr_move rfl rfl) ?_
  refine at_d rfl rfl (opr_eqlBb (t := true) rfl rfl rfl Tryd.underlying4 rfl) ?_
  refine at_d rfl rfl (opr_pickT rfl rfl rfl) ?_
  refine at_d rfl rfl (opr_move rfl rfl) ?_
  refine at_d rfl rfl (opr_move rfl rfl) ?_
  refine at_d rfl rfl (opr_unOp (u := .bool false) rfl rfl (fun _ => rfl)) ?_
  refine at_d rfl rfl (opr_move rfl rfl) ?_
  refine at_d rfl rfl (opr_load (i := 3) rfl rfl rfl Tryd.underlying24 rfl size24 (EE_length _) (EE_all rfl)) ?_
  refine at_d rfl rfl (opr_load (i := 5) rfl rfl rfl Tryd.underlying22 rfl size22 (E_length _) (EE_at (k := 0) rfl rfl rfl)) ?_
  refine at_d rfl rfl (opr_load (i := 4) rfl rfl rfl Tryd.underlying22 rfl size22 (E_length _) (EE_at (k := 0) rfl rfl rfl)) ?_
  refine at_d rfl rfl (opr_buildE (ds := EE [(negp (dR y)), y]) rfl rfl (builtp24 [(0, (negp (dR y))), (1, y)] rfl) rfl) ?_
  refine at_d rfl rfl (opr_eqlPt (e := 22) rfl rfl rfl Tryd.underlying24 (by kernel_rfl) (by kernel_rfl) Tryd.underlying22 size22 Tryd.underlying5 size5 (by kernel_rfl) (by kernel_rfl) hX rfl) ?_
  refine at_d rfl rfl (opr_move rfl rfl) ?_
  refine at_d rfl rfl (opr_load (i := 2) rfl rfl rfl Tryd.underlying24 rfl size24 (EE_length _) (EE_all rfl)) ?_
  refine at_d rfl rfl (opr_load (i := 3) rfl rfl rfl Tryd.underlying24 rfl size24 (EE_length _) (EE_all rfl)) ?_
  refine at_d rfl rfl (opr_eqlPt (e := 22) rfl rfl rfl Tryd.underlying24 (by kernel_rfl) (by kernel_rfl) Tryd.underlying22 size22 Tryd.underlying5 size5 (by kernel_rfl) (by kernel_rfl) rfl rfl) ?_
  refine at_d rfl rfl (opr_pickT rfl rfl rfl) ?_
  refine at_d rfl rfl (opr_pickN rfl rfl rfl) ?_
  refine at_d rfl rfl (opr_pickT rfl rfl rfl) ?_
  refine at_d rfl rfl (opr_assign rfl rfl) ?_
  refine at_nil ?_
  refine at_then ?_
  refine at_ret ?_
  refine done_of (res1 Tryd.results4 (res_tmp rfl)) ⟨rfl, rfl⟩ (by repeat (first | exact List.Sublist.refl _ | apply List.Sublist.cons))
theorem law57_ct {M : Mem} {ig Tp jd Td : Nat} (hG : M[ig]? = some ⟨3, Tp, EE [pp]⟩) (hD : M[jd]? = some ⟨0, Td, EE [dP]⟩) {gl off c : Nat} {xs : List Value} {y t : Nat} (hc57 : 57 ≤ c) (hyR : y < RR) (ht : t < 256) (he : xs = EB y t) : CtW Tryd.prog 4 #[.slice (some ⟨gl, off, none⟩) 57 c] gl off xs M (Det (.bool true) M) := by
  subst he
  by_cases h128 : t % 128 = 0
  · obtain ⟨s, rfl⟩ : ∃ s, t = s * 128 := ⟨t / 128, by omega⟩
    have hs : s < 2 := by omega
    by_cases hy : y < pp
    · by_cases h1 : y * y % pp = 1
      · exact lawD_ct hG hD hc57 hyR hs hy h1
      · cases hok : dOk y with
        | false => exact lawF_ct hG hD hc57 hyR hs hy h1 hok
        | true =>
          have hy1 : ¬ el y * el y = 1 := fun h => h1 (by
            rw [← el_mul, ← el_one, el_eq] at h
            exact h.trans (by decide +kernel))
          obtain ⟨x, hx, hx0, hxs, hOn, hT, hN, h0⟩ := dec_yes hok hs hy1
          have hxm : x % pp = x := Nat.mod_eq_of_lt hx
          have hxs' : x % pp % 2 = s := by rw [hxm]; exact hxs
          rw [← hxs']
          by_cases hp : dR y % 2 = s
          · exact lawT_ct hG hD hc57 hyR hy h1 hok h0 (by rw [hxm]; exact hx0) hOn (by rw [hxs']; exact hp) (by rw [hxm]; exact hT hp)
          · exact lawN_ct hG hD hc57 hyR hy h1 hok h0 (by rw [hxm]; exact hx0) hOn (by rw [hxs']; exact hp) (by rw [hxm]; exact hN hp)
    · exact lawC_ct hG hD hc57 hyR hs hy
  · exact lawB_ct hG hD hc57 hyR h128
end Go.Proofs.YtjanppnnioeifaaDoor
