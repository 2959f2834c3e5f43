/- Words made shorter; words from and to bytes. -/
import Derived.Test.YtjlhhcdefcofkaaGreatDoorScalA
namespace Go.Proofs.YtjlhhcdefcofkaaGreatDoor
open Go
set_option maxRecDepth 100000
theorem size44 : (Tryz.prog.info? 44).map (·.size) = some 56 := by kernel_rfl
theorem zero44 : (Tryz.prog.info? 44).bind (·.zero) = some (.agg (EE [0]).toArray) := by kernel_rfl
theorem zero117 : (Tryz.prog.info? 117).bind (·.zero) = some (.agg (W (List.replicate 7 0)).toArray) := by kernel_rfl
theorem w256 (a n : Nat) : a / 256 ^ (8 * n) % 18446744073709551616 = a / 18446744073709551616 ^ n % 18446744073709551616 := by rw [Nat.pow_mul]
def putE (Z b n : Nat) : List Value := (E Z).take (8 * n) ++ (E b).drop (8 * n)
theorem putE_zero (Z b : Nat) : EE [b] = putE Z b 0 := by rw [EE_one, putE]; rfl
theorem putE_length (Z b n : Nat) (hn : n ≤ 7) : (putE Z b n).length = 56 := by simp [putE, E_length]; omega
theorem putE_end (Z b : Nat) : putE Z b 7 = EE [Z] := by
  rw [putE, EE_one, List.take_of_length_le (by rw [E_length]; decide), List.drop_of_length_le (by rw [E_length]; decide), List.append_nil]
theorem splice_mid {A B V : List Value} {m : Nat} (hp : A.length = m) (hv : V.length = 8) : splice (A ++ B) m V = A ++ V ++ B.drop 8 := by
  subst hp
  rw [splice, hv, List.take_left, List.drop_append, List.drop_of_length_le (by omega), List.nil_append, Nat.add_sub_cancel_left]
theorem putE_step (Z b n : Nat) (hn : n < 7) : splice (putE Z b n) (8 * n) (B8 (Z / 18446744073709551616 ^ n % 18446744073709551616)) = putE Z b (n + 1) := by
  have hw : B8 (Z / 18446744073709551616 ^ n % 18446744073709551616) = ((E Z).drop (8 * n)).take 8 := by
    rw [E_word Z n hn, B8_mod, Nat.pow_mul]
  have ht : ((E Z).take (8 * n)).length = 8 * n := by simp [E_length]; omega
  have hl : (((E Z).drop (8 * n)).take 8).length = 8 := by simp [E_length]; omega
  have e1 : (E Z).take (8 * n) ++ ((E Z).drop (8 * n)).take 8 = (E Z).take (8 * (n + 1)) := by
    rw [show 8 * (n + 1) = 8 * n + 8 by omega, List.take_add]
  rw [hw, putE, splice_mid ht hl, e1, List.drop_drop, putE]
  congr 2
theorem putW_ct {M : Mem} {i g T Z b n off c : Nat} (hb : M[i]? = some ⟨g, T, putE Z b n⟩) (hn : n < 7) (ho : 8 * n = off) : Ct Tryz.prog 95 #[.agg #[], .slice (some ⟨g, off, none⟩) 8 c, .int .u64 ((Z / 18446744073709551616 ^ n % 18446744073709551616 : Nat) : Int)] M (Det (.tuple #[]) (M.set i ⟨g, T, putE Z b (n + 1)⟩)) := by
  subst ho
  refine (putUint64_ct hb (by rw [putE_length _ _ _ (by omega)]; omega) (Nat.mod_lt _ (by decide)) (by decide)).mono ?_
  rintro _ _ ⟨rfl, rfl⟩
  exact ⟨rfl, by rw [putE_step _ _ _ hn]⟩
theorem idxc {M : Mem} {a : Nat} {b : Blk} {idx : List Nat} {L : Mem} (h : M[a]? = some b) (hr : ∀ k j : Nat, idx[k]? = some j → M[j]? = L[k]?) : ∀ k j : Nat, (a :: idx)[k]? = some j → M[j]? = (b :: L)[k]? := fun k j hk => by
  match k with
  | 0 => simp only [List.getElem?_cons_zero, Option.some.injEq] at hk; subst hk; simpa using h
  | k + 1 => simp only [List.getElem?_cons_succ] at hk ⊢; exact hr k j hk
theorem res_get : ∀ k, k < 4 → (digs 18446744073709551616 4 r448)[k]? = some (r448 / 18446744073709551616 ^ k % 18446744073709551616) := fun k hk => digs_get 4 r448 k hk
theorem res_hi {x : Nat} (h : x < 18446744073709551616 ^ 4) : ∀ k, 4 ≤ k → k < 7 → x / 18446744073709551616 ^ k % 18446744073709551616 = 0 := fun k hk _ => by
  rw [Nat.div_eq_of_lt (Nat.lt_of_lt_of_le h (Nat.pow_le_pow_right (by decide) hk)), Nat.zero_mod]
theorem cadd_RR {X Y : Nat} (hX : X < RR) (hY : Y < RR) : cadd X Y 7 = (X + Y) / RR := by
  unfold cadd; rw [← RR_B, Nat.mod_eq_of_lt hX, Nat.mod_eq_of_lt hY]
theorem r448x_lt {x : Nat} (hx : x < 18446744073709551616) : r448 * x < RR := Nat.lt_of_lt_of_le (Nat.mul_lt_mul_of_lt_of_le r448_lt (Nat.le_of_lt hx) (by omega)) (by decide +kernel)
theorem rone_digs {Z x : Nat} (hZ : Z < RR) (hx : x < 18446744073709551616) : digs 18446744073709551616 7 ((Z + r448 * x) + r448 * cadd Z (r448 * x) 7) = digs 18446744073709551616 7 (rone Z x) := by
  rw [cadd_RR hZ (r448x_lt hx), ← digs_RR, ← digs_RR (Z := rone Z x), rone, Nat.mod_add_mod]
theorem bor_lt {Z : Nat} (hZ : Z < RR) (h : Z < qq) : cadd (dsub Z qq) qq 7 = 1 := by rw [csub_end hZ qq_RR, if_pos h]
theorem bor_ge {Z : Nat} (hZ : Z < RR) (h : qq ≤ Z) : cadd (dsub Z qq) qq 7 = 0 := by rw [csub_end hZ qq_RR, if_neg (by omega)]
theorem redk_s1 {Z k : Nat} (h : redk Z k < qq) : redk Z (k + 1) = redk Z k := by rw [redk, if_pos h]
theorem redk_s2 {Z k : Nat} (h : qq ≤ redk Z k) : redk Z (k + 1) = redk Z k - qq := by rw [redk, if_neg (by omega)]
theorem fromS_ct {M : Mem} {gz gx Tz Tx a : Nat} {lz : List Nat} (hlz : lz.length = 7) : Ct Tryz.prog 68 #[.pointer (some ⟨gz, 0, none⟩), .pointer (some ⟨gx, 0, none⟩)] (⟨gz, Tz, W lz⟩ :: ⟨gx, Tx, EE [a]⟩ :: M) (Det (.tuple #[]) (⟨gz, Tz, W (digs 18446744073709551616 7 a)⟩ :: ⟨gx, Tx, EE [a]⟩ :: M)) := by
  rw [show W lz = W (mixl (digs 18446744073709551616 7 a) lz 0) from by rw [mixl_zero]]
  refine ct_of (vs := [.pointer (some ⟨gz, 0, none⟩), .pointer (some ⟨gx, 0, none⟩)]) Tryz.func68 rfl Tryz.ntmps68 rfl fun w0 => ?_
  refine at_seq ?_
  refine at_draw (by kernel_rfl) (by kernel_rfl) (by kernel_rfl) (List.cons_ne_nil _ _) ?_
  refine dr_op rfl rfl (opr_move rfl rfl) ?_
  refine dr_op rfl rfl (opr_load0 rfl rfl Tryz.underlying131 rfl size131) ?_
  refine dr_op rfl rfl (opr_move rfl rfl) ?_
  refine dr_op rfl rfl (opr_nilCheck rfl rfl) ?_
  refine dr_op rfl rfl (opr_slice (a := 0) (b := 8) rfl rfl rfl rfl Tryz.underlying44 (by decide) (by decide) (by decide) size5 rfl) ?_
  refine dr_op rfl rfl (opr_eq' (opr_call rfl rfl rfl Tryz.func90 (by kernel_rfl) rfl (uint64_ct (i := 1) (x := a / 256 ^ (8 * 0)) rfl (EE_word (k := 0) rfl (i := 0) (by decide) rfl) (by decide))) (u64_eq' (w256 a 0))) ?_
  refine dr_op rfl rfl (opr_nilCheck rfl rfl) ?_
  refine dr_op rfl rfl (opr_indexAddr (j := 0) rfl rfl rfl Tryz.underlying117 (by decide) size29 rfl) ?_
  refine dr_last rfl rfl (opr_store (i := 0) rfl rfl rfl rfl rfl size29 rfl (by rw [W_length, mixl_length (digs_length 18446744073709551616 7 _) hlz (by decide)]; decide) flat_one (W_put (by rw [mixl_length (digs_length 18446744073709551616 7 _) hlz (by decide)]; decide) (mixl_put (digs_length 18446744073709551616 7 _) hlz (by decide) (digs_get 7 a 0 (by decide))))) ?_
  refine at_then ?_
  refine at_seq ?_
  refine at_draw (by kernel_rfl) (by kernel_rfl) (by kernel_rfl) (List.cons_ne_nil _ _) ?_
  refine dr_op rfl rfl (opr_move rfl rfl) ?_
  refine dr_op rfl rfl (opr_load0 rfl rfl Tryz.underlying131 rfl size131) ?_
  refine dr_op rfl rfl (opr_move rfl rfl) ?_
  refine dr_op rfl rfl (opr_nilCheck rfl rfl) ?_
  refine dr_op rfl rfl (opr_slice (a := 8) (b := 16) rfl rfl rfl rfl Tryz.underlying44 (by decide) (by decide) (by decide) size5 rfl) ?_
  refine dr_op rfl rfl (opr_eq' (opr_call rfl rfl rfl Tryz.func90 (by kernel_rfl) rfl (uint64_ct (i := 1) (x := a / 256 ^ (8 * 1)) rfl (EE_word (k := 0) rfl (i := 1) (by decide) rfl) (by decide))) (u64_eq' (w256 a 1))) ?_
  refine dr_op rfl rfl (opr_nilCheck rfl rfl) ?_
  refine dr_op rfl rfl (opr_indexAddr (j := 1) rfl rfl rfl Tryz.underlying117 (by decide) size29 rfl) ?_
  refine dr_last rfl rfl (opr_store (i := 0) rfl rfl rfl rfl rfl size29 rfl (by rw [W_length, mixl_length (digs_length 18446744073709551616 7 _) hlz (by decide)]; decide) flat_one (W_put (by rw [mixl_length (digs_length 18446744073709551616 7 _) hlz (by decide)]; decide) (mixl_put (digs_length 18446744073709551616 7 _) hlz (by decide) (digs_get 7 a 1 (by decide))))) ?_
  refine at_then ?_
  refine at_seq ?_
  refine at_draw (by kernel_rfl) (by kernel_rfl) (by kernel_rfl) (List.cons_ne_nil _ _) ?_
  refine dr_op rfl rfl (opr_move rfl rfl) ?_
  refine dr_op rfl rfl (opr_load0 rfl rfl Tryz.underlying131 rfl size131) ?_
  refine dr_op rfl rfl (opr_move rfl rfl) ?_
  refine dr_op rfl rfl (opr_nilCheck rfl rfl) ?_
  refine dr_op rfl rfl (opr_slice (a := 16) (b := 24) rfl rfl rfl rfl Tryz.underlying44 (by decide) (by decide) (by decide) size5 rfl) ?_
  refine dr_op rfl rfl (opr_eq' (opr_call rfl rfl rfl Tryz.func90 (by kernel_rfl) rfl (uint64_ct (i := 1) (x := a / 256 ^ (8 * 2)) rfl (EE_word (k := 0) rfl (i := 2) (by decide) rfl) (by decide))) (u64_eq' (w256 a 2))) ?_
  refine dr_op rfl rfl (opr_nilCheck rfl rfl) ?_
  refine dr_op rfl rfl (opr_indexAddr (j := 2) rfl rfl rfl Tryz.underlying117 (by decide) size29 rfl) ?_
  refine dr_last rfl rfl (opr_store (i := 0) rfl rfl rfl rfl rfl size29 rfl (by rw [W_length, mixl_length (digs_length 18446744073709551616 7 _) hlz (by decide)]; decide) flat_one (W_put (by rw [mixl_length (digs_length 18446744073709551616 7 _) hlz (by decide)]; decide) (mixl_put (digs_length 18446744073709551616 7 _) hlz (by decide) (digs_get 7 a 2 (by decide))))) ?_
  refine at_then ?_
  refine at_seq ?_
  refine at_draw (by kernel_rfl) (by kernel_rfl) (by kernel_rfl) (List.cons_ne_nil _ _) ?_
  refine dr_op rfl rfl (opr_move rfl rfl) ?_
  refine dr_op rfl rfl (opr_load0 rfl rfl Tryz.underlying131 rfl size131) ?_
  refine dr_op rfl rfl (opr_move rfl rfl) ?_
  refine dr_op rfl rfl (opr_nilCheck rfl rfl) ?_
  refine dr_op rfl rfl (opr_slice (a := 24) (b := 32) rfl rfl rfl rfl Tryz.underlying44 (by decide) (by decide) (by decide) size5 rfl) ?_
  refine dr_op rfl rfl (opr_eq' (opr_call rfl rfl rfl Tryz.func90 (by kernel_rfl) rfl (uint64_ct (i := 1) (x := a / 256 ^ (8 * 3)) rfl (EE_word (k := 0) rfl (i := 3) (by decide) rfl) (by decide))) (u64_eq' (w256 a 3))) ?_
  refine dr_op rfl rfl (opr_nilCheck rfl rfl) ?_
  refine dr_op rfl rfl (opr_indexAddr (j := 3) rfl rfl rfl Tryz.underlying117 (by decide) size29 rfl) ?_
  refine dr_last rfl rfl (opr_store (i := 0) rfl rfl rfl rfl rfl size29 rfl (by rw [W_length, mixl_length (digs_length 18446744073709551616 7 _) hlz (by decide)]; decide) flat_one (W_put (by rw [mixl_length (digs_length 18446744073709551616 7 _) hlz (by decide)]; decide) (mixl_put (digs_length 18446744073709551616 7 _) hlz (by decide) (digs_get 7 a 3 (by decide))))) ?_
  refine at_then ?_
  refine at_seq ?_
  refine at_draw (by kernel_rfl) (by kernel_rfl) (by kernel_rfl) (List.cons_ne_nil _ _) ?_
  refine dr_op rfl rfl (opr_move rfl rfl) ?_
  refine dr_op rfl rfl (opr_load0 rfl rfl Tryz.underlying131 rfl size131) ?_
  refine dr_op rfl rfl (opr_move rfl rfl) ?_
  refine dr_op rfl rfl (opr_nilCheck rfl rfl) ?_
  refine dr_op rfl rfl (opr_slice (a := 32) (b := 40) rfl rfl rfl rfl Tryz.underlying44 (by decide) (by decide) (by decide) size5 rfl) ?_
  refine dr_op rfl rfl (opr_eq' (opr_call rfl rfl rfl Tryz.func90 (by kernel_rfl) rfl (uint64_ct (i := 1) (x := a / 256 ^ (8 * 4)) rfl (EE_word (k := 0) rfl (i := 4) (by decide) rfl) (by decide))) (u64_eq' (w256 a 4))) ?_
  refine dr_op rfl rfl (opr_nilCheck rfl rfl) ?_
  refine dr_op rfl rfl (opr_indexAddr (j := 4) rfl rfl rfl Tryz.underlying117 (by decide) size29 rfl) ?_
  refine dr_last rfl rfl (opr_store (i := 0) rfl rfl rfl rfl rfl size29 rfl (by rw [W_length, mixl_length (digs_length 18446744073709551616 7 _) hlz (by decide)]; decide) flat_one (W_put (by rw [mixl_length (digs_length 18446744073709551616 7 _) hlz (by decide)]; decide) (mixl_put (digs_length 18446744073709551616 7 _) hlz (by decide) (digs_get 7 a 4 (by decide))))) ?_
  refine at_then ?_
  refine at_seq ?_
  refine at_draw (by kernel_rfl) (by kernel_rfl) (by kernel_rfl) (List.cons_ne_nil _ _) ?_
  refine dr_op rfl rfl (opr_move rfl rfl) ?_
  refine dr_op rfl rfl (opr_load0 rfl rfl Tryz.underlying131 rfl size131) ?_
  refine dr_op rfl rfl (opr_move rfl rfl) ?_
  refine dr_op rfl rfl (opr_nilCheck rfl rfl) ?_
  refine dr_op rfl rfl (opr_slice (a := 40) (b := 48) rfl rfl rfl rfl Tryz.underlying44 (by decide) (by decide) (by decide) size5 rfl) ?_
  refine dr_op rfl rfl (opr_eq' (opr_call rfl rfl rfl Tryz.func90 (by kernel_rfl) rfl (uint64_ct (i := 1) (x := a / 256 ^ (8 * 5)) rfl (EE_word (k := 0) rfl (i := 5) (by decide) rfl) (by decide))) (u64_eq' (w256 a 5))) ?_
  refine dr_op rfl rfl (opr_nilCheck rfl rfl) ?_
  refine dr_op rfl rfl (opr_indexAddr (j := 5) rfl rfl rfl Tryz.underlying117 (by decide) size29 rfl) ?_
  refine dr_last rfl rfl (opr_store (i := 0) rfl rfl rfl rfl rfl size29 rfl (by rw [W_length, mixl_length (digs_length 18446744073709551616 7 _) hlz (by decide)]; decide) flat_one (W_put (by rw [mixl_length (digs_length 18446744073709551616 7 _) hlz (by decide)]; decide) (mixl_put (digs_length 18446744073709551616 7 _) hlz (by decide) (digs_get 7 a 5 (by decide))))) ?_
  refine at_then ?_
  refine at_draw (by kernel_rfl) (by kernel_rfl) (by kernel_rfl) (List.cons_ne_nil _ _) ?_
  refine dr_op rfl rfl (opr_move rfl rfl) ?_
  refine dr_op rfl rfl (opr_load0 rfl rfl Tryz.underlying131 rfl size131) ?_
  refine dr_op rfl rfl (opr_move rfl rfl) ?_
  refine dr_op rfl rfl (opr_nilCheck rfl rfl) ?_
  refine dr_op rfl rfl (opr_slice (a := 48) (b := 56) rfl rfl rfl rfl Tryz.underlying44 (by decide) (by decide) (by decide) size5 rfl) ?_
  refine dr_op rfl rfl (opr_eq' (opr_call rfl rfl rfl Tryz.func90 (by kernel_rfl) rfl (uint64_ct (i := 1) (x := a / 256 ^ (8 * 6)) rfl (EE_word (k := 0) rfl (i := 6) (by decide) rfl) (by decide))) (u64_eq' (w256 a 6))) ?_
  refine dr_op rfl rfl (opr_nilCheck rfl rfl) ?_
  refine dr_op rfl rfl (opr_indexAddr (j := 6) rfl rfl rfl Tryz.underlying117 (by decide) size29 rfl) ?_
  refine dr_last rfl rfl (opr_store (i := 0) rfl rfl rfl rfl rfl size29 rfl (by rw [W_length, mixl_length (digs_length 18446744073709551616 7 _) hlz (by decide)]; decide) flat_one (W_put (by rw [mixl_length (digs_length 18446744073709551616 7 _) hlz (by decide)]; decide) (mixl_put (digs_length 18446744073709551616 7 _) hlz (by decide) (digs_get 7 a 6 (by decide))))) ?_
  rw [mixl_end (digs_length 18446744073709551616 7 _) hlz]
  exact done_of (res0 Tryz.results68) ⟨rfl, rfl⟩ (by repeat (first | exact List.Sublist.refl _ | apply List.Sublist.cons))
theorem toS_ct {M : Mem} {gz gx Tz Tx b Z : Nat} : Ct Tryz.prog 74 #[.pointer (some ⟨gz, 0, none⟩), .pointer (some ⟨gx, 0, none⟩)] (⟨gx, Tx, EE [b]⟩ :: ⟨gz, Tz, W (digs 18446744073709551616 7 Z)⟩ :: M) (Det (.tuple #[]) (⟨gx, Tx, EE [Z]⟩ :: ⟨gz, Tz, W (digs 18446744073709551616 7 Z)⟩ :: M)) := by
  rw [putE_zero Z b]
  refine ct_of (vs := [.pointer (some ⟨gz, 0, none⟩), .pointer (some ⟨gx, 0, none⟩)]) Tryz.func74 rfl Tryz.ntmps74 rfl fun w0 => ?_
  refine at_seq ?_
  refine at_draw (by kernel_rfl) (by kernel_rfl) (by kernel_rfl) (List.cons_ne_nil _ _) ?_
  refine dr_op rfl rfl (opr_load0 rfl rfl Tryz.underlying131 rfl size131) ?_
  refine dr_op rfl rfl (opr_move rfl rfl) ?_
  refine dr_op rfl rfl (opr_nilCheck rfl rfl) ?_
  refine dr_op rfl rfl (opr_slice (a := 0) (b := 8) rfl rfl rfl rfl Tryz.underlying44 (by decide) (by decide) (by decide) size5 rfl) ?_
  refine dr_op rfl rfl (opr_move rfl rfl) ?_
  refine dr_op rfl rfl (opr_nilCheck rfl rfl) ?_
  refine dr_op rfl rfl (opr_indexAddr (j := 0) rfl rfl rfl Tryz.underlying117 (by decide) size29 rfl) ?_
  refine dr_op rfl rfl (opr_load1 (i := 1) rfl rfl rfl Tryz.underlying29 rfl (W_get (digs_get 7 Z 0 (by decide)))) ?_
  refine dr_last rfl rfl (opr_call rfl rfl rfl Tryz.func95 (by kernel_rfl) rfl (putW_ct (i := 0) (n := 0) rfl (by decide) rfl)) ?_
  refine at_then ?_
  refine at_seq ?_
  refine at_draw (by kernel_rfl) (by kernel_rfl) (by kernel_rfl) (List.cons_ne_nil _ _) ?_
  refine dr_op rfl rfl (opr_load0 rfl rfl Tryz.underlying131 rfl size131) ?_
  refine dr_op rfl rfl (opr_move rfl rfl) ?_
  refine dr_op rfl rfl (opr_nilCheck rfl rfl) ?_
  refine dr_op rfl rfl (opr_slice (a := 8) (b := 16) rfl rfl rfl rfl Tryz.underlying44 (by decide) (by decide) (by decide) size5 rfl) ?_
  refine dr_op rfl rfl (opr_move rfl rfl) ?_
  refine dr_op rfl rfl (opr_nilCheck rfl rfl) ?_
  refine dr_op rfl rfl (opr_indexAddr (j := 1) rfl rfl rfl Tryz.underlying117 (by decide) size29 rfl) ?_
  refine dr_op rfl rfl (opr_load1 (i := 1) rfl rfl rfl Tryz.underlying29 rfl (W_get (digs_get 7 Z 1 (by decide)))) ?_
  refine dr_last rfl rfl (opr_call rfl rfl rfl Tryz.func95 (by kernel_rfl) rfl (putW_ct (i := 0) (n := 1) rfl (by decide) rfl)) ?_
  refine at_then ?_
  refine at_seq ?_
  refine at_draw (by kernel_rfl) (by kernel_rfl) (by kernel_rfl) (List.cons_ne_nil _ _) ?_
  refine dr_op rfl rfl (opr_load0 rfl rfl Tryz.underlying131 rfl size131) ?_
  refine dr_op rfl rfl (opr_move rfl rfl) ?_
  refine dr_op rfl rfl (opr_nilCheck rfl rfl) ?_
  refine dr_op rfl rfl (opr_slice (a := 16) (b := 24) rfl rfl rfl rfl Tryz.underlying44 (by decide) (by decide) (by decide) size5 rfl) ?_
  refine dr_op rfl rfl (opr_move rfl rfl) ?_
  refine dr_op rfl rfl (opr_nilCheck rfl rfl) ?_
  refine dr_op rfl rfl (opr_indexAddr (j := 2) rfl rfl rfl Tryz.underlying117 (by decide) size29 rfl) ?_
  refine dr_op rfl rfl (opr_load1 (i := 1) rfl rfl rfl Tryz.underlying29 rfl (W_get (digs_get 7 Z 2 (by decide)))) ?_
  refine dr_last rfl rfl (opr_call rfl rfl rfl Tryz.func95 (by kernel_rfl) rfl (putW_ct (i := 0) (n := 2) rfl (by decide) rfl)) ?_
  refine at_then ?_
  refine at_seq ?_
  refine at_draw (by kernel_rfl) (by kernel_rfl) (by kernel_rfl) (List.cons_ne_nil _ _) ?_
  refine dr_op rfl rfl (opr_load0 rfl rfl Tryz.underlying131 rfl size131) ?_
  refine dr_op rfl rfl (opr_move rfl rfl) ?_
  refine dr_op rfl rfl (opr_nilCheck rfl rfl) ?_
  refine dr_op rfl rfl (opr_slice (a := 24) (b := 32) rfl rfl rfl rfl Tryz.underlying44 (by decide) (by decide) (by decide) size5 rfl) ?_
  refine dr_op rfl rfl (opr_move rfl rfl) ?_
  refine dr_op rfl rfl (opr_nilCheck rfl rfl) ?_
  refine dr_op rfl rfl (opr_indexAddr (j := 3) rfl rfl rfl Tryz.underlying117 (by decide) size29 rfl) ?_
  refine dr_op rfl rfl (opr_load1 (i := 1) rfl rfl rfl Tryz.underlying29 rfl (W_get (digs_get 7 Z 3 (by decide)))) ?_
  refine dr_last rfl rfl (opr_call rfl rfl rfl Tryz.func95 (by kernel_rfl) rfl (putW_ct (i := 0) (n := 3) rfl (by decide) rfl)) ?_
  refine at_then ?_
  refine at_seq ?_
  refine at_draw (by kernel_rfl) (by kernel_rfl) (by kernel_rfl) (List.cons_ne_nil _ _) ?_
  refine dr_op rfl rfl (opr_load0 rfl rfl Tryz.underlying131 rfl size131) ?_
  refine dr_op rfl rfl (opr_move rfl rfl) ?_
  refine dr_op rfl rfl (opr_nilCheck rfl rfl) ?_
  refine dr_op rfl rfl (opr_slice (a := 32) (b := 40) rfl rfl rfl rfl Tryz.underlying44 (by decide) (by decide) (by decide) size5 rfl) ?_
  refine dr_op rfl rfl (opr_move rfl rfl) ?_
  refine dr_op rfl rfl (opr_nilCheck rfl rfl) ?_
  refine dr_op rfl rfl (opr_indexAddr (j := 4) rfl rfl rfl Tryz.underlying117 (by decide) size29 rfl) ?_
  refine dr_op rfl rfl (opr_load1 (i := 1) rfl rfl rfl Tryz.underlying29 rfl (W_get (digs_get 7 Z 4 (by decide)))) ?_
  refine dr_last rfl rfl (opr_call rfl rfl rfl Tryz.func95 (by kernel_rfl) rfl (putW_ct (i := 0) (n := 4) rfl (by decide) rfl)) ?_
  refine at_then ?_
  refine at_seq ?_
  refine at_draw (by kernel_rfl) (by kernel_rfl) (by kernel_rfl) (List.cons_ne_nil _ _) ?_
  refine dr_op rfl rfl (opr_load0 rfl rfl Tryz.underlying131 rfl size131) ?_
  refine dr_op rfl rfl (opr_move rfl rfl) ?_
  refine dr_op rfl rfl (opr_nilCheck rfl rfl) ?_
  refine dr_op rfl rfl (opr_slice (a := 40) (b := 48) rfl rfl rfl rfl Tryz.underlying44 (by decide) (by decide) (by decide) size5 rfl) ?_
  refine dr_op rfl rfl (opr_move rfl rfl) ?_
  refine dr_op rfl rfl (opr_nilCheck rfl rfl) ?_
  refine dr_op rfl rfl (opr_indexAddr (j := 5) rfl rfl rfl Tryz.underlying117 (by decide) size29 rfl) ?_
  refine dr_op rfl rfl (opr_load1 (i := 1) rfl rfl rfl Tryz.underlying29 rfl (W_get (digs_get 7 Z 5 (by decide)))) ?_
  refine dr_last rfl rfl (opr_call rfl rfl rfl Tryz.func95 (by kernel_rfl) rfl (putW_ct (i := 0) (n := 5) rfl (by decide) rfl)) ?_
  refine at_then ?_
  refine at_draw (by kernel_rfl) (by kernel_rfl) (by kernel_rfl) (List.cons_ne_nil _ _) ?_
  refine dr_op rfl rfl (opr_load0 rfl rfl Tryz.underlying131 rfl size131) ?_
  refine dr_op rfl rfl (opr_move rfl rfl) ?_
  refine dr_op rfl rfl (opr_nilCheck rfl rfl) ?_
  refine dr_op rfl rfl (opr_slice (a := 48) (b := 56) rfl rfl rfl rfl Tryz.underlying44 (by decide) (by decide) (by decide) size5 rfl) ?_
  refine dr_op rfl rfl (opr_move rfl rfl) ?_
  refine dr_op rfl rfl (opr_nilCheck rfl rfl) ?_
  refine dr_op rfl rfl (opr_indexAddr (j := 6) rfl rfl rfl Tryz.underlying117 (by decide) size29 rfl) ?_
  refine dr_op rfl rfl (opr_load1 (i := 1) rfl rfl rfl Tryz.underlying29 rfl (W_get (digs_get 7 Z 6 (by decide)))) ?_
  refine dr_last rfl rfl (opr_call rfl rfl rfl Tryz.func95 (by kernel_rfl) rfl (putW_ct (i := 0) (n := 6) rfl (by decide) rfl)) ?_
  rw [putE_end]
  exact done_of (res0 Tryz.results74) ⟨rfl, rfl⟩ (by repeat (first | exact List.Sublist.refl _ | apply List.Sublist.cons))
theorem redOne_ct {M : Mem} {gz Tz Tr Z x : Nat} (hZ : Z < RR) (hx : x < 18446744073709551616) : Ct Tryz.prog 70 #[.pointer (some ⟨gz, 0, none⟩), .int .u64 (x : Int)] (⟨gz, Tz, W (digs 18446744073709551616 7 (Z))⟩ :: ⟨5, Tr, W (digs 18446744073709551616 4 r448)⟩ :: M) (Det (.tuple #[]) (⟨gz, Tz, W (digs 18446744073709551616 7 (rone Z x))⟩ :: ⟨5, Tr, W (digs 18446744073709551616 4 r448)⟩ :: M)) := by
  refine ct_of (vs := [.pointer (some ⟨gz, 0, none⟩), .int .u64 (x : Int)]) Tryz.func70 rfl Tryz.ntmps70 rfl fun w0 => ?_
  refine at_seq ?_
  refine at_region ?_
  refine at_d rfl rfl (opr_build0 rfl zero117 rfl Tryz.underlying117 size29) ?_
  refine at_n rfl rfl (opr_box rfl rfl rfl) ?_
  intro g0
  refine at_d rfl rfl (opr_nilCheck rfl rfl) ?_
  refine at_d rfl rfl (opr_sliceAll rfl rfl Tryz.underlying117 rfl size29) ?_
  refine at_d rfl rfl (opr_assign rfl rfl) ?_
  refine at_nil ?_
  refine at_then ?_
  refine at_seq ?_
  refine at_region ?_
  refine at_d rfl rfl (opr_move rfl rfl) ?_
  refine at_d rfl rfl (opr_sliceAll rfl rfl Tryz.underlying136 rfl size29) ?_
  refine at_d rfl rfl (opr_move rfl rfl) ?_
  refine at_d rfl rfl (opr_call rfl rfl rfl Tryz.func69 (by kernel_rfl) rfl (ct_frame (iz := 0) (idx := [2]) (L := [⟨5, Tr, W ((digs 18446744073709551616 4 r448))⟩]) rfl (by simp only [List.nodup_cons, List.mem_cons, List.not_mem_nil, or_false, not_or, not_false_eq_true, List.nodup_nil, and_true] <;> omega) rfl (idxc rfl idx0) (mulWord4_ct (M := []) (X := r448) (y := x) (List.length_replicate) r448_lt hx) (by rintro _ _ ⟨rfl, rfl⟩; exact ⟨_, rfl, rfl, rfl⟩))) ?_
  refine at_nil ?_
  refine at_then ?_
  refine at_seq ?_
  refine at_drawK (by kernel_rfl) (by kernel_rfl) (M1 := ⟨g0, 117, W ((digs 18446744073709551616 7 (r448 * x)))⟩ :: ⟨gz, Tz, W ((digs 18446744073709551616 7 (Z + (r448 * x))))⟩ :: ⟨5, Tr, W ((digs 18446744073709551616 4 r448))⟩ :: M) (M2 := ⟨g0, 117, W ((digs 18446744073709551616 7 (r448 * x)))⟩ :: ⟨gz, Tz, W ((digs 18446744073709551616 7 (Z + (r448 * x))))⟩ :: ⟨5, Tr, W ((digs 18446744073709551616 4 r448))⟩ :: M) [0, 0, 0, 0, 0, 0, 0, 1, 0] 7 9 (by kernel_rfl) (.inr rfl) ?_
  refine drK0 rfl rfl (fun _ => opr_move rfl rfl) ?_
  refine drK0 rfl rfl (fun _ => opr_nilCheck rfl rfl) ?_
  refine drK0 rfl rfl (fun _ => opr_sliceAll rfl rfl Tryz.underlying117 rfl size29) ?_
  refine drK0 rfl rfl (fun _ => opr_move rfl rfl) ?_
  refine drK0 rfl rfl (fun _ => opr_nilCheck rfl rfl) ?_
  refine drK0 rfl rfl (fun _ => opr_sliceAll rfl rfl Tryz.underlying117 rfl size29) ?_
  refine drK0 rfl rfl (fun _ => opr_move rfl rfl) ?_
  refine drK1 rfl rfl (opr_call rfl rfl rfl Tryz.func72 (by kernel_rfl) rfl (ct_frame (iz := 1) (idx := [0]) (L := [⟨g0, 117, W ((digs 18446744073709551616 7 (r448 * x)))⟩]) rfl (by simp only [List.nodup_cons, List.mem_cons, List.not_mem_nil, or_false, not_or, not_false_eq_true, List.nodup_nil, and_true] <;> omega) rfl (idxc rfl idx0) (addS7_ct (M := []) (X := Z) (Y := (r448 * x)) (fun k hk => digs_get 7 _ k hk)) (by rintro _ _ ⟨rfl, rfl⟩; exact ⟨_, rfl, rfl, rfl⟩))) ?_
  refine drK0 rfl rfl (fun _ => opr_assign rfl rfl) ?_
  refine at_then ?_
  refine at_seq ?_
  refine at_region ?_
  refine at_d rfl rfl (opr_move rfl rfl) ?_
  refine at_d rfl rfl (opr_sliceAll rfl rfl Tryz.underlying136 rfl size29) ?_
  refine at_d rfl rfl (opr_move rfl rfl) ?_
  refine at_d rfl rfl (opr_call rfl rfl rfl Tryz.func69 (by kernel_rfl) rfl (ct_frame (iz := 0) (idx := [2]) (L := [⟨5, Tr, W ((digs 18446744073709551616 4 r448))⟩]) rfl (by simp only [List.nodup_cons, List.mem_cons, List.not_mem_nil, or_false, not_or, not_false_eq_true, List.nodup_nil, and_true] <;> omega) rfl (idxc rfl idx0) (mulWord4_ct (M := []) (X := r448) (y := (cadd Z (r448 * x) 7)) (digs_length _ _ _) r448_lt (Nat.lt_of_le_of_lt (cadd_le _ _ _) (by decide))) (by rintro _ _ ⟨rfl, rfl⟩; exact ⟨_, rfl, rfl, rfl⟩))) ?_
  refine at_nil ?_
  refine at_then ?_
  refine at_draw (by kernel_rfl) (by kernel_rfl) (by kernel_rfl) (List.cons_ne_nil _ _) ?_
  refine dr_op rfl rfl (opr_move rfl rfl) ?_
  refine dr_op rfl rfl (opr_nilCheck rfl rfl) ?_
  refine dr_op rfl rfl (opr_sliceAll rfl rfl Tryz.underlying117 rfl size29) ?_
  refine dr_op rfl rfl (opr_move rfl rfl) ?_
  refine dr_op rfl rfl (opr_nilCheck rfl rfl) ?_
  refine dr_op rfl rfl (opr_sliceAll rfl rfl Tryz.underlying117 rfl size29) ?_
  refine dr_op rfl rfl (opr_move rfl rfl) ?_
  refine dr_last rfl rfl (opr_call rfl rfl rfl Tryz.func72 (by kernel_rfl) rfl (ct_frame (iz := 1) (idx := [0]) (L := [⟨g0, 117, W ((digs 18446744073709551616 7 (r448 * (cadd Z (r448 * x) 7))))⟩]) rfl (by simp only [List.nodup_cons, List.mem_cons, List.not_mem_nil, or_false, not_or, not_false_eq_true, List.nodup_nil, and_true] <;> omega) rfl (idxc rfl idx0) (addS7_ct (M := []) (X := Z + r448 * x) (Y := (r448 * (cadd Z (r448 * x) 7))) (fun k hk => digs_get 7 _ k hk)) (by rintro _ _ ⟨rfl, rfl⟩; exact ⟨_, rfl, rfl, rfl⟩))) ?_
  rw [rone_digs hZ hx]
  exact done_of (res0 Tryz.results70) ⟨rfl, rfl⟩ (by repeat (first | exact List.Sublist.refl _ | apply List.Sublist.cons))
theorem modOrder_ct {M : Mem} {gz Tz To Z : Nat} (hZ : Z < RR) : Ct Tryz.prog 73 #[.pointer (some ⟨gz, 0, none⟩)] (⟨gz, Tz, W (digs 18446744073709551616 7 (Z))⟩ :: ⟨1, To, EE [qq]⟩ :: M) (Det (.tuple #[]) (⟨gz, Tz, W (digs 18446744073709551616 7 (Z % qq))⟩ :: ⟨1, To, EE [qq]⟩ :: M)) := by
  refine ct_of (vs := [.pointer (some ⟨gz, 0, none⟩)]) Tryz.func73 rfl Tryz.ntmps73 rfl fun w0 => ?_
  refine at_seq ?_
  refine at_region ?_
  refine at_n rfl rfl (opr_alloc rfl zero117 rfl) ?_
  intro g0
  refine at_n rfl rfl (opr_alloc rfl zero117 rfl) ?_
  intro g1
  refine at_nil ?_
  refine at_then ?_
  refine at_seq ?_
  refine at_region ?_
  refine at_d rfl rfl (opr_load (i := 3) rfl rfl rfl Tryz.underlying44 rfl size44 (E_length _) (EE_at (k := 0) rfl rfl rfl)) ?_
  refine at_n rfl rfl (opr_alloc rfl zero44 rfl) ?_
  intro g2
  refine at_d rfl rfl (opr_store (i := 0) rfl rfl rfl rfl rfl size44 (E_length _) (by rw [EE_length]; exact Nat.le_of_ble_eq_true rfl) (E_flat _) (EE_set (k := 0) (Nat.le_of_ble_eq_true rfl) rfl)) ?_
  refine at_nil ?_
  refine at_then ?_
  refine at_seq ?_
  refine at_region ?_
  refine at_d rfl rfl (opr_call rfl rfl rfl Tryz.func68 (by kernel_rfl) rfl (ct_frame (iz := 2) (idx := [0]) (L := [⟨g2, 44, EE [qq]⟩]) rfl (by simp only [List.nodup_cons, List.mem_cons, List.not_mem_nil, or_false, not_or, not_false_eq_true, List.nodup_nil, and_true] <;> omega) rfl (idxc rfl idx0) (fromS_ct (M := []) (a := qq) List.length_replicate) (by rintro _ _ ⟨rfl, rfl⟩; exact ⟨_, rfl, rfl, rfl⟩))) ?_
  refine at_nil ?_
  refine at_then ?_
  refine at_seq ?_
  refine at_region ?_
  refine at_d rfl rfl (opr_assign rfl rfl) ?_
  refine at_nil ?_
  refine at_then ?_
  refine at_block ?_
  refine at_loop2 (fun (x : Nat) (y : List Nat) => [(0, .pointer (some ⟨gz, 0, none⟩)), (2, .pointer (some ⟨g0, 0, none⟩)), (3, .pointer (some ⟨g1, 0, none⟩)), (5, .int .i64 (x : Int))]) (fun (x : Nat) (y : List Nat) => ⟨g2, 44, EE [qq]⟩ :: ⟨g1, 117, W (y)⟩ :: ⟨g0, 117, W ((digs 18446744073709551616 7 (qq)))⟩ :: ⟨gz, Tz, W ((digs 18446744073709551616 7 (redk Z x)))⟩ :: ⟨1, To, EE [qq]⟩ :: M) (fun (x : Nat) (y : List Nat) => 8 - x) (fun (x : Nat) (y : List Nat) => x ≤ 8 ∧ y.length = 7) 0 (List.replicate 7 0) ⟨Nat.zero_le _, List.length_replicate⟩ (allIn ⟨rfl, rfl, rfl, rfl, trivial⟩) (List.Sublist.refl _) ?_
  rintro k xl ⟨hk, hxl⟩
  dsimp only
  refine at_seq ?_
  refine at_seq ?_
  refine at_region ?_
  refine at_d rfl rfl (opr_move rfl rfl) ?_
  refine at_d rfl rfl (opr_lss (a := k) (b := 8) rfl rfl rfl) ?_
  refine at_nil ?_
  refine at_then ?_
  refine at_cond rfl (fun ht => ?_) (fun ht => ?_)
  ·
    have hltK : k < 8 := of_decide_eq_true ht
    rcases Nat.lt_or_ge (redk Z k) qq with hq | hq
    ·
      refine at_skip ?_
      refine at_then ?_
      refine at_seq ?_
      refine at_block ?_
      refine at_seq ?_
      refine at_drawK (by kernel_rfl) (by kernel_rfl) (M1 := ⟨g2, 44, EE [qq]⟩ :: ⟨g1, 117, W ((digs 18446744073709551616 7 (dsub (redk Z k) qq)))⟩ :: ⟨g0, 117, W ((digs 18446744073709551616 7 (qq)))⟩ :: ⟨gz, Tz, W ((digs 18446744073709551616 7 ((redk Z k))))⟩ :: ⟨1, To, EE [qq]⟩ :: M) (M2 := ⟨g2, 44, EE [qq]⟩ :: ⟨g1, 117, W ((digs 18446744073709551616 7 (dsub (redk Z k) qq)))⟩ :: ⟨g0, 117, W ((digs 18446744073709551616 7 (qq)))⟩ :: ⟨gz, Tz, W ((digs 18446744073709551616 7 ((redk Z k))))⟩ :: ⟨1, To, EE [qq]⟩ :: M) [0, 0, 0, 0, 0, 1, 0] 5 7 (by kernel_rfl) (.inr rfl) ?_
      refine drK0 rfl rfl (fun _ => opr_sliceAll rfl rfl Tryz.underlying117 rfl size29) ?_
      refine drK0 rfl rfl (fun _ => opr_move rfl rfl) ?_
      refine drK0 rfl rfl (fun _ => opr_nilCheck rfl rfl) ?_
      refine drK0 rfl rfl (fun _ => opr_sliceAll rfl rfl Tryz.underlying117 rfl size29) ?_
      refine drK0 rfl rfl (fun _ => opr_sliceAll rfl rfl Tryz.underlying117 rfl size29) ?_
      refine drK1 rfl rfl (opr_call rfl rfl rfl Tryz.func93 (by kernel_rfl) rfl (ct_frame (iz := 1) (idx := [3, 2]) (L := [⟨gz, Tz, W ((digs 18446744073709551616 7 ((redk Z k))))⟩, ⟨g0, 117, W ((digs 18446744073709551616 7 (qq)))⟩]) rfl (by simp only [List.nodup_cons, List.mem_cons, List.not_mem_nil, or_false, not_or, not_false_eq_true, List.nodup_nil, and_true] <;> omega) rfl (idxc rfl (idxc rfl idx0)) (sub7_ct (M := []) (X := (redk Z k)) (Y := qq) hxl (fun k hk => digs_get 7 _ k hk)) (by rintro _ _ ⟨rfl, rfl⟩; exact ⟨_, rfl, rfl, rfl⟩))) ?_
      refine drK0 rfl rfl (fun _ => opr_eq' (opr_assign rfl rfl) (u64_eq' (bor_lt (redk_lt hZ k) hq))) ?_
      refine at_then ?_
      refine at_region ?_
      refine at_d rfl rfl (opr_move rfl rfl) ?_
      refine at_d rfl rfl (opr_move rfl rfl) ?_
      refine at_d rfl rfl (opr_binOp (v := .int .u64 0) rfl rfl rfl (fun _ => rfl)) ?_
      refine at_d rfl rfl (opr_call rfl rfl rfl Tryz.func94 (by kernel_rfl) rfl (ct_frame (iz := 3) (idx := [1]) (L := [⟨g1, 117, W ((digs 18446744073709551616 7 (dsub (redk Z k) qq)))⟩]) rfl (by simp only [List.nodup_cons, List.mem_cons, List.not_mem_nil, or_false, not_or, not_false_eq_true, List.nodup_nil, and_true] <;> omega) rfl (idxc rfl idx0) (sCmov0_ct (M := [])) (by rintro _ _ ⟨rfl, rfl⟩; exact ⟨_, rfl, rfl, rfl⟩))) ?_
      refine at_nil ?_
      refine at_inBlock_normal ?_
      refine at_then ?_
      refine at_region ?_
      refine at_d rfl rfl (opr_move rfl rfl) ?_
      refine at_d rfl rfl (opr_addI (a := k) (b := 1) rfl rfl rfl (by omega)) ?_
      refine at_d rfl rfl (opr_assign rfl rfl) ?_
      refine at_nil ?_
      rw [show (digs 18446744073709551616 7 ((redk Z k))) = digs 18446744073709551616 7 (redk Z (k + 1)) from by rw [redk_s1 hq]]
      exact at_round2 (k + 1) (digs 18446744073709551616 7 (dsub (redk Z k) qq)) ⟨by omega, digs_length _ _ _⟩ (by omega) (allIn ⟨rfl, rfl, rfl, rfl, trivial⟩) (List.Sublist.refl _)
    ·
      refine at_skip ?_
      refine at_then ?_
      refine at_seq ?_
      refine at_block ?_
      refine at_seq ?_
      refine at_drawK (by kernel_rfl) (by kernel_rfl) (M1 := ⟨g2, 44, EE [qq]⟩ :: ⟨g1, 117, W ((digs 18446744073709551616 7 (dsub (redk Z k) qq)))⟩ :: ⟨g0, 117, W ((digs 18446744073709551616 7 (qq)))⟩ :: ⟨gz, Tz, W ((digs 18446744073709551616 7 ((redk Z k))))⟩ :: ⟨1, To, EE [qq]⟩ :: M) (M2 := ⟨g2, 44, EE [qq]⟩ :: ⟨g1, 117, W ((digs 18446744073709551616 7 (dsub (redk Z k) qq)))⟩ :: ⟨g0, 117, W ((digs 18446744073709551616 7 (qq)))⟩ :: ⟨gz, Tz, W ((digs 18446744073709551616 7 ((redk Z k))))⟩ :: ⟨1, To, EE [qq]⟩ :: M) [0, 0, 0, 0, 0, 1, 0] 5 7 (by kernel_rfl) (.inr rfl) ?_
      refine drK0 rfl rfl (fun _ => opr_sliceAll rfl rfl Tryz.underlying117 rfl size29) ?_
      refine drK0 rfl rfl (fun _ => opr_move rfl rfl) ?_
      refine drK0 rfl rfl (fun _ => opr_nilCheck rfl rfl) ?_
      refine drK0 rfl rfl (fun _ => opr_sliceAll rfl rfl Tryz.underlying117 rfl size29) ?_
      refine drK0 rfl rfl (fun _ => opr_sliceAll rfl rfl Tryz.underlying117 rfl size29) ?_
      refine drK1 rfl rfl (opr_call rfl rfl rfl Tryz.func93 (by kernel_rfl) rfl (ct_frame (iz := 1) (idx := [3, 2]) (L := [⟨gz, Tz, W ((digs 18446744073709551616 7 ((redk Z k))))⟩, ⟨g0, 117, W ((digs 18446744073709551616 7 (qq)))⟩]) rfl (by simp only [List.nodup_cons, List.mem_cons, List.not_mem_nil, or_false, not_or, not_false_eq_true, List.nodup_nil, and_true] <;> omega) rfl (idxc rfl (idxc rfl idx0)) (sub7_ct (M := []) (X := (redk Z k)) (Y := qq) hxl (fun k hk => digs_get 7 _ k hk)) (by rintro _ _ ⟨rfl, rfl⟩; exact ⟨_, rfl, rfl, rfl⟩))) ?_
      refine drK0 rfl rfl (fun _ => opr_eq' (opr_assign rfl rfl) (u64_eq' (bor_ge (redk_lt hZ k) hq))) ?_
      refine at_then ?_
      refine at_region ?_
      refine at_d rfl rfl (opr_move rfl rfl) ?_
      refine at_d rfl rfl (opr_move rfl rfl) ?_
      refine at_d rfl rfl (opr_binOp (v := .int .u64 1) rfl rfl rfl (fun _ => rfl)) ?_
      refine at_d rfl rfl (opr_call rfl rfl rfl Tryz.func94 (by kernel_rfl) rfl (ct_frame (iz := 3) (idx := [1]) (L := [⟨g1, 117, W ((digs 18446744073709551616 7 (dsub (redk Z k) qq)))⟩]) rfl (by simp only [List.nodup_cons, List.mem_cons, List.not_mem_nil, or_false, not_or, not_false_eq_true, List.nodup_nil, and_true] <;> omega) rfl (idxc rfl idx0) (sCmov1_ct (M := [])) (by rintro _ _ ⟨rfl, rfl⟩; exact ⟨_, rfl, rfl, rfl⟩))) ?_
      refine at_nil ?_
      refine at_inBlock_normal ?_
      refine at_then ?_
      refine at_region ?_
      refine at_d rfl rfl (opr_move rfl rfl) ?_
      refine at_d rfl rfl (opr_addI (a := k) (b := 1) rfl rfl rfl (by omega)) ?_
      refine at_d rfl rfl (opr_assign rfl rfl) ?_
      refine at_nil ?_
      rw [dsub_ge (redk_lt hZ k) hq, ← redk_s2 hq]
      exact at_round2 (k + 1) (digs 18446744073709551616 7 (redk Z (k + 1))) ⟨by omega, digs_length _ _ _⟩ (by omega) (allIn ⟨rfl, rfl, rfl, rfl, trivial⟩) (List.Sublist.refl _)
  ·
    obtain rfl : k = 8 := by have := of_decide_eq_false ht; omega
    rw [redk_end hZ]
    refine at_exit ?_
    refine at_then_exit ?_
    refine at_then_exit ?_
    refine at_inBlock_same ?_
    exact done_of (res0 Tryz.results73) ⟨rfl, rfl⟩ (by repeat (first | exact List.Sublist.refl _ | apply List.Sublist.cons))
end Go.Proofs.YtjlhhcdefcofkaaGreatDoor
