/- Words out of bytes and back. -/
import Derived.Test.YtjlhhcdefcofkaaGreatDoorEngA
import Derived.Test.YtjlhhcdefcofkaaGreatDoorProg
import Derived.KernelRfl
namespace Go.Proofs.YtjlhhcdefcofkaaGreatDoor
open Go
set_option maxRecDepth 100000
theorem size5 : (Tryz.prog.info? 5).map (·.size) = some 1 := by kernel_rfl
theorem B8_cell {cs : List Value} {off x : Nat} (hv : (cs.drop off).take 8 = B8 x) (j : Nat) (hj : j < 8) : cs[off + j]? = some (.int .u8 ((x / 256 ^ j % 256 : Nat) : Int)) := by
  have h1 : ((cs.drop off).take 8)[j]? = cs[off + j]? := by rw [List.getElem?_take_of_lt hj, List.getElem?_drop]
  rw [← h1, hv, B8, List.getElem?_map, digs_get 8 x j hj]
  rfl
theorem or_step {a b n : Nat} (ha : a < 2 ^ n) (hb : b < 256) (hn : n ≤ 56) : a ||| (b * 2 ^ n % 18446744073709551616) = a + 2 ^ n * b := by
  have h1 : b * 2 ^ n < 18446744073709551616 := by
    have h2 : (2 : Nat) ^ n ≤ 2 ^ 56 := Nat.pow_le_pow_right (by decide) hn
    have h3 : b * 2 ^ n ≤ 255 * 2 ^ 56 := Nat.mul_le_mul (by omega) h2
    have h4 : (255 * 2 ^ 56 : Nat) < 18446744073709551616 := by decide
    omega
  rw [Nat.mod_eq_of_lt h1, Nat.or_comm, Nat.mul_comm b, ← Nat.two_pow_add_eq_or_of_lt ha, Nat.add_comm]
theorem uint64_val (x : Nat) : ((x / 256 ^ 0 % 256) ||| (x / 256 ^ 1 % 256 * 2 ^ 8 % 18446744073709551616) ||| (x / 256 ^ 2 % 256 * 2 ^ 16 % 18446744073709551616) ||| (x / 256 ^ 3 % 256 * 2 ^ 24 % 18446744073709551616) ||| (x / 256 ^ 4 % 256 * 2 ^ 32 % 18446744073709551616)
    ||| (x / 256 ^ 5 % 256 * 2 ^ 40 % 18446744073709551616) ||| (x / 256 ^ 6 % 256 * 2 ^ 48 % 18446744073709551616) ||| (x / 256 ^ 7 % 256 * 2 ^ 56 % 18446744073709551616)) = x % 18446744073709551616 := by
  have m : ∀ j, x / 256 ^ j % 256 < 256 := fun j => Nat.mod_lt _ (by decide)
  have h := dval_digs 256 8 x
  have hd : digs 256 8 x = [x / 256 ^ 0 % 256, x / 256 ^ 1 % 256, x / 256 ^ 2 % 256, x / 256 ^ 3 % 256, x / 256 ^ 4 % 256, x / 256 ^ 5 % 256, x / 256 ^ 6 % 256, x / 256 ^ 7 % 256] := by
    apply List.ext_getElem?
    intro j
    by_cases hj : j < 8
    · rw [digs_get 8 x j hj]
      have : j = 0 ∨ j = 1 ∨ j = 2 ∨ j = 3 ∨ j = 4 ∨ j = 5 ∨ j = 6 ∨ j = 7 := by omega
      rcases this with rfl | rfl | rfl | rfl | rfl | rfl | rfl | rfl <;> rfl
    · rw [List.getElem?_eq_none (by rw [digs_length]; omega), List.getElem?_eq_none (by simp; omega)]
  rw [hd] at h
  have m0 := m 0; have m1 := m 1; have m2 := m 2; have m3 := m 3; have m4 := m 4; have m5 := m 5; have m6 := m 6; have m7 := m 7
  clear m hd
  generalize x / 256 ^ 0 % 256 = b0, x / 256 ^ 1 % 256 = b1, x / 256 ^ 2 % 256 = b2, x / 256 ^ 3 % 256 = b3, x / 256 ^ 4 % 256 = b4, x / 256 ^ 5 % 256 = b5, x / 256 ^ 6 % 256 = b6, x / 256 ^ 7 % 256 = b7 at *
  rw [or_step (n := 8) (by simp only [Nat.reducePow]; omega) m1 (by decide), or_step (n := 16) (by simp only [Nat.reducePow]; omega) m2 (by decide), or_step (n := 24) (by simp only [Nat.reducePow]; omega) m3 (by decide),
    or_step (n := 32) (by simp only [Nat.reducePow]; omega) m4 (by decide), or_step (n := 40) (by simp only [Nat.reducePow]; omega) m5 (by decide), or_step (n := 48) (by simp only [Nat.reducePow]; omega) m6 (by decide),
    or_step (n := 56) (by simp only [Nat.reducePow]; omega) m7 (by decide)]
  simp only [dval, Nat.reducePow] at h ⊢
  omega
/-- Bytes written one behind the other. -/
def putTo (cs : List Value) (off x j : Nat) : List Value := splice cs off ((digs 256 j x).map u8V)
theorem flat_one {n : Int} {k : IntKind} : ∀ v ∈ [Value.int k n], flat v = true := by
  intro v hv
  simp only [List.mem_singleton] at hv
  subst hv; rfl
theorem put_le {cs : List Value} {off x : Nat} (hl : off + 8 ≤ cs.length) (j : Nat) (hj : j < 8) : off + j + 1 ≤ (putTo cs off x j).length := by
  rw [putTo, splice_length (by simp [digs_length]; omega)]; omega
theorem digs_snoc (b : Nat) : ∀ k n, digs b (k + 1) n = digs b k n ++ [n / b ^ k % b] := by
  intro k n
  rw [digs_add b k 1 n]; rfl
theorem put_step {cs : List Value} {off x : Nat} (hl : off + 8 ≤ cs.length) (j : Nat) (hj : j < 8) : splice (putTo cs off x j) (off + j) [.int .u8 ((x / 2 ^ (8 * j) % 256 : Nat) : Int)] = putTo cs off x (j + 1) := by
  have hp : (2 : Nat) ^ (8 * j) = 256 ^ j := by rw [show (256 : Nat) = 2 ^ 8 from rfl, ← Nat.pow_mul]
  have := splice_splice (cs := cs) (u := (digs 256 j x).map u8V) (v := [.int .u8 ((x / 2 ^ (8 * j) % 256 : Nat) : Int)]) (a := off) (by simp [digs_length]; omega)
  simp only [List.length_map, digs_length] at this
  rw [putTo, this, putTo, digs_snoc, List.map_append, hp]
  rfl
theorem put_step0 {cs : List Value} {off x : Nat} (hl : off + 8 ≤ cs.length) : splice (putTo cs off x 0) off [.int .u8 ((x % 256 : Nat) : Int)] = putTo cs off x 1 := by
  have := put_step (x := x) hl 0 (by decide)
  simpa using this
theorem putTo_zero (cs : List Value) (off x : Nat) : putTo cs off x 0 = cs := by simp [putTo, splice, digs]
theorem put_done {M : Mem} {i : Nat} {a b c d e f g h : Blk} : ((((((((M.set i a).set i b).set i c).set i d).set i e).set i f).set i g).set i h) = M.set i h := by
  simp only [List.set_set]
theorem uint64_ct {M : Mem} {i g off n c T : Nat} {cs : List Value} {x : Nat} (hb : M[i]? = some ⟨g, T, cs⟩) (hv : (cs.drop off).take 8 = B8 x) (hn : 8 ≤ n) :
    Ct Tryz.prog 90 #[.agg #[], .slice (some ⟨g, off, none⟩) n c] M (Det (.int .u64 ((x % 18446744073709551616 : Nat) : Int)) M) := by
  refine ct_of (vs := [.agg #[], .slice (some ⟨g, off, none⟩) n c]) Tryz.func90 rfl Tryz.ntmps90 rfl fun w0 => ?_
  refine at_seq ?_
  refine at_region ?_
  refine at_n rfl rfl (opr_box rfl rfl rfl) ?_
  intro g0
  refine at_d rfl rfl (opr_assign rfl rfl) ?_
  refine at_nil ?_
  refine at_then ?_
  refine at_seq ?_
  refine at_region ?_
  refine at_d rfl rfl (opr_move rfl rfl) ?_
  refine at_d rfl rfl (opr_indexAddrS (j := 7) (off' := off + 7) rfl rfl rfl Tryz.underlying98 (by omega) size5 rfl) ?_
  refine at_d rfl rfl (opr_load1 (i := i + 1) rfl rfl hb Tryz.underlying5 rfl (B8_cell hv 7 (by decide))) ?_
  refine at_nil ?_
  refine at_then ?_
  refine at_seq ?_
  refine at_draw (by kernel_rfl) (by kernel_rfl) (by kernel_rfl) (List.cons_ne_nil _ _) ?_
  refine dr_op rfl rfl (opr_move rfl rfl) ?_
  refine dr_op rfl rfl (opr_indexAddrS (j := 0) (off' := off) rfl rfl rfl Tryz.underlying98 (by omega) size5 rfl) ?_
  refine dr_op rfl rfl (opr_load1 (i := i + 1) rfl rfl hb Tryz.underlying5 rfl (B8_cell hv 0 (by decide))) ?_
  refine dr_op rfl rfl (opr_to64 rfl rfl Tryz.underlying5 Tryz.underlying29 (Nat.lt_trans (Nat.mod_lt _ (by decide)) (by decide))) ?_
  refine dr_op rfl rfl (opr_move rfl rfl) ?_
  refine dr_op rfl rfl (opr_indexAddrS (j := 1) (off' := off + 1) rfl rfl rfl Tryz.underlying98 (by omega) size5 rfl) ?_
  refine dr_op rfl rfl (opr_load1 (i := i + 1) rfl rfl hb Tryz.underlying5 rfl (B8_cell hv 1 (by decide))) ?_
  refine dr_op rfl rfl (opr_to64 rfl rfl Tryz.underlying5 Tryz.underlying29 (Nat.lt_trans (Nat.mod_lt _ (by decide)) (by decide))) ?_
  refine dr_op rfl rfl (opr_shl64 rfl rfl rfl (by decide)) ?_
  refine dr_op rfl rfl (opr_or64 rfl rfl rfl (Nat.lt_trans (Nat.mod_lt _ (by decide)) (by decide)) (Nat.mod_lt _ (by decide))) ?_
  refine dr_op rfl rfl (opr_move rfl rfl) ?_
  refine dr_op rfl rfl (opr_indexAddrS (j := 2) (off' := off + 2) rfl rfl rfl Tryz.underlying98 (by omega) size5 rfl) ?_
  refine dr_op rfl rfl (opr_load1 (i := i + 1) rfl rfl hb Tryz.underlying5 rfl (B8_cell hv 2 (by decide))) ?_
  refine dr_op rfl rfl (opr_to64 rfl rfl Tryz.underlying5 Tryz.underlying29 (Nat.lt_trans (Nat.mod_lt _ (by decide)) (by decide))) ?_
  refine dr_op rfl rfl (opr_shl64 rfl rfl rfl (by decide)) ?_
  refine dr_op rfl rfl (opr_or64 rfl rfl rfl (Nat.or_lt_two_pow (n := 64) (Nat.lt_trans (Nat.mod_lt _ (by decide)) (by decide)) (Nat.mod_lt _ (by decide))) (Nat.mod_lt _ (by decide))) ?_
  refine dr_op rfl rfl (opr_move rfl rfl) ?_
  refine dr_op rfl rfl (opr_indexAddrS (j := 3) (off' := off + 3) rfl rfl rfl Tryz.underlying98 (by omega) size5 rfl) ?_
  refine dr_op rfl rfl (opr_load1 (i := i + 1) rfl rfl hb Tryz.underlying5 rfl (B8_cell hv 3 (by decide))) ?_
  refine dr_op rfl rfl (opr_to64 rfl rfl Tryz.underlying5 Tryz.underlying29 (Nat.lt_trans (Nat.mod_lt _ (by decide)) (by decide))) ?_
  refine dr_op rfl rfl (opr_shl64 rfl rfl rfl (by decide)) ?_
  refine dr_op rfl rfl (opr_or64 rfl rfl rfl (Nat.or_lt_two_pow (n := 64) (Nat.or_lt_two_pow (n := 64) (Nat.lt_trans (Nat.mod_lt _ (by decide)) (by decide)) (Nat.mod_lt _ (by decide))) (Nat.mod_lt _ (by decide))) (Nat.mod_lt _ (by decide))) ?_
  refine dr_op rfl rfl (opr_move rfl rfl) ?_
  refine dr_op rfl rfl (opr_indexAddrS (j := 4) (off' := off + 4) rfl rfl rfl Tryz.underlying98 (by omega) size5 rfl) ?_
  refine dr_op rfl rfl (opr_load1 (i := i + 1) rfl rfl hb Tryz.underlying5 rfl (B8_cell hv 4 (by decide))) ?_
  refine dr_op rfl rfl (opr_to64 rfl rfl Tryz.underlying5 Tryz.underlying29 (Nat.lt_trans (Nat.mod_lt _ (by decide)) (by decide))) ?_
  refine dr_op rfl rfl (opr_shl64 rfl rfl rfl (by decide)) ?_
  refine dr_op rfl rfl (opr_or64 rfl rfl rfl (Nat.or_lt_two_pow (n := 64) (Nat.or_lt_two_pow (n := 64) (Nat.or_lt_two_pow (n := 64) (Nat.lt_trans (Nat.mod_lt _ (by decide)) (by decide)) (Nat.mod_lt _ (by decide))) (Nat.mod_lt _ (by decide))) (Nat.mod_lt _ (by decide))) (Nat.mod_lt _ (by decide))) ?_
  refine dr_op rfl rfl (opr_move rfl rfl) ?_
  refine dr_op rfl rfl (opr_indexAddrS (j := 5) (off' := off + 5) rfl rfl rfl Tryz.underlying98 (by omega) size5 rfl) ?_
  refine dr_op rfl rfl (opr_load1 (i := i + 1) rfl rfl hb Tryz.underlying5 rfl (B8_cell hv 5 (by decide))) ?_
  refine dr_op rfl rfl (opr_to64 rfl rfl Tryz.underlying5 Tryz.underlying29 (Nat.lt_trans (Nat.mod_lt _ (by decide)) (by decide))) ?_
  refine dr_op rfl rfl (opr_shl64 rfl rfl rfl (by decide)) ?_
  refine dr_op rfl rfl (opr_or64 rfl rfl rfl (Nat.or_lt_two_pow (n := 64) (Nat.or_lt_two_pow (n := 64) (Nat.or_lt_two_pow (n := 64) (Nat.or_lt_two_pow (n := 64) (Nat.lt_trans (Nat.mod_lt _ (by decide)) (by decide)) (Nat.mod_lt _ (by decide))) (Nat.mod_lt _ (by decide))) (Nat.mod_lt _ (by decide))) (Nat.mod_lt _ (by decide))) (Nat.mod_lt _ (by decide))) ?_
  refine dr_op rfl rfl (opr_move rfl rfl) ?_
  refine dr_op rfl rfl (opr_indexAddrS (j := 6) (off' := off + 6) rfl rfl rfl Tryz.underlying98 (by omega) size5 rfl) ?_
  refine dr_op rfl rfl (opr_load1 (i := i + 1) rfl rfl hb Tryz.underlying5 rfl (B8_cell hv 6 (by decide))) ?_
  refine dr_op rfl rfl (opr_to64 rfl rfl Tryz.underlying5 Tryz.underlying29 (Nat.lt_trans (Nat.mod_lt _ (by decide)) (by decide))) ?_
  refine dr_op rfl rfl (opr_shl64 rfl rfl rfl (by decide)) ?_
  refine dr_op rfl rfl (opr_or64 rfl rfl rfl (Nat.or_lt_two_pow (n := 64) (Nat.or_lt_two_pow (n := 64) (Nat.or_lt_two_pow (n := 64) (Nat.or_lt_two_pow (n := 64) (Nat.or_lt_two_pow (n := 64) (Nat.lt_trans (Nat.mod_lt _ (by decide)) (by decide)) (Nat.mod_lt _ (by decide))) (Nat.mod_lt _ (by decide))) (Nat.mod_lt _ (by decide))) (Nat.mod_lt _ (by decide))) (Nat.mod_lt _ (by decide))) (Nat.mod_lt _ (by decide))) ?_
  refine dr_op rfl rfl (opr_move rfl rfl) ?_
  refine dr_op rfl rfl (opr_indexAddrS (j := 7) (off' := off + 7) rfl rfl rfl Tryz.underlying98 (by omega) size5 rfl) ?_
  refine dr_op rfl rfl (opr_load1 (i := i + 1) rfl rfl hb Tryz.underlying5 rfl (B8_cell hv 7 (by decide))) ?_
  refine dr_op rfl rfl (opr_to64 rfl rfl Tryz.underlying5 Tryz.underlying29 (Nat.lt_trans (Nat.mod_lt _ (by decide)) (by decide))) ?_
  refine dr_op rfl rfl (opr_shl64 rfl rfl rfl (by decide)) ?_
  refine dr_op rfl rfl (opr_or64 rfl rfl rfl (Nat.or_lt_two_pow (n := 64) (Nat.or_lt_two_pow (n := 64) (Nat.or_lt_two_pow (n := 64) (Nat.or_lt_two_pow (n := 64) (Nat.or_lt_two_pow (n := 64) (Nat.or_lt_two_pow (n := 64) (Nat.lt_trans (Nat.mod_lt _ (by decide)) (by decide)) (Nat.mod_lt _ (by decide))) (Nat.mod_lt _ (by decide))) (Nat.mod_lt _ (by decide))) (Nat.mod_lt _ (by decide))) (Nat.mod_lt _ (by decide))) (Nat.mod_lt _ (by decide))) (Nat.mod_lt _ (by decide))) ?_
  refine dr_last rfl rfl (opr_assign rfl rfl) ?_
  refine at_then ?_
  refine at_ret ?_
  refine done_of (res1 Tryz.results90 (res_tmp rfl)) ⟨?_, rfl⟩ (List.sublist_cons_self _ _)
  exact congrArg (fun n : Nat => Value.int .u64 (n : Int)) (uint64_val x)
theorem putUint64_ct {M : Mem} {i g off n c T : Nat} {cs : List Value} {x : Nat} (hb : M[i]? = some ⟨g, T, cs⟩) (hl : off + 8 ≤ cs.length) (_hx : x < 18446744073709551616) (hn : 8 ≤ n) :
    Ct Tryz.prog 95 #[.agg #[], .slice (some ⟨g, off, none⟩) n c, .int .u64 (x : Int)] M (Det (.tuple #[]) (M.set i ⟨g, T, splice cs off (B8 x)⟩)) := by
  have hb0 : M[i]? = some ⟨g, T, putTo cs off x 0⟩ := by rw [putTo_zero]; exact hb
  obtain ⟨b7, hb7⟩ : ∃ v, (putTo cs off x 0)[off + 7]? = some v := ⟨_, List.getElem?_eq_getElem (by rw [putTo_zero]; omega)⟩
  refine ct_of (vs := [.agg #[], .slice (some ⟨g, off, none⟩) n c, .int .u64 (x : Int)]) Tryz.func95 rfl Tryz.ntmps95 rfl fun w0 => ?_
  refine at_seq ?_
  refine at_region ?_
  refine at_n rfl rfl (opr_box rfl rfl rfl) ?_
  intro g0
  refine at_nil ?_
  refine at_then ?_
  refine at_seq ?_
  refine at_region ?_
  refine at_d rfl rfl (opr_move rfl rfl) ?_
  refine at_d rfl rfl (opr_indexAddrS (j := 7) (off' := off + 7) rfl rfl rfl Tryz.underlying98 (by omega) size5 rfl) ?_
  refine at_d rfl rfl (opr_load1 (i := i + 1) rfl rfl hb0 Tryz.underlying5 rfl hb7) ?_
  refine at_nil ?_
  refine at_then ?_
  refine at_seq ?_
  refine at_region ?_
  refine at_d rfl rfl (opr_move rfl rfl) ?_
  refine at_d rfl rfl (opr_move rfl rfl) ?_
  refine at_d rfl rfl (opr_to8 rfl rfl Tryz.underlying29 Tryz.underlying5) ?_
  refine at_d rfl rfl (opr_indexAddrS (j := 0) (off' := off) rfl rfl rfl Tryz.underlying98 (by omega) size5 rfl) ?_
  refine at_d rfl rfl (opr_store (i := i + 1) rfl rfl rfl rfl hb0 size5 rfl (put_le hl 0 (by decide)) flat_one (put_step0 hl)) ?_
  refine at_nil ?_
  refine at_then ?_
  refine at_seq ?_
  refine at_region ?_
  refine at_d rfl rfl (opr_move rfl rfl) ?_
  refine at_d rfl rfl (opr_move rfl rfl) ?_
  refine at_d rfl rfl (opr_shr64 rfl rfl rfl (by decide)) ?_
  refine at_d rfl rfl (opr_to8 rfl rfl Tryz.underlying29 Tryz.underlying5) ?_
  refine at_d rfl rfl (opr_indexAddrS (j := 1) (off' := off + 1) rfl rfl rfl Tryz.underlying98 (by omega) size5 rfl) ?_
  refine at_d rfl rfl (opr_store (i := i + 1) rfl rfl rfl rfl (get_set hb0) size5 rfl (put_le hl 1 (by decide)) flat_one (put_step hl 1 (by decide))) ?_
  refine at_nil ?_
  refine at_then ?_
  refine at_seq ?_
  refine at_region ?_
  refine at_d rfl rfl (opr_move rfl rfl) ?_
  refine at_d rfl rfl (opr_move rfl rfl) ?_
  refine at_d rfl rfl (opr_shr64 rfl rfl rfl (by decide)) ?_
  refine at_d rfl rfl (opr_to8 rfl rfl Tryz.underlying29 Tryz.underlying5) ?_
  refine at_d rfl rfl (opr_indexAddrS (j := 2) (off' := off + 2) rfl rfl rfl Tryz.underlying98 (by omega) size5 rfl) ?_
  refine at_d rfl rfl (opr_store (i := i + 1) rfl rfl rfl rfl (get_set (get_set hb0)) size5 rfl (put_le hl 2 (by decide)) flat_one (put_step hl 2 (by decide))) ?_
  refine at_nil ?_
  refine at_then ?_
  refine at_seq ?_
  refine at_region ?_
  refine at_d rfl rfl (opr_move rfl rfl) ?_
  refine at_d rfl rfl (opr_move rfl rfl) ?_
  refine at_d rfl rfl (opr_shr64 rfl rfl rfl (by decide)) ?_
  refine at_d rfl rfl (opr_to8 rfl rfl Tryz.underlying29 Tryz.underlying5) ?_
  refine at_d rfl rfl (opr_indexAddrS (j := 3) (off' := off + 3) rfl rfl rfl Tryz.underlying98 (by omega) size5 rfl) ?_
  refine at_d rfl rfl (opr_store (i := i + 1) rfl rfl rfl rfl (get_set (get_set (get_set hb0))) size5 rfl (put_le hl 3 (by decide)) flat_one (put_step hl 3 (by decide))) ?_
  refine at_nil ?_
  refine at_then ?_
  refine at_seq ?_
  refine at_region ?_
  refine at_d rfl rfl (opr_move rfl rfl) ?_
  refine at_d rfl rfl (opr_move rfl rfl) ?_
  refine at_d rfl rfl (opr_shr64 rfl rfl rfl (by decide)) ?_
  refine at_d rfl rfl (opr_to8 rfl rfl Tryz.underlying29 Tryz.underlying5) ?_
  refine at_d rfl rfl (opr_indexAddrS (j := 4) (off' := off + 4) rfl rfl rfl Tryz.underlying98 (by omega) size5 rfl) ?_
  refine at_d rfl rfl (opr_store (i := i + 1) rfl rfl rfl rfl (get_set (get_set (get_set (get_set hb0)))) size5 rfl (put_le hl 4 (by decide)) flat_one (put_step hl 4 (by decide))) ?_
  refine at_nil ?_
  refine at_then ?_
  refine at_seq ?_
  refine at_region ?_
  refine at_d rfl rfl (opr_move rfl rfl) ?_
  refine at_d rfl rfl (opr_move rfl rfl) ?_
  refine at_d rfl rfl (opr_shr64 rfl rfl rfl (by decide)) ?_
  refine at_d rfl rfl (opr_to8 rfl rfl Tryz.underlying29 Tryz.underlying5) ?_
  refine at_d rfl rfl (opr_indexAddrS (j := 5) (off' := off + 5) rfl rfl rfl Tryz.underlying98 (by omega) size5 rfl) ?_
  refine at_d rfl rfl (opr_store (i := i + 1) rfl rfl rfl rfl (get_set (get_set (get_set (get_set (get_set hb0))))) size5 rfl (put_le hl 5 (by decide)) flat_one (put_step hl 5 (by decide))) ?_
  refine at_nil ?_
  refine at_then ?_
  refine at_seq ?_
  refine at_region ?_
  refine at_d rfl rfl (opr_move rfl rfl) ?_
  refine at_d rfl rfl (opr_move rfl rfl) ?_
  refine at_d rfl rfl (opr_shr64 rfl rfl rfl (by decide)) ?_
  refine at_d rfl rfl (opr_to8 rfl rfl Tryz.underlying29 Tryz.underlying5) ?_
  refine at_d rfl rfl (opr_indexAddrS (j := 6) (off' := off + 6) rfl rfl rfl Tryz.underlying98 (by omega) size5 rfl) ?_
  refine at_d rfl rfl (opr_store (i := i + 1) rfl rfl rfl rfl (get_set (get_set (get_set (get_set (get_set (get_set hb0)))))) size5 rfl (put_le hl 6 (by decide)) flat_one (put_step hl 6 (by decide))) ?_
  refine at_nil ?_
  refine at_then ?_
  refine at_region ?_
  refine at_d rfl rfl (opr_move rfl rfl) ?_
  refine at_d rfl rfl (opr_move rfl rfl) ?_
  refine at_d rfl rfl (opr_shr64 rfl rfl rfl (by decide)) ?_
  refine at_d rfl rfl (opr_to8 rfl rfl Tryz.underlying29 Tryz.underlying5) ?_
  refine at_d rfl rfl (opr_indexAddrS (j := 7) (off' := off + 7) rfl rfl rfl Tryz.underlying98 (by omega) size5 rfl) ?_
  refine at_d rfl rfl (opr_store (i := i + 1) rfl rfl rfl rfl (get_set (get_set (get_set (get_set (get_set (get_set (get_set hb0))))))) size5 rfl (put_le hl 7 (by decide)) flat_one (put_step hl 7 (by decide))) ?_
  refine at_nil ?_
  refine done_of (res0 rfl) ⟨rfl, ?_⟩ (List.sublist_cons_self _ _)
  exact put_done
end Go.Proofs.YtjlhhcdefcofkaaGreatDoor
