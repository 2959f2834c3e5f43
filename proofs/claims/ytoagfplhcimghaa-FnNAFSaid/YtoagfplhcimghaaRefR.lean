/- The reference's number modulo the order. -/
import Derived.Test.YtoagfplhcimghaaRefW
import Derived.Test.YtoagfplhcimghaaCopy
namespace Go.Proofs.Ytoagfplhcimghaa
open Go
set_option maxRecDepth 100000

def cdbl (O b j : Nat) : Nat := (2 * (O % 65536 ^ j) + b) / 65536 ^ j
theorem cdbl_zero (O b : Nat) : cdbl O b 0 = b := by unfold cdbl; rw [Nat.pow_zero, Nat.mod_one, Nat.div_one, Nat.mul_zero, Nat.zero_add]
theorem cdbl_next (O b j : Nat) : cdbl O b (j + 1) = (2 * (O / 65536 ^ j % 65536) + cdbl O b j) / 65536 := by
  have hp : 0 < 65536 ^ j := Nat.pow_pos (by decide)
  unfold cdbl
  rw [Nat.pow_succ, Nat.mod_mul, ← Nat.div_div_eq_div_mul]
  congr 1
  have e : 2 * (O % 65536 ^ j + 65536 ^ j * (O / 65536 ^ j % 65536)) + b = (2 * (O % 65536 ^ j) + b) + 65536 ^ j * (2 * (O / 65536 ^ j % 65536)) := by
    rw [Nat.mul_add, Nat.mul_left_comm]; omega
  rw [e, Nat.add_mul_div_left _ _ hp]
  omega
theorem dbl_digit (O b j : Nat) : (2 * O + b) / 65536 ^ j % 65536 = (2 * (O / 65536 ^ j % 65536) + cdbl O b j) % 65536 := by
  have hp : 0 < 65536 ^ j := Nat.pow_pos (by decide)
  have e : 2 * O + b = (2 * (O % 65536 ^ j) + b) + 65536 ^ j * (2 * (O / 65536 ^ j)) := by
    have h := Nat.mod_add_div O (65536 ^ j)
    rw [Nat.mul_left_comm]
    generalize 65536 ^ j * (O / 65536 ^ j) = t at *
    omega
  have h : (2 * O + b) / 65536 ^ j = 2 * (O / 65536 ^ j) + cdbl O b j := by
    unfold cdbl
    conv => lhs; rw [e, Nat.add_mul_div_left _ _ hp]
    omega
  rw [h]
  generalize O / 65536 ^ j = a, cdbl O b j = c
  omega
theorem cdbl_le {O b j : Nat} (hb : b ≤ 1) : cdbl O b j ≤ 1 := by
  have hp : 0 < 65536 ^ j := Nat.pow_pos (by decide)
  have h1 := Nat.mod_lt O hp
  unfold cdbl
  have : (2 * (O % 65536 ^ j) + b) / 65536 ^ j < 2 := by
    rw [Nat.div_lt_iff_lt_mul hp]; omega
  omega
/-- What stands there behind y bits of the byte b. -/
def rbit (R b y : Nat) : Nat := (R * 2 ^ y + b / 2 ^ (8 - y)) % qq
theorem rbit_lt (R b y : Nat) : rbit R b y < qq := Nat.mod_lt _ (by decide)
theorem rbit_zero {R b : Nat} (hR : R < qq) (hb : b < 256) : rbit R b 0 = R := by
  unfold rbit
  rw [Nat.pow_zero, Nat.mul_one, Nat.sub_zero, Nat.div_eq_of_lt hb, Nat.add_zero, Nat.mod_eq_of_lt hR]
theorem rbit_next {R b y : Nat} (hy : y < 8) : rbit R b (y + 1) = (2 * rbit R b y + b / 2 ^ (7 - y) % 2) % qq := by
  have e1 : b / 2 ^ (8 - y) = b / 2 ^ (7 - y) / 2 := by
    rw [Nat.div_div_eq_div_mul, ← Nat.pow_succ]; congr 2; omega
  unfold rbit
  rw [show 8 - (y + 1) = 7 - y by omega, e1, Nat.pow_succ, show R * (2 ^ y * 2) = 2 * (R * 2 ^ y) by rw [← Nat.mul_assoc, Nat.mul_comm]]
  generalize b / 2 ^ (7 - y) = t
  generalize R * 2 ^ y = s at *
  have h1 : (2 * ((s + t / 2) % qq) + t % 2) % qq = (2 * (s + t / 2) + t % 2) % qq := by
    rw [Nat.add_mod, Nat.mul_mod_mod, ← Nat.add_mod]
  rw [h1]
  congr 1
  omega
theorem rbit_end (R b : Nat) : rbit R b 8 = (R * 256 + b) % qq := by
  unfold rbit
  rw [Nat.sub_self, Nat.pow_zero, Nat.div_one]
theorem rbit_v_lt {R b y : Nat} : 2 * rbit R b y + b / 2 ^ (7 - y) % 2 < 2 * qq := by
  have h1 := rbit_lt R b y
  have h2 := Nat.mod_lt (b / 2 ^ (7 - y)) (show 0 < 2 by decide)
  omega
theorem two_qq : 2 * qq < RR := by decide +kernel
theorem qq28 : qq < 65536 ^ 28 := by decide +kernel
theorem rbit_RR {R b y : Nat} : 2 * rbit R b y + b / 2 ^ (7 - y) % 2 < 65536 ^ 28 := by rw [RR_pow]; exact Nat.lt_trans rbit_v_lt two_qq
theorem rbit_sub {R b y : Nat} (hy : y < 8) (h : qq ≤ 2 * rbit R b y + b / 2 ^ (7 - y) % 2) : 2 * rbit R b y + b / 2 ^ (7 - y) % 2 - qq = rbit R b (y + 1) := by
  have := rbit_v_lt (R := R) (b := b) (y := y)
  rw [rbit_next hy, Nat.mod_eq_sub_mod (a := 2 * rbit R b y + b / 2 ^ (7 - y) % 2) (b := qq) h, Nat.mod_eq_of_lt (a := _ - qq) (by omega)]
theorem rbit_keep {R b y : Nat} (hy : y < 8) (h : 2 * rbit R b y + b / 2 ^ (7 - y) % 2 < qq) : 2 * rbit R b y + b / 2 ^ (7 - y) % 2 = rbit R b (y + 1) := by
  rw [rbit_next hy, Nat.mod_eq_of_lt h]
/-- The x highest bytes. -/
def rtop (bs : List Nat) (x : Nat) : Nat := dval 256 (bs.drop (bs.length - x)) % qq
theorem rtop_lt (bs : List Nat) (x : Nat) : rtop bs x < qq := Nat.mod_lt _ (by decide)
theorem rtop_zero (bs : List Nat) : rtop bs 0 = 0 := by unfold rtop; rw [Nat.sub_zero, List.drop_length]; rfl
theorem rtop_next {bs : List Nat} {x : Nat} (hx : x < bs.length) : rbit (rtop bs x) (bs.getD (bs.length - 1 - x) 0) 8 = rtop bs (x + 1) := by
  rw [rbit_end]
  have e : bs.drop (bs.length - (x + 1)) = bs.getD (bs.length - 1 - x) 0 :: bs.drop (bs.length - x) := by
    have h : bs.length - (x + 1) < bs.length := by omega
    rw [List.drop_eq_getElem_cons h]
    congr 1
    · rw [List.getD_eq_getElem?_getD, show bs.length - 1 - x = bs.length - (x + 1) by omega, List.getElem?_eq_getElem h]; rfl
    · congr 1; omega
  unfold rtop
  rw [e, dval, Nat.add_mod, Nat.mod_mul_mod, ← Nat.add_mod, Nat.mul_comm, Nat.add_comm]
theorem rtop_end (bs : List Nat) : rtop bs bs.length = dval 256 bs % qq := by unfold rtop; rw [Nat.sub_self]; rfl
theorem byte_at {cs : List Value} {off n j : Nat} {bs : List Nat} (h : (cs.drop off).take n = bs.map u8V) (hn : bs.length = n) (hj : j < n) : cs[off + j]? = some (.int .u8 ((bs.getD j 0 : Nat) : Int)) := by
  have e : ((cs.drop off).take n)[j]? = cs[off + j]? := by rw [List.getElem?_take_of_lt hj, List.getElem?_drop]
  rw [← e, h, List.getElem?_map, List.getElem?_eq_getElem (by omega), List.getD_eq_getElem?_getD, List.getElem?_eq_getElem (by omega)]
  rfl
theorem getD_256 {bs : List Nat} (h : ∀ b ∈ bs, b < 256) (j : Nat) : bs.getD j 0 < 256 := by
  rw [List.getD_eq_getElem?_getD]
  cases hj : bs[j]? with
  | none => decide
  | some a => exact h a (List.mem_of_getElem? hj)
theorem reduce_ct {M : Mem} {il gl Tl off n c : Nat} {cs : List Value} {bs : List Nat} (hl : M[il]? = some ⟨gl, Tl, cs⟩) (hcs : (cs.drop off).take n = bs.map u8V) (hbn : bs.length = n) (hb : ∀ b ∈ bs, b < 256) (hn : n < 4611686018427387904) : Ct Try.prog 13 #[.slice (some ⟨gl, off, none⟩) n c] M (Det (.agg (N (dval 256 bs % qq)).toArray) M) := by
  refine ct_of (vs := [.slice (some ⟨gl, off, none⟩) n c]) Try.func13 rfl Try.ntmps13 rfl fun w0 => ?_
  refine at_seq ?_
  refine at_region ?_
  refine at_n rfl rfl (opr_alloc rfl zero27 rfl) ?_
  intro g0
  refine at_nil ?_
  refine at_then ?_
  refine at_seq ?_
  refine at_region ?_
  refine at_d rfl rfl (opr_buildE (ds := N 0) rfl rfl builtn27 rfl) ?_
  refine at_n rfl rfl (opr_alloc rfl zero27 rfl) ?_
  intro g1
  refine at_d rfl rfl (opr_store (i := 0) rfl rfl rfl rfl rfl size27 (N_length _) (by rw [N_length]; decide) (N_flat _) N_over) ?_
  refine at_nil ?_
  refine at_then ?_
  refine at_seq ?_
  refine at_seq ?_
  refine at_region ?_
  refine at_d rfl rfl (opr_move rfl rfl) ?_
  refine at_d rfl rfl (opr_lenS rfl rfl Try.underlying44) ?_
  refine at_d rfl rfl (opr_subIZ (c := (n : Int) - 1 - ((0 : Nat) : Int)) rfl rfl rfl (by omega) (by omega) (by omega)) ?_
  refine at_d rfl rfl (opr_assign rfl rfl) ?_
  refine at_nil ?_
  refine at_then ?_
  refine at_block ?_
  refine at_loop (fun (x : Nat) => [(0, .slice (some ⟨gl, off, none⟩) n c), (2, .pointer (some ⟨g0, 0, none⟩)), (3, .pointer (some ⟨g1, 0, none⟩)), (4, .int .i64 ((n : Int) - 1 - (x : Int)))]) (fun (x : Nat) => ⟨g1, 27, N (rtop bs x)⟩ :: ⟨g0, 27, N (0)⟩ :: M) (fun (x : Nat) => n - x) (fun (x : Nat) => x ≤ n) 0 (Nat.zero_le _) (allIn ⟨rfl, rfl, rfl, rfl, trivial⟩) (by rw [rtop_zero]; exact List.Sublist.refl _) ?_
  intro xk hxk
  dsimp only
  refine at_seq ?_
  refine at_seq ?_
  refine at_region ?_
  refine at_d rfl rfl (opr_move rfl rfl) ?_
  refine at_d rfl rfl (opr_geqZ rfl rfl rfl) ?_
  refine at_nil ?_
  refine at_then ?_
  refine at_cond rfl (fun ht => ?_) (fun ht => ?_)
  ·
    have ht' := of_decide_eq_true ht
    have hx : xk < n := by omega
    have ej : (n : Int) - 1 - (xk : Int) = ((n - 1 - xk : Nat) : Int) := by omega
    have rbn8 : N (rbit (rtop bs xk) (bs.getD (n - 1 - xk) 0) 8) = N (rtop bs (xk + 1)) := by
      subst hbn; rw [rtop_next hx]
    refine at_skip ?_
    refine at_then ?_
    refine at_seq ?_
    refine at_block ?_
    refine at_seq ?_
    refine at_region ?_
    refine at_d rfl rfl (opr_assign rfl rfl) ?_
    refine at_nil ?_
    refine at_then ?_
    refine at_block ?_
    refine at_loop (fun (x : Nat) => [(0, .slice (some ⟨gl, off, none⟩) n c), (2, .pointer (some ⟨g0, 0, none⟩)), (3, .pointer (some ⟨g1, 0, none⟩)), (4, .int .i64 ((n : Int) - 1 - (xk : Int))), (5, .int .i64 (7 - (x : Int)))]) (fun (x : Nat) => ⟨g1, 27, N (rbit (rtop bs xk) (bs.getD (n - 1 - xk) 0) x)⟩ :: ⟨g0, 27, N (0)⟩ :: M) (fun (x : Nat) => 8 - x) (fun (x : Nat) => x ≤ 8) 0 (Nat.zero_le _) (allIn ⟨rfl, rfl, rfl, rfl, rfl, trivial⟩) (by rw [rbit_zero (rtop_lt _ _) (getD_256 hb _)]; exact List.Sublist.refl _) ?_
    intro yk hyk
    dsimp only
    refine at_seq ?_
    refine at_seq ?_
    refine at_region ?_
    refine at_d rfl rfl (opr_move rfl rfl) ?_
    refine at_d rfl rfl (opr_geqZ rfl rfl rfl) ?_
    refine at_nil ?_
    refine at_then ?_
    refine at_cond rfl (fun ht => ?_) (fun ht => ?_)
    ·
      have ht2 := of_decide_eq_true ht
      have hy : yk < 8 := by omega
      have ejy : 7 - (yk : Int) = ((7 - yk : Nat) : Int) := by omega
      have hbt : ((bs.getD (n - 1 - xk) 0) / 2 ^ (7 - yk) % 2) ≤ 1 := by have := Nat.mod_lt ((bs.getD (n - 1 - xk) 0) / 2 ^ (7 - yk)) (show 0 < 2 by decide); omega
      refine at_skip ?_
      refine at_then ?_
      refine at_seq ?_
      refine at_block ?_
      refine at_seq ?_
      refine at_region ?_
      refine at_d rfl rfl (opr_move rfl rfl) ?_
      refine at_d rfl rfl (opr_move rfl rfl) ?_
      refine at_d rfl rfl (opr_indexAddrS (j := (n - 1 - xk)) (off' := off + (n - 1 - xk)) rfl rfl (by exact congrArg (fun n => some (Value.int .i64 n)) ej) Try.underlying44 (by omega) size5 (by omega)) ?_
      refine at_d rfl rfl (opr_load1 (i := il + 2) rfl rfl hl Try.underlying5 rfl (byte_at hcs hbn (by omega))) ?_
      refine at_d rfl rfl (opr_to64 (n := (bs.getD (n - 1 - xk) 0)) rfl rfl Try.underlying5 Try.underlying25 (Nat.lt_trans (getD_256 hb _) (by decide))) ?_
      refine at_d rfl rfl (opr_move rfl rfl) ?_
      refine at_d rfl rfl (opr_shr64 (n := 7 - yk) rfl rfl (by exact congrArg (fun n => some (Value.int .i64 n)) ejy) (by omega)) ?_
      refine at_d rfl rfl (opr_eq' (opr_and64 (b := 1) rfl rfl rfl (Nat.lt_of_le_of_lt (Nat.div_le_self _ _) (Nat.lt_trans (getD_256 hb _) (by decide))) (by decide)) (u64_eq' (Nat.and_one_is_mod _))) ?_
      refine at_d rfl rfl (opr_eq' (opr_assign rfl rfl) (u64_eq' (cdbl_zero (rbit (rtop bs xk) (bs.getD (n - 1 - xk) 0) yk) ((bs.getD (n - 1 - xk) 0) / 2 ^ (7 - yk) % 2)).symm)) ?_
      refine at_nil ?_
      refine at_then ?_
      refine at_seq ?_
      refine at_seq ?_
      refine at_region ?_
      refine at_d rfl rfl (opr_move rfl rfl) ?_
      refine at_nil ?_
      refine at_then ?_
      refine at_block ?_
      refine at_loop (fun (x : Nat) => [(0, .slice (some ⟨gl, off, none⟩) n c), (2, .pointer (some ⟨g0, 0, none⟩)), (3, .pointer (some ⟨g1, 0, none⟩)), (4, .int .i64 ((n : Int) - 1 - (xk : Int))), (5, .int .i64 (7 - (yk : Int))), (6, .int .u64 ((cdbl (rbit (rtop bs xk) (bs.getD (n - 1 - xk) 0) yk) ((bs.getD (n - 1 - xk) 0) / 2 ^ (7 - yk) % 2) x : Nat) : Int)), (29, .int .i64 (x : Int))]) (fun (x : Nat) => ⟨g1, 27, W ((mixl (digs 65536 28 (2 * (rbit (rtop bs xk) (bs.getD (n - 1 - xk) 0) yk) + ((bs.getD (n - 1 - xk) 0) / 2 ^ (7 - yk) % 2))) (digs 65536 28 (rbit (rtop bs xk) (bs.getD (n - 1 - xk) 0) yk)) x))⟩ :: ⟨g0, 27, N (0)⟩ :: M) (fun (x : Nat) => 28 - x) (fun (x : Nat) => x ≤ 28) 0 (Nat.zero_le _) (allIn ⟨rfl, rfl, rfl, rfl, rfl, rfl, rfl, trivial⟩) (by rw [mixl_zero]; exact List.Sublist.refl _) ?_
      intro j hjl
      dsimp only
      refine at_seq ?_
      refine at_region ?_
      refine at_d rfl rfl (opr_lss (a := j) (b := 28) rfl rfl rfl) ?_
      refine at_nil ?_
      refine at_then ?_
      refine at_seq ?_
      refine at_cond rfl (fun ht => ?_) (fun ht => ?_)
      ·
        have hj : j < 28 := of_decide_eq_true ht
        refine at_skip ?_
        refine at_then ?_
        refine at_seq ?_
        refine at_block ?_
        refine at_seq ?_
        refine at_region ?_
        refine at_d rfl rfl (opr_move rfl rfl) ?_
        refine at_d rfl rfl (opr_assign rfl rfl) ?_
        refine at_nil ?_
        refine at_then ?_
        refine at_seq ?_
        refine at_region ?_
        refine at_d rfl rfl (opr_move rfl rfl) ?_
        refine at_d rfl rfl (opr_indexAddr (j := j) (off' := j) rfl rfl rfl Try.underlying27 hj size25 (by omega)) ?_
        refine at_d rfl rfl (opr_load1 (i := 0) rfl rfl rfl Try.underlying25 rfl (W_get ((mixl_get (digs_length 65536 28 _) hjl).trans (digs_get 28 (rbit (rtop bs xk) (bs.getD (n - 1 - xk) 0) yk) j hj)))) ?_
        refine at_d rfl rfl (opr_eq' (opr_mul64 (a := 2) rfl rfl rfl) (u64_eq' (Nat.mod_eq_of_lt (by have := Nat.mod_lt ((rbit (rtop bs xk) (bs.getD (n - 1 - xk) 0) yk) / 65536 ^ j) (show 0 < 65536 by decide); omega)))) ?_
        refine at_d rfl rfl (opr_move rfl rfl) ?_
        refine at_d rfl rfl (opr_eq' (opr_add64 (a := 2 * ((rbit (rtop bs xk) (bs.getD (n - 1 - xk) 0) yk) / 65536 ^ j % 65536)) rfl rfl rfl) (u64_eq' (Nat.mod_eq_of_lt (by have := Nat.mod_lt ((rbit (rtop bs xk) (bs.getD (n - 1 - xk) 0) yk) / 65536 ^ j) (show 0 < 65536 by decide); have := cdbl_le (O := (rbit (rtop bs xk) (bs.getD (n - 1 - xk) 0) yk)) (j := j) hbt; omega)))) ?_
        refine at_d rfl rfl (opr_assign rfl rfl) ?_
        refine at_nil ?_
        refine at_then ?_
        refine at_seq ?_
        refine at_region ?_
        refine at_d rfl rfl (opr_move rfl rfl) ?_
        refine at_d rfl rfl (opr_move rfl rfl) ?_
        refine at_d rfl rfl (opr_eq' (opr_rem64 rfl rfl rfl (by decide)) (u64_eq' (dbl_digit (rbit (rtop bs xk) (bs.getD (n - 1 - xk) 0) yk) ((bs.getD (n - 1 - xk) 0) / 2 ^ (7 - yk) % 2) j).symm)) ?_
        refine at_d rfl rfl (opr_indexAddr (j := j) (off' := j) rfl rfl rfl Try.underlying27 hj size25 (by omega)) ?_
        refine at_d rfl rfl (opr_store (i := 0) rfl rfl rfl rfl rfl size25 rfl (by rw [W_length, mixl_length (digs_length 65536 28 _) (digs_length _ _ _) hjl]; omega) flat_one (W_put (by rw [mixl_length (digs_length 65536 28 _) (digs_length _ _ _) hjl]; omega) (mixl_put (digs_length 65536 28 _) (digs_length _ _ _) hj (digs_get 28 (2 * (rbit (rtop bs xk) (bs.getD (n - 1 - xk) 0) yk) + ((bs.getD (n - 1 - xk) 0) / 2 ^ (7 - yk) % 2)) j hj)))) ?_
        refine at_nil ?_
        refine at_then ?_
        refine at_region ?_
        refine at_d rfl rfl (opr_move rfl rfl) ?_
        refine at_d rfl rfl (opr_eq' (opr_quo64 rfl rfl rfl (by decide) (by have := Nat.mod_lt ((rbit (rtop bs xk) (bs.getD (n - 1 - xk) 0) yk) / 65536 ^ j) (show 0 < 65536 by decide); have := cdbl_le (O := (rbit (rtop bs xk) (bs.getD (n - 1 - xk) 0) yk)) (j := j) hbt; omega)) (u64_eq' (cdbl_next (rbit (rtop bs xk) (bs.getD (n - 1 - xk) 0) yk) ((bs.getD (n - 1 - xk) 0) / 2 ^ (7 - yk) % 2) j).symm)) ?_
        refine at_d rfl rfl (opr_assign rfl rfl) ?_
        refine at_nil ?_
        refine at_inBlock_normal ?_
        refine at_then ?_
        refine at_region ?_
        refine at_d rfl rfl (opr_addI (a := j) (b := 1) rfl rfl rfl (by omega)) ?_
        refine at_d rfl rfl (opr_move rfl rfl) ?_
        refine at_nil ?_
        exact at_round (j + 1) (by omega) (by omega) (allIn ⟨rfl, rfl, rfl, rfl, rfl, rfl, rfl, trivial⟩) (List.Sublist.refl _)
      ·
        obtain rfl : j = 28 := by have := of_decide_eq_false ht; omega
        rw [mixl_end (digs_length 65536 28 _) (digs_length _ _ _)]
        refine (show At _ _ (⟨g1, 27, N ((2 * (rbit (rtop bs xk) (bs.getD (n - 1 - xk) 0) yk) + ((bs.getD (n - 1 - xk) 0) / 2 ^ (7 - yk) % 2)))⟩ :: ⟨g0, 27, N (0)⟩ :: _) _ from ?_)
        refine at_exit ?_
        refine at_then_exit ?_
        refine at_then_exit ?_
        refine at_inBlock_same ?_
        refine at_then ?_
        refine at_seq ?_
        refine at_drawQ (by kernel_rfl) (by kernel_rfl) (List.cons_ne_nil _ _) ?_
        refine dr_op rfl rfl (opr_load (i := 0) rfl rfl rfl Try.underlying27 rfl size27 (N_length _) (N_at _)) ?_
        refine dr_op rfl rfl (opr_call rfl rfl rfl Try.func6 (by kernel_rfl) rfl (sOrder_ct)) ?_
        refine dr_op rfl rfl (opr_call rfl rfl rfl Try.func4 (by kernel_rfl) rfl (less_ct rbit_RR qq28)) ?_
        refine dr_last rfl rfl (opr_unOp (u := .bool (!decide ((2 * (rbit (rtop bs xk) (bs.getD (n - 1 - xk) 0) yk) + ((bs.getD (n - 1 - xk) 0) / 2 ^ (7 - yk) % 2)) < qq))) rfl rfl (fun _ => rfl)) ?_
        refine ⟨rfl, ?_⟩
        refine at_then ?_
        refine at_cond rfl (fun ht => ?_) (fun ht => ?_)
        ·
          have hge : qq ≤ (2 * (rbit (rtop bs xk) (bs.getD (n - 1 - xk) 0) yk) + ((bs.getD (n - 1 - xk) 0) / 2 ^ (7 - yk) % 2)) := by simpa using ht
          refine at_draw (by kernel_rfl) (by kernel_rfl) (by kernel_rfl) (List.cons_ne_nil _ _) ?_
          refine dr_op rfl rfl (opr_load (i := 0) rfl rfl rfl Try.underlying27 rfl size27 (N_length _) (N_at _)) ?_
          refine dr_op rfl rfl (opr_call rfl rfl rfl Try.func6 (by kernel_rfl) rfl (sOrder_ct)) ?_
          refine dr_op rfl rfl (opr_call rfl rfl rfl Try.func15 (by kernel_rfl) rfl (minus_ct rbit_RR hge)) ?_
          refine dr_last rfl rfl (opr_store (i := 0) rfl rfl rfl rfl rfl size27 (N_length _) (by rw [N_length]; decide) (N_flat _) N_over) ?_
          rw [rbit_sub hy hge]
          refine at_inBlock_normal ?_
          refine at_then ?_
          refine at_region ?_
          refine at_d rfl rfl (opr_move rfl rfl) ?_
          refine at_d rfl rfl (opr_subIZ (c := 7 - ((yk + 1 : Nat) : Int)) rfl rfl rfl (by omega) (by omega) (by omega)) ?_
          refine at_d rfl rfl (opr_assign rfl rfl) ?_
          refine at_nil ?_
          exact at_round (yk + 1) (by omega) (by omega) (allIn ⟨rfl, rfl, rfl, rfl, rfl, trivial⟩) (List.Sublist.refl _)
        ·
          have hlt : (2 * (rbit (rtop bs xk) (bs.getD (n - 1 - xk) 0) yk) + ((bs.getD (n - 1 - xk) 0) / 2 ^ (7 - yk) % 2)) < qq := by simpa using ht
          rw [rbit_keep hy hlt]
          refine at_skip ?_
          refine at_inBlock_normal ?_
          refine at_then ?_
          refine at_region ?_
          refine at_d rfl rfl (opr_move rfl rfl) ?_
          refine at_d rfl rfl (opr_subIZ (c := 7 - ((yk + 1 : Nat) : Int)) rfl rfl rfl (by omega) (by omega) (by omega)) ?_
          refine at_d rfl rfl (opr_assign rfl rfl) ?_
          refine at_nil ?_
          exact at_round (yk + 1) (by omega) (by omega) (allIn ⟨rfl, rfl, rfl, rfl, rfl, trivial⟩) (List.Sublist.refl _)
    ·
      have ht2 := of_decide_eq_false ht
      obtain rfl : yk = 8 := by omega
      refine at_exit ?_
      refine at_then_exit ?_
      refine at_then_exit ?_
      refine at_inBlock_same ?_
      refine at_inBlock_normal ?_
      refine at_then ?_
      refine at_region ?_
      refine at_d rfl rfl (opr_move rfl rfl) ?_
      refine at_d rfl rfl (opr_subIZ (c := (n : Int) - 1 - ((xk + 1 : Nat) : Int)) rfl rfl rfl (by omega) (by omega) (by omega)) ?_
      refine at_d rfl rfl (opr_assign rfl rfl) ?_
      refine at_nil ?_
      rw [rbn8]
      exact at_round (xk + 1) (by omega) (by omega) (allIn ⟨rfl, rfl, rfl, rfl, trivial⟩) (List.Sublist.refl _)
  ·
    have ht' := of_decide_eq_false ht
    obtain rfl : xk = n := by omega
    refine at_exit ?_
    refine at_then_exit ?_
    refine at_then_exit ?_
    refine at_inBlock_same ?_
    refine at_then ?_
    refine at_seq ?_
    refine at_region ?_
    refine at_d rfl rfl (opr_load (i := 0) rfl rfl rfl Try.underlying27 rfl size27 (N_length _) (N_at _)) ?_
    refine at_d rfl rfl (opr_store (i := 1) rfl rfl rfl rfl rfl size27 (N_length _) (by rw [N_length]; decide) (N_flat _) N_over) ?_
    refine at_nil ?_
    refine at_then ?_
    refine at_ret ?_
    refine done_of (res1 Try.results13 (res_cell (i := 1) rfl rfl Try.underlying27 rfl size27 (N_length _) (N_at _))) ⟨?_, rfl⟩ (by repeat (first | exact List.Sublist.refl _ | apply List.Sublist.cons))
    subst hbn
    rw [rtop_end]
theorem reduce0_ct {M : Mem} {a : Option Addr} {c : Nat} : Ct Try.prog 13 #[.slice a 0 c] M (Det (.agg (N 0).toArray) M) := by
  refine ct_of (vs := [.slice a 0 c]) Try.func13 rfl Try.ntmps13 rfl fun w0 => ?_
  refine at_seq ?_
  refine at_region ?_
  refine at_n rfl rfl (opr_alloc rfl zero27 rfl) ?_
  intro g0
  refine at_nil ?_
  refine at_then ?_
  refine at_seq ?_
  refine at_region ?_
  refine at_d rfl rfl (opr_buildE (ds := N 0) rfl rfl builtn27 rfl) ?_
  refine at_n rfl rfl (opr_alloc rfl zero27 rfl) ?_
  intro g1
  refine at_d rfl rfl (opr_store (i := 0) rfl rfl rfl rfl rfl size27 (N_length _) (by rw [N_length]; decide) (N_flat _) N_over) ?_
  refine at_nil ?_
  refine at_then ?_
  refine at_seq ?_
  refine at_seq ?_
  refine at_region ?_
  refine at_d rfl rfl (opr_move rfl rfl) ?_
  refine at_d rfl rfl (opr_lenS rfl rfl Try.underlying44) ?_
  refine at_d rfl rfl (opr_subIZ (c := -1) rfl rfl rfl (by decide) (by decide) rfl) ?_
  refine at_d rfl rfl (opr_assign rfl rfl) ?_
  refine at_nil ?_
  refine at_then ?_
  refine at_block ?_
  refine at_loop (fun (x : Nat) => [(2, .pointer (some ⟨g0, 0, none⟩)), (3, .pointer (some ⟨g1, 0, none⟩)), (4, .int .i64 (-1))]) (fun (x : Nat) => ⟨g1, 27, N (0)⟩ :: ⟨g0, 27, N (0)⟩ :: M) (fun (x : Nat) => 1 - x) (fun (x : Nat) => x = 0) 0 rfl (allIn ⟨rfl, rfl, rfl, trivial⟩) (List.Sublist.refl _) ?_
  intro xk hxk
  dsimp only
  refine at_seq ?_
  refine at_seq ?_
  refine at_region ?_
  refine at_d rfl rfl (opr_move rfl rfl) ?_
  refine at_d rfl rfl (opr_eq' (v' := .bool false) (opr_geqZ rfl rfl rfl) rfl) ?_
  refine at_nil ?_
  refine at_then ?_
  refine at_cond_false rfl ?_
  refine at_exit ?_
  refine at_then_exit ?_
  refine at_then_exit ?_
  refine at_inBlock_same ?_
  refine at_then ?_
  refine at_seq ?_
  refine at_region ?_
  refine at_d rfl rfl (opr_load (i := 0) rfl rfl rfl Try.underlying27 rfl size27 (N_length _) (N_at _)) ?_
  refine at_d rfl rfl (opr_store (i := 1) rfl rfl rfl rfl rfl size27 (N_length _) (by rw [N_length]; decide) (N_flat _) N_over) ?_
  refine at_nil ?_
  refine at_then ?_
  refine at_ret ?_
  refine done_of (res1 Try.results13 (res_cell (i := 1) rfl rfl Try.underlying27 rfl size27 (N_length _) (N_at _))) ⟨rfl, rfl⟩ (by repeat (first | exact List.Sublist.refl _ | apply List.Sublist.cons))
end Go.Proofs.Ytoagfplhcimghaa
