/- X448: the ladder of the package and of the reference. -/
import Derived.Test.YtkjfongekklabaaDoorStepL
import Derived.Test.YtkjfongekklabaaDoorClamp
namespace Go.Proofs.YtkjfongekklabaaDoor
open Go
set_option maxRecDepth 100000
theorem zero54 : (Tryd.prog.info? 54).bind (·.zero) = some (.agg (EE [0]).toArray) := by kernel_rfl
/-- Bit i of a number. -/
def bitN (a i : Nat) : Nat := a / 2 ^ i % 2
theorem bitN_or (a i : Nat) : bitN a i = 0 ∨ bitN a i = 1 := by unfold bitN; omega
theorem part_bit {x w r : Nat} (h : r < w) : x % 2 ^ w / 2 ^ r % 2 = x / 2 ^ r % 2 := by
  have e : 2 ^ w = 2 ^ r * 2 ^ (w - r) := by rw [← Nat.pow_add]; congr 1; omega
  rw [e, Nat.mod_mul_right_div_self]
  exact Nat.mod_mod_of_dvd _ ⟨2 ^ (w - r - 1), by rw [← Nat.pow_succ']; congr 1; omega⟩
theorem bit16 (a i : Nat) : (a / 65536 ^ (i / 16) % 65536 / 2 ^ (i % 16)) &&& 1 = bitN a i := by
  rw [Nat.and_one_is_mod, show (65536 : Nat) = 2 ^ 16 from rfl, part_bit (Nat.mod_lt _ (by decide)), ← Nat.pow_mul, Nat.div_div_eq_div_mul, ← Nat.pow_add, Nat.div_add_mod]; rfl
theorem bit8 (a i : Nat) : (a / 256 ^ (i / 8) % 256 / 2 ^ (i % 8)) &&& 1 = bitN a i := by
  rw [Nat.and_one_is_mod, show (256 : Nat) = 2 ^ 8 from rfl, part_bit (Nat.mod_lt _ (by decide)), ← Nat.pow_mul, Nat.div_div_eq_div_mul, ← Nat.pow_add, Nat.div_add_mod]; rfl
theorem opr_and8 {P : Program} {St : Slots} {M : Mem} {o : Oper} {x y : Operand} {T T' a b : Nat} (ho : o.op = .binOp .and T x y T') (hx : evalS St x = some (.int .u8 (a : Int))) (hy : evalS St y = some (.int .u8 (b : Int))) (ha : a < 256) (hb : b < 256) : OpR P St M o (Det (.int .u8 ((a &&& b : Nat) : Int)) M) := by
  have h := opr_binOp (P := P) (M := M) (v := .int .u8 (bits .and .u8 (a : Int) (b : Int))) ho hx hy (fun _ => rfl)
  rw [u8_and_nat a b ha hb] at h; exact h
theorem u8_eq {a b : Nat} (h : a = b) : Value.int .u8 (a : Int) = Value.int .u8 (b : Int) := congrArg (fun n : Nat => Value.int .u8 (n : Int)) h
theorem bitN_lt (a i B : Nat) (h : 2 ≤ B) : bitN a i < B := by unfold bitN; omega
theorem div_lt8 {x n : Nat} (h : x < 256) : x / 2 ^ n < 256 := Nat.lt_of_le_of_lt (Nat.div_le_self _ _) h
/-! ### Powers, bit by bit -/
noncomputable def powp (a e : Nat) : Nat := Classical.choose (⟨a ^ e % pp, rfl⟩ : ∃ y, y = a ^ e % pp)
theorem powp_eq (a e : Nat) : powp a e = a ^ e % pp := Classical.choose_spec (⟨a ^ e % pp, rfl⟩ : ∃ y, y = a ^ e % pp)
theorem powp_lt (a e : Nat) : powp a e < pp := by rw [powp_eq]; exact Nat.mod_lt _ (by decide)
theorem powp_RR (a e : Nat) : powp a e < RR := Nat.lt_trans (powp_lt a e) RR_pp
theorem powp_of {a e y : Nat} (h : Pw a e y) (hy : y < pp) : y = powp a e := by rw [powp_eq, ← h.2, Nat.mod_eq_of_lt hy]
theorem powp_inv (a : Nat) : powp a (pp - 2) = invp a := by rw [powp_eq, invp_eq]
def topn (n e k : Nat) : Nat := e / 2 ^ (n - k)
def tops (e k : Nat) : Nat := topn 448 e k
theorem topn_bit {n e k : Nat} (hk : k < n) : topn n e (k + 1) = 2 * topn n e k + bitN e (n - 1 - k) := by
  unfold topn
  have h1 : n - (k + 1) = n - 1 - k := by omega
  have h2 : n - k = n - 1 - k + 1 := by omega
  rw [h1, h2, Nat.pow_succ, ← Nat.div_div_eq_div_mul, bitN]
  omega
theorem half_bit {e k : Nat} (hk : k < 448) : tops e (k + 1) = 2 * tops e k + bitN e (447 - k) := topn_bit hk
theorem pow_bit1 {a e k y : Nat} (hk : k < 448) (hb : bitN e (447 - k) = 1) (ha : a < RR) (h : Pw a (tops e k) y) : Pw a (tops e (k + 1)) (y * y % pp * a % pp) := by
  rw [half_bit hk, hb]
  exact pw_mul (pw_sqr h (modp_lt _) (Nat.mod_mod _ _)) (pw_one ha) (modp_lt _) (Nat.mod_mod _ _)
theorem pow_bit0 {a e k y : Nat} (hk : k < 448) (hb : ¬ bitN e (447 - k) = 1) (h : Pw a (tops e k) y) : Pw a (tops e (k + 1)) (y * y % pp) := by
  have := bitN_or e (447 - k)
  rw [half_bit hk, show bitN e (447 - k) = 0 by omega, Nat.add_zero]
  exact pw_sqr h (modp_lt _) (Nat.mod_mod _ _)
theorem big_pow {w a m k n : Nat} (hw : w = a ^ m) (hn : n = m * k) : w ^ k = a ^ n := by
  subst hw
  subst hn
  rw [Nat.pow_mul]
theorem topn_zero {n e : Nat} (hn : n = 448) (h : e < RR) : topn n e 0 = 0 := by
  have h1 : 65536 ^ 28 = 2 ^ n := big_pow (m := 16) rfl (hn.trans rfl)
  rw [topn, Nat.sub_zero, ← h1]
  exact Nat.div_eq_of_lt (RR_pow ▸ h)
theorem tops_zero {e : Nat} (he : e < RR) : tops e 0 = 0 := topn_zero rfl he
theorem topn_end (n e : Nat) : topn n e n = e := by rw [topn, Nat.sub_self, Nat.pow_zero, Nat.div_one]
theorem pow_begin {a e : Nat} (he : e < RR) : Pw a (tops e 0) 1 := by
  rw [tops_zero he]
  exact ⟨RR_one, by rw [Nat.pow_zero]⟩
theorem pow_done {a e y : Nat} (h : Pw a (tops e 448) y) : Pw a e y := pw_cast h (topn_end 448 e)
/-! ### The ladder -/
def selF (t : Nat) (a b : Fin pp) : Fin pp := if t = 1 then b else a
theorem el_sel (t a b : Nat) : el (sel t a b) = selF t (el a) (el b) := by unfold sel selF; split <;> rfl
inductive Lad (s : Nat) (u : Fin pp) : Nat → Nat → Fin pp → Fin pp → Fin pp → Fin pp → Prop
  | zero : Lad s u 0 0 1 0 u 1
  | succ {k l : Nat} {a b c d r1 r2 r3 r4 : Fin pp} : Lad s u k l a b c d → StepEl u (selF (bitN s (447 - k) ^^^ l) a c) (selF (bitN s (447 - k) ^^^ l) b d) (selF (bitN s (447 - k) ^^^ l) c a) (selF (bitN s (447 - k) ^^^ l) d b) r1 r2 r3 r4 →
    Lad s u (k + 1) (bitN s (447 - k)) r1 r2 r3 r4
theorem Lad.det {s : Nat} {u : Fin pp} : ∀ {k l l' : Nat} {a b c d a' b' c' d' : Fin pp}, Lad s u k l a b c d → Lad s u k l' a' b' c' d' → l = l' ∧ a = a' ∧ b = b' ∧ c = c' ∧ d = d' := by
  intro k
  induction k with
  | zero =>
    intro l l' a b c d a' b' c' d' h h'
    cases h
    cases h'
    exact ⟨rfl, rfl, rfl, rfl, rfl⟩
  | succ k ih =>
    intro l l' a b c d a' b' c' d' h h'
    cases h with
    | succ h1 h2 =>
      cases h' with
      | succ h3 h4 =>
        obtain ⟨rfl, rfl, rfl, rfl, rfl⟩ := ih h1 h3
        exact ⟨rfl, h2.d.h1.trans h4.d.h1.symm, h2.d.h2.trans h4.d.h2.symm, h2.h3.trans h4.h3.symm, h2.h4.trans h4.h4.symm⟩
theorem Lad.bit {s : Nat} {u : Fin pp} {k l : Nat} {a b c d : Fin pp} (h : Lad s u (k + 1) l a b c d) : l = bitN s (447 - k) := by cases h; rfl
theorem xor_bit {x y : Nat} (hx : x = 0 ∨ x = 1) (hy : y = 0 ∨ y = 1) : x ^^^ y = 0 ∨ x ^^^ y = 1 := by
  rcases hx with rfl | rfl <;> rcases hy with rfl | rfl <;> decide
theorem lad_step {s k l : Nat} {u : Fin pp} {q0 q1 q2 q3 q4 r1 r2 r3 r4 : Nat} (h0 : el q0 = u) (h : Lad s u k l (el q1) (el q2) (el q3) (el q4))
    (hS : StepEl (el q0) (el (sel (bitN s (447 - k) ^^^ l) q1 q3)) (el (sel (bitN s (447 - k) ^^^ l) q2 q4)) (el (sel (bitN s (447 - k) ^^^ l) q3 q1)) (el (sel (bitN s (447 - k) ^^^ l) q4 q2)) (el r1) (el r2) (el r3) (el r4)) :
    Lad s u (k + 1) (bitN s (447 - k)) (el r1) (el r2) (el r3) (el r4) := by
  rw [el_sel, el_sel, el_sel, el_sel, h0] at hS
  exact .succ h hS
theorem lad_zero (s : Nat) (u : Nat) : Lad s (el u) 0 0 (el 1) (el 0) (el u) (el 1) := .zero
theorem lad_ex (s u : Nat) : ∀ k, ∃ l q1 q2 q3 q4, (l = 0 ∨ l = 1) ∧ Lad s (el u) k l (el q1) (el q2) (el q3) (el q4)
  | 0 => ⟨0, 1, 0, u, 1, .inl rfl, lad_zero s u⟩
  | k + 1 => by
    obtain ⟨l, q1, q2, q3, q4, hl, h⟩ := lad_ex s u k
    obtain ⟨r1, r2, r3, r4, _, _, _, _, _, hS⟩ := stepL_ex u (sel (bitN s (447 - k) ^^^ l) q1 q3) (sel (bitN s (447 - k) ^^^ l) q2 q4) (sel (bitN s (447 - k) ^^^ l) q3 q1) (sel (bitN s (447 - k) ^^^ l) q4 q2)
    exact ⟨_, r1, r2, r3, r4, bitN_or _ _, lad_step rfl h hS⟩
theorem x448_ex (s u : Nat) : ∃ r, ∃ q1 q2 l, ∃ c d, Lad s (el u) 448 l (el q1) (el q2) c d ∧ r = q1 * invp q2 % pp := by
  obtain ⟨l, q1, q2, q3, q4, _, h⟩ := lad_ex s u 448
  exact ⟨_, q1, q2, l, _, _, h, rfl⟩
/-- The function of RFC 7748 of a clamped key and a point. -/
noncomputable def x448N (s u : Nat) : Nat := Classical.choose (x448_ex s u)
theorem x448_of {s u q1 q2 l : Nat} {c d : Fin pp} (h : Lad s (el u) 448 l (el q1) (el q2) c d) : q1 * invp q2 % pp = x448N s u := by
  obtain ⟨p1, p2, l', c', d', h', e⟩ := Classical.choose_spec (x448_ex s u)
  obtain ⟨_, e1, e2, _, _⟩ := h.det h'
  rw [x448N, e, invp_congr (el_eq.1 e2), Nat.mul_mod, el_eq.1 e1, ← Nat.mul_mod]
theorem x448_lt (s u : Nat) : x448N s u < pp := by
  obtain ⟨p1, p2, l', c', d', h', e⟩ := Classical.choose_spec (x448_ex s u)
  rw [x448N, e]; exact Nat.mod_lt _ (by decide)
theorem x448_RR (s u : Nat) : x448N s u < RR := Nat.lt_trans (x448_lt s u) RR_pp
theorem x448_mod (s u : Nat) : x448N s (u % pp) = x448N s u := by
  obtain ⟨p1, p2, l', c', d', h', e⟩ := Classical.choose_spec (x448_ex s (u % pp))
  rw [el_mod] at h'
  rw [← x448_of h']; exact e
theorem clampN_bit (a : Nat) : bitN (clampN a) 0 = 0 := by
  have h : clampN a % 2 = 0 := by
    have e : digs 256 56 a = a % 256 :: digs 256 55 (a / 256) := rfl
    rw [clampN, clampL, e, List.set_cons_zero, List.set_cons_succ, dval, lo4]
    omega
  rw [bitN, Nat.pow_zero, Nat.div_one]; exact h
theorem clamp_idem (a : Nat) : clampN (clampN a) = clampN a := by
  have h1 : digs 256 56 (clampN a) = clampL a := by
    have h := digs_dval (clampL a) (clampL_lt a)
    rw [clampL_length] at h
    exact h
  have g0 : clampN a / 256 ^ 0 % 256 = lo4 (a / 256 ^ 0 % 256) := by
    have k := digs_get (b := 256) 56 (clampN a) 0 (by decide)
    rw [h1, clampL, List.getElem?_set_ne (by decide), List.getElem?_set_self (by rw [digs_length]; decide)] at k
    exact (Option.some.inj k).symm
  have g55 : clampN a / 256 ^ 55 % 256 = hi1 (a / 256 ^ 55 % 256) := by
    have k := digs_get (b := 256) 56 (clampN a) 55 (by decide)
    rw [h1, clampL, List.getElem?_set_self (by rw [List.length_set, digs_length]; decide)] at k
    exact (Option.some.inj k).symm
  have e : clampL (clampN a) = clampL a := by
    conv => lhs; rw [clampL, h1, g0, g55]
    have l0 : lo4 (lo4 (a / 256 ^ 0 % 256)) = lo4 (a / 256 ^ 0 % 256) := by unfold lo4; omega
    have l1 : hi1 (hi1 (a / 256 ^ 55 % 256)) = hi1 (a / 256 ^ 55 % 256) := by unfold hi1; split <;> (try split) <;> omega
    rw [l0, l1, clampL]
    apply List.ext_getElem?
    intro i
    by_cases h55 : i = 55
    · subst h55
      rw [List.getElem?_set_self (by simp [digs_length]), List.getElem?_set_self (by simp [digs_length])]
    · rw [List.getElem?_set_ne (fun e => h55 e.symm)]
      by_cases h0 : i = 0
      · subst h0
        rw [List.getElem?_set_self (by simp [digs_length]), List.getElem?_set_ne (by decide), List.getElem?_set_self (by simp [digs_length])]
      · rw [List.getElem?_set_ne (fun e => h0 e.symm)]
  unfold clampN at e ⊢
  rw [e]
theorem bit_ct {M : Mem} {a i : Nat} (hi : i < 448) : Ct Tryd.prog 46 #[.agg (N a).toArray, .int .i64 (i : Int)] M (Det (.int .u64 ((bitN a i : Nat) : Int)) M) := by
  refine ct_of (vs := [.agg (N a).toArray, .int .i64 (i : Int)]) Tryd.func46 rfl Tryd.ntmps46 rfl fun w0 => ?_
  refine at_seq ?_
  refine at_region ?_
  refine at_n rfl rfl (opr_box rfl rfl rfl) ?_
  intro g0
  refine at_d rfl rfl (opr_assign rfl rfl) ?_
  refine at_nil ?_
  refine at_then ?_
  refine at_seq ?_
  refine at_region ?_
  refine at_d rfl rfl (opr_move rfl rfl) ?_
  refine at_d rfl rfl (opr_quoI (a := i) (b := 16) rfl rfl rfl (by decide) (by omega)) ?_
  refine at_d rfl rfl (opr_indexAddr (j := i / 16) (off' := i / 16) rfl rfl rfl Tryd.underlying25 (by omega) size23 (by omega)) ?_
  refine at_d rfl rfl (opr_load1 (i := 0) rfl rfl rfl Tryd.underlying23 rfl (W_get (digs_get 28 a (i / 16) (by omega)))) ?_
  refine at_d rfl rfl (opr_move rfl rfl) ?_
  refine at_d rfl rfl (opr_remI (a := i) (b := 16) rfl rfl rfl (by decide)) ?_
  refine at_d rfl rfl (opr_shr64 (n := i % 16) rfl rfl rfl (by omega)) ?_
  refine at_d rfl rfl (opr_eq (opr_and64 (b := 1) rfl rfl rfl (Nat.lt_of_le_of_lt (Nat.div_le_self _ _) (Nat.lt_trans (Nat.mod_lt _ (by decide)) (by decide))) (by decide)) (u64_eq (bit16 a i))) ?_
  refine at_d rfl rfl (opr_assign rfl rfl) ?_
  refine at_nil ?_
  refine at_then ?_
  refine at_ret ?_
  refine done_of (res1 Tryd.results46 (res_tmp rfl)) ⟨rfl, rfl⟩ (by repeat (first | exact List.Sublist.refl _ | apply List.Sublist.cons))
theorem power_ct {M : Mem} {a e : Nat} (ha : a < RR) (he : e < RR) : Ct Tryd.prog 63 #[.agg (N a).toArray, .agg (N e).toArray] M (Det (.agg (N (powp a e)).toArray) M) := by
  refine ct_of (vs := [.agg (N a).toArray, .agg (N e).toArray]) Tryd.func63 rfl Tryd.ntmps63 rfl fun w0 => ?_
  refine at_seq ?_
  refine at_region ?_
  refine at_n rfl rfl (opr_box rfl rfl rfl) ?_
  intro g0
  refine at_n rfl rfl (opr_box rfl rfl rfl) ?_
  intro g1
  refine at_n rfl rfl (opr_alloc rfl zero25 rfl) ?_
  intro g2
  refine at_nil ?_
  refine at_then ?_
  refine at_seq ?_
  refine at_region ?_
  refine at_d rfl rfl (opr_call rfl rfl rfl Tryd.func23 (by kernel_rfl) rfl (small_ct (c := 1) (by decide))) ?_
  refine at_n rfl rfl (opr_alloc rfl zero25 rfl) ?_
  intro g3
  refine at_d rfl rfl (opr_store (i := 0) rfl rfl rfl rfl rfl size25 (N_length _) (by rw [N_length]; decide) (N_flat _) N_over) ?_
  refine at_nil ?_
  refine at_then ?_
  refine at_seq ?_
  refine at_seq ?_
  refine at_region ?_
  refine at_d rfl rfl (opr_assign rfl rfl) ?_
  refine at_nil ?_
  refine at_then ?_
  refine at_block ?_
  refine at_loop2 (fun (x : Nat) (y : Nat) => [(2, .pointer (some ⟨g0, 0, none⟩)), (3, .pointer (some ⟨g1, 0, none⟩)), (4, .pointer (some ⟨g2, 0, none⟩)), (5, .pointer (some ⟨g3, 0, none⟩)), (6, .int .i64 (447 - (x : Int)))]) (fun (x : Nat) (y : Nat) => ⟨g3, 25, N (y)⟩ :: ⟨g2, 25, N (0)⟩ :: ⟨g1, 25, N (e)⟩ :: ⟨g0, 25, N (a)⟩ :: M) (fun (x : Nat) (y : Nat) => 448 - x) (fun (x : Nat) (y : Nat) => x ≤ 448 ∧ y < pp ∧ Pw a (tops e x) y) 0 1 ⟨Nat.zero_le _, by decide, pow_begin he⟩ (allIn ⟨rfl, rfl, rfl, rfl, rfl, trivial⟩) (List.Sublist.refl _) ?_
  rintro k y ⟨hk, hy, hP⟩
  dsimp only
  refine at_seq ?_
  refine at_seq ?_
  refine at_region ?_
  refine at_d rfl rfl (opr_move rfl rfl) ?_
  refine at_d rfl rfl (opr_geqZ rfl rfl rfl) ?_
  refine at_nil ?_
  refine at_then ?_
  refine at_cond rfl (fun ht => ?_) (fun ht => ?_)
  ·
    have hk0 := of_decide_eq_true ht
    have hlt : k < 448 := by omega
    have ej : 447 - (k : Int) = ((447 - k : Nat) : Int) := by omega
    refine at_skip ?_
    refine at_then ?_
    refine at_seq ?_
    refine at_block ?_
    refine at_seq ?_
    refine at_region ?_
    refine at_d rfl rfl (opr_load (i := 0) rfl rfl rfl Tryd.underlying25 rfl size25 (N_length _) (N_at _)) ?_
    refine at_d rfl rfl (opr_load (i := 0) rfl rfl rfl Tryd.underlying25 rfl size25 (N_length _) (N_at _)) ?_
    refine at_d rfl rfl (opr_call rfl rfl rfl Tryd.func22 (by kernel_rfl) rfl (sMul_ct (Nat.lt_trans hy RR_pp) (Nat.lt_trans hy RR_pp))) ?_
    refine at_d rfl rfl (opr_store (i := 0) rfl rfl rfl rfl rfl size25 (N_length _) (by rw [N_length]; decide) (N_flat _) N_over) ?_
    refine at_nil ?_
    refine at_then ?_
    refine at_seq ?_
    refine at_region ?_
    refine at_d rfl rfl (opr_load (i := 2) rfl rfl rfl Tryd.underlying25 rfl size25 (N_length _) (N_at _)) ?_
    refine at_d rfl rfl (opr_move rfl rfl) ?_
    refine at_d rfl rfl (opr_call rfl rfl (by exact congrArg (fun n => some [Value.agg (N (e)).toArray, Value.int .i64 n]) ej) Tryd.func46 (by kernel_rfl) rfl (bit_ct (a := e) (i := 447 - k) (by omega))) ?_
    refine at_d rfl rfl (opr_eql (a := bitN e (447 - k)) (b := 1) rfl rfl rfl) ?_
    refine at_nil ?_
    refine at_then ?_
    refine at_cond rfl (fun hb => ?_) (fun hb => ?_)
    ·
      have hb1 := of_decide_eq_true hb
      refine at_region ?_
      refine at_d rfl rfl (opr_load (i := 0) rfl rfl rfl Tryd.underlying25 rfl size25 (N_length _) (N_at _)) ?_
      refine at_d rfl rfl (opr_load (i := 3) rfl rfl rfl Tryd.underlying25 rfl size25 (N_length _) (N_at _)) ?_
      refine at_d rfl rfl (opr_call rfl rfl rfl Tryd.func22 (by kernel_rfl) rfl (sMul_ct (modp_lt _) ha)) ?_
      refine at_d rfl rfl (opr_store (i := 0) rfl rfl rfl rfl rfl size25 (N_length _) (by rw [N_length]; decide) (N_flat _) N_over) ?_
      refine at_nil ?_
      refine at_inBlock_normal ?_
      refine at_then ?_
      refine at_region ?_
      refine at_d rfl rfl (opr_move rfl rfl) ?_
      refine at_d rfl rfl (opr_subIZ (c := 447 - ((k + 1 : Nat) : Int)) rfl rfl rfl (by omega) (by omega) (by omega)) ?_
      refine at_d rfl rfl (opr_assign rfl rfl) ?_
      refine at_nil ?_
      exact at_round2 (k + 1) (y * y % pp * a % pp) ⟨by omega, Nat.mod_lt _ (by decide), pow_bit1 hlt hb1 ha hP⟩ (by omega) (allIn ⟨rfl, rfl, rfl, rfl, rfl, trivial⟩) (List.Sublist.refl _)
    ·
      have hb1 := of_decide_eq_false hb
      refine at_skip ?_
      refine at_inBlock_normal ?_
      refine at_then ?_
      refine at_region ?_
      refine at_d rfl rfl (opr_move rfl rfl) ?_
      refine at_d rfl rfl (opr_subIZ (c := 447 - ((k + 1 : Nat) : Int)) rfl rfl rfl (by omega) (by omega) (by omega)) ?_
      refine at_d rfl rfl (opr_assign rfl rfl) ?_
      refine at_nil ?_
      exact at_round2 (k + 1) (y * y % pp) ⟨by omega, Nat.mod_lt _ (by decide), pow_bit0 hlt hb1 hP⟩ (by omega) (allIn ⟨rfl, rfl, rfl, rfl, rfl, trivial⟩) (List.Sublist.refl _)
  ·
    have hk0 := of_decide_eq_false ht
    obtain rfl : k = 448 := by omega
    refine at_exit ?_
    refine at_then_exit ?_
    refine at_then_exit ?_
    refine at_inBlock_same ?_
    refine at_then ?_
    refine at_seq ?_
    refine at_region ?_
    refine at_d rfl rfl (opr_load (i := 0) rfl rfl rfl Tryd.underlying25 rfl size25 (N_length _) (N_at _)) ?_
    refine at_d rfl rfl (opr_store (i := 1) rfl rfl rfl rfl rfl size25 (N_length _) (by rw [N_length]; decide) (N_flat _) N_over) ?_
    refine at_nil ?_
    refine at_then ?_
    refine at_ret ?_
    refine done_of (res1 Tryd.results63 (res_cell (i := 1) rfl rfl Tryd.underlying25 rfl size25 (N_length _) (N_at _))) ⟨?_, rfl⟩ (by repeat (first | exact List.Sublist.refl _ | apply List.Sublist.cons))
    rw [powp_of (pow_done hP) hy]
theorem sInv_ct {M : Mem} {a : Nat} (ha : a < RR) : Ct Tryd.prog 47 #[.agg (N a).toArray] M (Det (.agg (N (invp a)).toArray) M) := by
  refine ct_of (vs := [.agg (N a).toArray]) Tryd.func47 rfl Tryd.ntmps47 rfl fun w0 => ?_
  refine at_seq ?_
  refine at_region ?_
  refine at_n rfl rfl (opr_box rfl rfl rfl) ?_
  intro g0
  refine at_n rfl rfl (opr_alloc rfl zero25 rfl) ?_
  intro g1
  refine at_nil ?_
  refine at_then ?_
  refine at_seq ?_
  refine at_draw (by kernel_rfl) (by kernel_rfl) (by kernel_rfl) (List.cons_ne_nil _ _) ?_
  refine dr_op rfl rfl (opr_load (i := 1) rfl rfl rfl Tryd.underlying25 rfl size25 (N_length _) (N_at _)) ?_
  refine dr_op rfl rfl (opr_call rfl rfl rfl Tryd.func49 (by kernel_rfl) rfl (p_ct)) ?_
  refine dr_op rfl rfl (opr_call rfl rfl rfl Tryd.func23 (by kernel_rfl) rfl (small_ct (c := 2) (by decide))) ?_
  refine dr_op rfl rfl (opr_call rfl rfl rfl Tryd.func50 (by kernel_rfl) rfl (minus_ct (by decide) (by decide))) ?_
  refine dr_op rfl rfl (opr_call rfl rfl rfl Tryd.func63 (by kernel_rfl) rfl (power_ct ha (by decide))) ?_
  refine dr_last rfl rfl (opr_store (i := 0) rfl rfl rfl rfl rfl size25 (N_length _) (by rw [N_length]; decide) (N_flat _) N_over) ?_
  refine at_then ?_
  refine at_ret ?_
  refine done_of (res1 Tryd.results47 (res_cell (i := 0) rfl rfl Tryd.underlying25 rfl size25 (N_length _) (N_at _))) ⟨?_, rfl⟩ (by repeat (first | exact List.Sublist.refl _ | apply List.Sublist.cons))
  rw [powp_inv]
def SpI (s u k l : Nat) (z : List Nat) : Prop := ∃ q0 q1 q2 q3 q4, z = [q0, q1, q2, q3, q4] ∧ q0 < RR ∧ q1 < RR ∧ q2 < RR ∧ q3 < RR ∧ q4 < RR ∧ el q0 = el u ∧ Lad s (el u) k l (el q1) (el q2) (el q3) (el q4)
theorem sX448_ct {M : Mem} {s u : Nat} (hs : s < RR) (hu : u < RR) : Ct Tryd.prog 29 #[.agg (E s).toArray, .agg (E u).toArray] M (Det (.agg (E (x448N (clampN s) u)).toArray) M) := by
  refine ct_of (vs := [.agg (E s).toArray, .agg (E u).toArray]) Tryd.func29 rfl Tryd.ntmps29 rfl fun w0 => ?_
  refine at_seq ?_
  refine at_region ?_
  refine at_n rfl rfl (opr_box (cs := EE [s]) rfl rfl (E_box _)) ?_
  intro g0
  refine at_n rfl rfl (opr_box (cs := EE [u]) rfl rfl (E_box _)) ?_
  intro g1
  refine at_n rfl rfl (opr_alloc rfl zero22 rfl) ?_
  intro g2
  refine at_nil ?_
  refine at_then ?_
  refine at_seq ?_
  refine at_region ?_
  refine at_d rfl rfl (opr_load (i := 2) rfl rfl rfl Tryd.underlying22 rfl size22 (E_length _) (EE_at (k := 0) rfl rfl rfl)) ?_
  refine at_d rfl rfl (opr_call rfl rfl rfl Tryd.func28 (by kernel_rfl) rfl (sClamp_ct)) ?_
  refine at_d rfl rfl (opr_call rfl rfl rfl Tryd.func11 (by kernel_rfl) rfl (of_ct _)) ?_
  refine at_n rfl rfl (opr_alloc rfl zero25 rfl) ?_
  intro g3
  refine at_d rfl rfl (opr_store (i := 0) rfl rfl rfl rfl rfl size25 (N_length _) (by rw [N_length]; decide) (N_flat _) N_over) ?_
  refine at_nil ?_
  refine at_then ?_
  refine at_seq ?_
  refine at_region ?_
  refine at_d rfl rfl (opr_load (i := 2) rfl rfl rfl Tryd.underlying22 rfl size22 (E_length _) (EE_at (k := 0) rfl rfl rfl)) ?_
  refine at_d rfl rfl (opr_call rfl rfl rfl Tryd.func11 (by kernel_rfl) rfl (of_ct _)) ?_
  refine at_n rfl rfl (opr_alloc rfl zero25 rfl) ?_
  intro g4
  refine at_d rfl rfl (opr_store (i := 0) rfl rfl rfl rfl rfl size25 (N_length _) (by rw [N_length]; decide) (N_flat _) N_over) ?_
  refine at_nil ?_
  refine at_then ?_
  refine at_seq ?_
  refine at_drawG (B := [⟨g4, 25, N (u)⟩, ⟨g3, 25, N (clampN s)⟩, ⟨g2, 22, EE [0]⟩, ⟨g1, 22, EE [u]⟩, ⟨g0, 22, EE [s]⟩]) (E := [⟨.pure [0], 0, [], .v (.agg (N (u)).toArray)⟩, ⟨.pure [], 0, [], .v (.agg (N (1)).toArray)⟩, ⟨.pure [], 0, [], .v (.agg (N (0)).toArray)⟩, ⟨.pure [0], 0, [], .v (.agg (N (u)).toArray)⟩, ⟨.pure [], 0, [], .v (.agg (N (1)).toArray)⟩, ⟨.pure [], 0, [], .v (.agg (NN [u, 1, 0, u, 1]).toArray)⟩, ⟨.alloc, 39, NN [0, 0, 0, 0, 0], .p 6 0⟩, ⟨.storeA 6, 0, NN [u, 1, 0, u, 1], .v undef⟩]) (by kernel_rfl) (by kernel_rfl) (by kernel_rfl) (fun γ0 => ?_)
  refine gs_pure rfl rfl (fun M' sB sT => ?_) ?_
  · obtain ⟨iB0, hB0⟩ := sB 0 _ rfl rfl; exact opr_load (i := iB0) rfl rfl hB0 Tryd.underlying25 rfl size25 (N_length _) (N_at _)
  refine gs_pure rfl rfl (fun M' sB sT => ?_) ?_
  · exact opr_call rfl rfl rfl Tryd.func23 (by kernel_rfl) rfl (small_ct (c := 1) (by decide))
  refine gs_pure rfl rfl (fun M' sB sT => ?_) ?_
  · exact opr_buildE rfl rfl built_nz' N_zero'
  refine gs_pure rfl rfl (fun M' sB sT => ?_) ?_
  · obtain ⟨iB0, hB0⟩ := sB 0 _ rfl rfl; exact opr_load (i := iB0) rfl rfl hB0 Tryd.underlying25 rfl size25 (N_length _) (N_at _)
  refine gs_pure rfl rfl (fun M' sB sT => ?_) ?_
  · exact opr_call rfl rfl rfl Tryd.func23 (by kernel_rfl) rfl (small_ct (c := 1) (by decide))
  refine gs_pure rfl rfl (fun M' sB sT => ?_) ?_
  · exact opr_buildE rfl rfl (built_nn [(0, u), (1, 1), (2, 0), (3, u), (4, 1)] rfl) rfl
  refine gs_alloc rfl rfl (fun M' => opr_alloc rfl zero39 rfl) ?_
  refine gs_storeA rfl rfl rfl rfl rfl (fun M' j hj => opr_store (i := j) rfl rfl rfl rfl hj size39 (NN_length _) (by rw [NN_length]; exact Nat.le_of_ble_eq_true rfl) (NN_flat _) (NN_over rfl)) ?_
  refine gs_nil ?_
  refine (show At _ _ (⟨(γ0 6), 39, NN [u, 1, 0, u, 1]⟩ :: ⟨g4, 25, N (u)⟩ :: ⟨g3, 25, N (clampN s)⟩ :: ⟨g2, 22, EE [0]⟩ :: ⟨g1, 22, EE [u]⟩ :: ⟨g0, 22, EE [s]⟩ :: _) _ from ?_)
  refine at_then ?_
  refine at_seq ?_
  refine at_region ?_
  refine at_d rfl rfl (opr_assign rfl rfl) ?_
  refine at_nil ?_
  refine at_then ?_
  refine at_seq ?_
  refine at_seq ?_
  refine at_region ?_
  refine at_d rfl rfl (opr_assign rfl rfl) ?_
  refine at_nil ?_
  refine at_then ?_
  refine at_block ?_
  refine at_loop3 (fun (x : Nat) (y : Nat) (z : List Nat) => [(4, .pointer (some ⟨g2, 0, none⟩)), (5, .pointer (some ⟨g3, 0, none⟩)), (7, .pointer (some ⟨(γ0 6), 0, none⟩)), (8, .int .u64 (y : Int)), (9, .int .i64 (447 - (x : Int)))]) (fun (x : Nat) (y : Nat) (z : List Nat) => ⟨(γ0 6), 39, NN z⟩ :: ⟨g4, 25, N (u)⟩ :: ⟨g3, 25, N (clampN s)⟩ :: ⟨g2, 22, EE [0]⟩ :: ⟨g1, 22, EE [u]⟩ :: ⟨g0, 22, EE [s]⟩ :: M) (fun (x : Nat) (y : Nat) (z : List Nat) => 448 - x) (fun (x : Nat) (y : Nat) (z : List Nat) => x ≤ 448 ∧ (y = 0 ∨ y = 1) ∧ SpI (clampN s) u x y z) 0 0 [u, 1, 0, u, 1] ⟨Nat.zero_le _, .inl rfl, ⟨_, _, _, _, _, rfl, hu, RR_one, RR_zero, hu, RR_one, rfl, lad_zero _ u⟩⟩ (allIn ⟨rfl, rfl, rfl, rfl, rfl, trivial⟩) (List.Sublist.refl _) ?_
  rintro k l z ⟨hk, hl, q0, q1, q2, q3, q4, rfl, h0, h1, h2, h3, h4, he0, hLd⟩
  dsimp only
  refine at_seq ?_
  refine at_seq ?_
  refine at_region ?_
  refine at_d rfl rfl (opr_move rfl rfl) ?_
  refine at_d rfl rfl (opr_geqZ rfl rfl rfl) ?_
  refine at_nil ?_
  refine at_then ?_
  refine at_cond rfl (fun ht => ?_) (fun ht => ?_)
  ·
    have hk0 := of_decide_eq_true ht
    have hlt : k < 448 := by omega
    have ej : 447 - (k : Int) = ((447 - k : Nat) : Int) := by omega
    have hl64 : l < 18446744073709551616 := by omega
    have ht2 := xor_bit (bitN_or (clampN s) (447 - k)) hl
    obtain ⟨p1, p2, p3, p4, hq, lp1, lp2, lp3, lp4, hS⟩ := stepL_ex q0 (sel (bitN (clampN s) (447 - k) ^^^ l) q1 q3) (sel (bitN (clampN s) (447 - k) ^^^ l) q2 q4) (sel (bitN (clampN s) (447 - k) ^^^ l) q3 q1) (sel (bitN (clampN s) (447 - k) ^^^ l) q4 q2)
    refine at_skip ?_
    refine at_then ?_
    refine at_seq ?_
    refine at_block ?_
    refine at_seq ?_
    refine at_region ?_
    refine at_d rfl rfl (opr_load (i := 2) rfl rfl rfl Tryd.underlying25 rfl size25 (N_length _) (N_at _)) ?_
    refine at_d rfl rfl (opr_move rfl rfl) ?_
    refine at_d rfl rfl (opr_call rfl rfl (by exact congrArg (fun n => some [Value.agg (N (clampN s)).toArray, Value.int .i64 n]) ej) Tryd.func46 (by kernel_rfl) rfl (bit_ct (a := clampN s) (i := 447 - k) (by omega))) ?_
    refine at_d rfl rfl (opr_assign rfl rfl) ?_
    refine at_nil ?_
    refine at_then ?_
    refine at_seq ?_
    refine at_region ?_
    refine at_d rfl rfl (opr_load (i := 0) rfl rfl rfl Tryd.underlying39 rfl size39 (NN_length _) (NN_all rfl)) ?_
    refine at_d rfl rfl (opr_move rfl rfl) ?_
    refine at_d rfl rfl (opr_move rfl rfl) ?_
    refine at_d rfl rfl (opr_xor64 (a := bitN (clampN s) (447 - k)) (b := l) rfl rfl rfl (bitN_lt _ _ _ (by decide)) hl64) ?_
    refine at_d rfl rfl (opr_call rfl rfl rfl Tryd.func24 (by kernel_rfl) rfl (sStep_ct ht2 h0 h1 h2 h3 h4 hq)) ?_
    refine at_d rfl rfl (opr_store (i := 0) rfl rfl rfl rfl rfl size39 (NN_length _) (by rw [NN_length]; exact Nat.le_of_ble_eq_true rfl) (NN_flat _) (NN_over rfl)) ?_
    refine at_nil ?_
    refine at_then ?_
    refine at_region ?_
    refine at_d rfl rfl (opr_move rfl rfl) ?_
    refine at_d rfl rfl (opr_assign rfl rfl) ?_
    refine at_nil ?_
    refine at_inBlock_normal ?_
    refine at_then ?_
    refine at_region ?_
    refine at_d rfl rfl (opr_move rfl rfl) ?_
    refine at_d rfl rfl (opr_subIZ (c := 447 - ((k + 1 : Nat) : Int)) rfl rfl rfl (by omega) (by omega) (by omega)) ?_
    refine at_d rfl rfl (opr_assign rfl rfl) ?_
    refine at_nil ?_
    exact at_round3 (k + 1) (bitN (clampN s) (447 - k)) [q0 % pp, p1, p2, p3, p4] ⟨by omega, bitN_or _ _, ⟨_, _, _, _, _, rfl, modp_lt _, pp_RR lp1, pp_RR lp2, pp_RR lp3, pp_RR lp4, (el_mod q0).trans he0, lad_step he0 hLd hS⟩⟩ (by omega) (allIn ⟨rfl, rfl, rfl, rfl, rfl, trivial⟩) (List.Sublist.refl _)
  ·
    have hk0 := of_decide_eq_false ht
    obtain rfl : k = 448 := by omega
    have hl0 : l = 0 := hLd.bit.trans (clampN_bit s)
    refine at_exit ?_
    refine at_then_exit ?_
    refine at_then_exit ?_
    refine at_inBlock_same ?_
    refine at_then ?_
    refine at_seq ?_
    refine at_seq ?_
    refine at_region ?_
    refine at_d rfl rfl (opr_move rfl rfl) ?_
    refine at_d rfl rfl (opr_eq (opr_eql (a := l) (b := 1) rfl rfl rfl) (congrArg Value.bool (decide_eq_false (by rw [hl0]; decide)))) ?_
    refine at_nil ?_
    refine at_then ?_
    refine at_cond_false rfl ?_
    refine at_skip ?_
    refine at_then ?_
    refine at_seq ?_
    refine at_draw (by kernel_rfl) (by kernel_rfl) (by kernel_rfl) (List.cons_ne_nil _ _) ?_
    refine dr_op rfl rfl (opr_indexAddr (j := 1) rfl rfl rfl Tryd.underlying39 (by decide) size25 rfl) ?_
    refine dr_op rfl rfl (opr_load (i := 0) rfl rfl rfl Tryd.underlying25 rfl size25 (N_length _) (NN_at (k := 1) rfl rfl rfl)) ?_
    refine dr_op rfl rfl (opr_indexAddr (j := 2) rfl rfl rfl Tryd.underlying39 (by decide) size25 rfl) ?_
    refine dr_op rfl rfl (opr_load (i := 0) rfl rfl rfl Tryd.underlying25 rfl size25 (N_length _) (NN_at (k := 2) rfl rfl rfl)) ?_
    refine dr_op rfl rfl (opr_call rfl rfl rfl Tryd.func47 (by kernel_rfl) rfl (sInv_ct h2)) ?_
    refine dr_op rfl rfl (opr_call rfl rfl rfl Tryd.func22 (by kernel_rfl) rfl (sMul_ct h1 (invp_RR q2))) ?_
    refine dr_op rfl rfl (opr_call rfl rfl rfl Tryd.func38 (by kernel_rfl) rfl (bytes_ct _)) ?_
    refine dr_last rfl rfl (opr_store (i := 3) rfl rfl rfl rfl rfl size22 (E_length _) (by rw [EE_length]; exact Nat.le_of_ble_eq_true rfl) (E_flat _) (EE_set (k := 0) (Nat.le_of_ble_eq_true rfl) rfl)) ?_
    refine at_then ?_
    refine at_ret ?_
    refine done_of (res1 Tryd.results29 (res_cell (i := 3) rfl rfl Tryd.underlying22 rfl size22 (E_length _) (EE_at (k := 0) rfl rfl rfl))) ⟨?_, rfl⟩ (by repeat (first | exact List.Sublist.refl _ | apply List.Sublist.cons))
    rw [x448_of hLd]
theorem setOne_ct {M : Mem} {iz gz Tz kz oz : Nat} {lz : List Nat} (hz : M[iz]? = some ⟨gz, Tz, EE lz⟩) (hkz : kz < lz.length) (hoz : 56 * kz = oz) : Ct Tryd.prog 71 #[.pointer (some ⟨gz, oz, none⟩)] M (Det (.tuple #[]) (M.set iz ⟨gz, Tz, EE (lz.set kz 1)⟩)) := by
  refine ct_of (vs := [.pointer (some ⟨gz, oz, none⟩)]) Tryd.func71 rfl Tryd.ntmps71 rfl fun w0 => ?_
  refine at_region ?_
  refine at_d rfl rfl (opr_move rfl rfl) ?_
  refine at_d rfl rfl (opr_buildE rfl rfl built_eone (E_small (by decide))) ?_
  refine at_d rfl rfl (opr_nilCheck rfl rfl) ?_
  refine at_d rfl rfl (opr_store (i := iz) rfl rfl rfl rfl hz size47 (E_length _) (by rw [EE_length]; omega) (E_flat _) (EE_set hkz hoz)) ?_
  refine at_nil ?_
  exact done_of (res0 rfl) ⟨rfl, rfl⟩ (List.Sublist.refl _)
theorem toBytes_ct {M : Mem} {ig Tp : Nat} (hG : M[ig]? = some ⟨0, Tp, EE [pp]⟩) {ix ik gx gk Tx Tk kx ox ck a b : Nat} {lx : List Nat} (hx : M[ix]? = some ⟨gx, Tx, EE lx⟩) (hkx : lx[kx]? = some a) (hox : 56 * kx = ox) (hk : M[ik]? = some ⟨gk, Tk, EE [b]⟩) (hne : ix ≠ ik) (ha : a < RR) : Ct Tryd.prog 84 #[.slice (some ⟨gk, 0, none⟩) 56 ck, .pointer (some ⟨gx, ox, none⟩)] M (Det .nilIface ((M.set ix ⟨gx, Tx, EE (lx.set kx (a % pp))⟩).set ik ⟨gk, Tk, EE [a % pp]⟩)) := by
  refine ct_of (vs := [.slice (some ⟨gk, 0, none⟩) 56 ck, .pointer (some ⟨gx, ox, none⟩)]) Tryd.func84 rfl Tryd.ntmps84 rfl fun w0 => ?_
  refine at_seq ?_
  refine at_region ?_
  refine at_d rfl rfl (opr_assign rfl rfl) ?_
  refine at_nil ?_
  refine at_then ?_
  refine at_seq ?_
  refine at_seq ?_
  refine at_region ?_
  refine at_d rfl rfl (opr_move rfl rfl) ?_
  refine at_d rfl rfl (opr_lenS rfl rfl Tryd.underlying79) ?_
  refine at_d rfl rfl (opr_binOp (v := .bool false) rfl rfl rfl (fun _ => rfl)) ?_
  refine at_nil ?_
  refine at_then ?_
  refine at_cond_false rfl ?_
  refine at_skip ?_
  refine at_then ?_
  refine at_seq ?_
  refine at_region ?_
  refine at_d rfl rfl (opr_move rfl rfl) ?_
  refine at_d rfl rfl (opr_call rfl rfl rfl Tryd.func54 (by kernel_rfl) rfl (modp_ct (ig := ig) (iz := ix) (kz := kx) hG hx hkx hox ha)) ?_
  refine at_nil ?_
  refine at_then ?_
  refine at_seq ?_
  refine at_region ?_
  refine at_d rfl rfl (opr_move rfl rfl) ?_
  refine at_d rfl rfl (opr_move rfl rfl) ?_
  refine at_d rfl rfl (opr_nilCheck rfl rfl) ?_
  refine at_d rfl rfl (opr_sliceAll rfl rfl Tryd.underlying47 rfl size5) ?_
  refine at_d rfl rfl (opr_copy (i := ik) (j := ix) (n := 56) rfl rfl rfl (get_set_ne hk hne) (get_set hx) Tryd.underlying79 size5 rfl (E_length (a % pp)) (EE_at (lset (List.getElem?_eq_some_iff.1 hkx).1) hox rfl) (by rw [EE_length]; exact Nat.le_refl _) (E_flat _) (EE_set (k := 0) (Nat.le_of_ble_eq_true rfl) rfl)) ?_
  refine at_nil ?_
  refine at_then ?_
  refine at_seq ?_
  refine at_region ?_
  refine at_d rfl rfl (opr_assign rfl rfl) ?_
  refine at_nil ?_
  refine at_then ?_
  refine at_ret ?_
  refine done_of (res1 Tryd.results84 (res_tmp rfl)) ⟨rfl, rfl⟩ (by repeat (first | exact List.Sublist.refl _ | apply List.Sublist.cons))
theorem aff_eq {a1 a2 r q : Nat} (hr : r % pp = invp a2) (hq : q % pp = a1 * r % pp) : a1 * invp a2 % pp = q % pp := by
  rw [hq, Nat.mul_mod, ← hr, Nat.mod_mod, ← Nat.mul_mod]
theorem toAffine_ct {M : Mem} {ig Tp : Nat} (hG : M[ig]? = some ⟨0, Tp, EE [pp]⟩) {ik gk Tk gw Tw b a0 a1 a2 a3 a4 : Nat} (hk : M[ik]? = some ⟨gk, Tk, EE [b]⟩) (h1 : a1 < RR) (h2 : a2 < RR) : Ct Tryd.prog 72 #[.pointer (some ⟨gk, 0, none⟩), .pointer (some ⟨gw, 56, none⟩), .pointer (some ⟨gw, 112, none⟩)] (⟨gw, Tw, EE [a0, a1, a2, a3, a4]⟩ :: M) (fun v M' => ∃ q r, v = .tuple #[] ∧ M' = (⟨gw, Tw, EE [a0, q, r, a3, a4]⟩ :: M.set ik ⟨gk, Tk, EE [a1 * invp a2 % pp]⟩)) := by
  refine ct_of (vs := [.pointer (some ⟨gk, 0, none⟩), .pointer (some ⟨gw, 56, none⟩), .pointer (some ⟨gw, 112, none⟩)]) Tryd.func72 rfl Tryd.ntmps72 rfl fun w0 => ?_
  refine at_seq ?_
  refine at_region ?_
  refine at_d rfl rfl (opr_move rfl rfl) ?_
  refine at_d rfl rfl (opr_move rfl rfl) ?_
  refine at_c rfl rfl (opr_call rfl rfl rfl Tryd.func83 (by kernel_rfl) rfl (Inv_ct (iz := 0) (ix := 0) (kz := 2) (kx := 2) rfl (Nat.le_of_ble_eq_true rfl) rfl rfl rfl rfl h2)) ?_
  rintro _ _ ⟨r, hr, hrm, rfl, rfl⟩
  refine at_nil ?_
  refine at_then ?_
  refine at_seq ?_
  refine at_region ?_
  refine at_d rfl rfl (opr_move rfl rfl) ?_
  refine at_d rfl rfl (opr_move rfl rfl) ?_
  refine at_d rfl rfl (opr_move rfl rfl) ?_
  refine at_c rfl rfl (opr_call rfl rfl rfl Tryd.func33 (by kernel_rfl) rfl (Mul_ct (iz := 0) (ix := 0) (iy := 0) (kz := 1) (kx := 1) (ky := 2) rfl (Nat.le_of_ble_eq_true rfl) rfl rfl rfl rfl rfl rfl rfl h1 hr)) ?_
  rintro _ _ ⟨q, hq, hqm, rfl, rfl⟩
  refine at_nil ?_
  refine at_then ?_
  refine at_region ?_
  refine at_d rfl rfl (opr_move rfl rfl) ?_
  refine at_d rfl rfl (opr_nilCheck rfl rfl) ?_
  refine at_d rfl rfl (opr_sliceAll rfl rfl Tryd.underlying22 rfl size5) ?_
  refine at_d rfl rfl (opr_move rfl rfl) ?_
  refine at_d rfl rfl (opr_call rfl rfl rfl Tryd.func84 (by kernel_rfl) rfl (toBytes_ct (ig := ig + 1) (ix := 0) (ik := ik + 1) (kx := 1) hG rfl rfl rfl hk (Nat.succ_ne_zero _).symm hq)) ?_
  refine at_nil ?_
  exact done_of (res0 rfl) ⟨q % pp, r, rfl, by rw [aff_eq hrm hqm]; rfl⟩ (List.Sublist.refl _)
def ImI (s u k l : Nat) (z : List Nat) : Prop := ∃ r1 r2 r3 r4, z = [u, r1, r2, r3, r4] ∧ r1 < RR ∧ r2 < RR ∧ r3 < RR ∧ r4 < RR ∧ Lad s (el u) k l (el r1) (el r2) (el r3) (el r4)
theorem ladder_ct {M : Mem} {ig Tp : Nat} (hG : M[ig]? = some ⟨0, Tp, EE [pp]⟩) {ik iu gk gu Tk Tu s u : Nat} (hk : M[ik]? = some ⟨gk, Tk, EE [s]⟩) (hx : M[iu]? = some ⟨gu, Tu, EE [u]⟩) (hu : u < RR) : Ct Tryd.prog 61 #[.pointer (some ⟨gk, 0, none⟩), .pointer (some ⟨gu, 0, none⟩)] M (Det (.tuple #[]) (M.set ik ⟨gk, Tk, EE [x448N s u]⟩)) := by
  refine ct_of (vs := [.pointer (some ⟨gk, 0, none⟩), .pointer (some ⟨gu, 0, none⟩)]) Tryd.func61 rfl Tryd.ntmps61 rfl fun w0 => ?_
  refine at_seq ?_
  refine at_region ?_
  refine at_d rfl rfl (opr_build0 rfl zero63 rfl Tryd.underlying63 size47) ?_
  refine at_n rfl rfl (opr_alloc rfl zero63 rfl) ?_
  intro g0
  refine at_d rfl rfl (opr_store (i := 0) rfl rfl rfl rfl rfl size63 (EE_length _) (by rw [EE_length]; exact Nat.le_of_ble_eq_true rfl) (EE_flat _) (EE_over rfl)) ?_
  refine at_nil ?_
  refine at_then ?_
  refine at_seq ?_
  refine at_region ?_
  refine at_d rfl rfl (opr_move rfl rfl) ?_
  refine at_d rfl rfl (opr_nilCheck rfl rfl) ?_
  refine at_d rfl rfl (opr_load (i := iu + 1) rfl rfl hx Tryd.underlying47 rfl size47 (E_length _) (EE_at (k := 0) rfl rfl rfl)) ?_
  refine at_d rfl rfl (opr_indexAddr (j := 0) rfl rfl rfl Tryd.underlying63 (by decide) size47 rfl) ?_
  refine at_d rfl rfl (opr_store (i := 0) rfl rfl rfl rfl rfl size47 (E_length _) (by rw [EE_length]; exact Nat.le_of_ble_eq_true rfl) (E_flat _) (EE_set (k := 0) (Nat.le_of_ble_eq_true rfl) rfl)) ?_
  refine at_nil ?_
  refine at_then ?_
  refine at_seq ?_
  refine at_region ?_
  refine at_d rfl rfl (opr_indexAddr (j := 1) rfl rfl rfl Tryd.underlying63 (by decide) size47 rfl) ?_
  refine at_d rfl rfl (opr_call rfl rfl rfl Tryd.func71 (by kernel_rfl) rfl (setOne_ct (iz := 0) (kz := 1) rfl (Nat.le_of_ble_eq_true rfl) rfl)) ?_
  refine at_nil ?_
  refine at_then ?_
  refine at_seq ?_
  refine at_region ?_
  refine at_d rfl rfl (opr_move rfl rfl) ?_
  refine at_d rfl rfl (opr_nilCheck rfl rfl) ?_
  refine at_d rfl rfl (opr_load (i := iu + 1) rfl rfl hx Tryd.underlying47 rfl size47 (E_length _) (EE_at (k := 0) rfl rfl rfl)) ?_
  refine at_d rfl rfl (opr_indexAddr (j := 3) rfl rfl rfl Tryd.underlying63 (by decide) size47 rfl) ?_
  refine at_d rfl rfl (opr_store (i := 0) rfl rfl rfl rfl rfl size47 (E_length _) (by rw [EE_length]; exact Nat.le_of_ble_eq_true rfl) (E_flat _) (EE_set (k := 3) (Nat.le_of_ble_eq_true rfl) rfl)) ?_
  refine at_nil ?_
  refine at_then ?_
  refine at_seq ?_
  refine at_region ?_
  refine at_d rfl rfl (opr_indexAddr (j := 4) rfl rfl rfl Tryd.underlying63 (by decide) size47 rfl) ?_
  refine at_d rfl rfl (opr_call rfl rfl rfl Tryd.func71 (by kernel_rfl) rfl (setOne_ct (iz := 0) (kz := 4) rfl (Nat.le_of_ble_eq_true rfl) rfl)) ?_
  refine at_nil ?_
  refine at_then ?_
  refine at_seq ?_
  refine at_region ?_
  refine at_d rfl rfl (opr_assign rfl rfl) ?_
  refine at_nil ?_
  refine at_then ?_
  refine at_seq ?_
  refine at_seq ?_
  refine at_region ?_
  refine at_d rfl rfl (opr_assign rfl rfl) ?_
  refine at_nil ?_
  refine at_then ?_
  refine at_block ?_
  refine at_loop3 (fun (x : Nat) (y : Nat) (z : List Nat) => [(0, .pointer (some ⟨gk, 0, none⟩)), (4, .pointer (some ⟨g0, 0, none⟩)), (5, .int .u64 (y : Int)), (6, .int .i64 (447 - (x : Int)))]) (fun (x : Nat) (y : Nat) (z : List Nat) => ⟨g0, 63, EE z⟩ :: M) (fun (x : Nat) (y : Nat) (z : List Nat) => 448 - x) (fun (x : Nat) (y : Nat) (z : List Nat) => x ≤ 448 ∧ (y = 0 ∨ y = 1) ∧ ImI s u x y z) 0 0 [u, 1, 0, u, 1] ⟨Nat.zero_le _, .inl rfl, ⟨_, _, _, _, rfl, RR_one, RR_zero, hu, RR_one, lad_zero _ u⟩⟩ (allIn ⟨rfl, rfl, rfl, rfl, trivial⟩) (List.Sublist.refl _) ?_
  rintro k l z ⟨hk0, hl, r1, r2, r3, r4, rfl, h1, h2, h3, h4, hLd⟩
  dsimp only
  refine at_seq ?_
  refine at_seq ?_
  refine at_region ?_
  refine at_d rfl rfl (opr_move rfl rfl) ?_
  refine at_d rfl rfl (opr_geqZ rfl rfl rfl) ?_
  refine at_nil ?_
  refine at_then ?_
  refine at_cond rfl (fun ht => ?_) (fun ht => ?_)
  ·
    have hk1 := of_decide_eq_true ht
    have hlt : k < 448 := by omega
    have ej : 447 - (k : Int) = ((447 - k : Nat) : Int) := by omega
    have hl64 : l < 18446744073709551616 := by omega
    have ht2 := xor_bit (bitN_or s (447 - k)) hl
    refine at_skip ?_
    refine at_then ?_
    refine at_seq ?_
    refine at_block ?_
    refine at_seq ?_
    refine at_region ?_
    refine at_d rfl rfl (opr_move rfl rfl) ?_
    refine at_d rfl rfl (opr_quoI (a := 447 - k) (b := 8) rfl (by exact congrArg (fun n => some (Value.int .i64 n)) ej) rfl (by decide) (by omega)) ?_
    refine at_d rfl rfl (opr_assign rfl rfl) ?_
    refine at_nil ?_
    refine at_then ?_
    refine at_seq ?_
    refine at_region ?_
    refine at_d rfl rfl (opr_move rfl rfl) ?_
    refine at_d rfl rfl (opr_remI (a := 447 - k) (b := 8) rfl (by exact congrArg (fun n => some (Value.int .i64 n)) ej) rfl (by decide)) ?_
    refine at_d rfl rfl (opr_assign rfl rfl) ?_
    refine at_nil ?_
    refine at_then ?_
    refine at_seq ?_
    refine at_region ?_
    refine at_d rfl rfl (opr_move rfl rfl) ?_
    refine at_d rfl rfl (opr_move rfl rfl) ?_
    refine at_d rfl rfl (opr_nilCheck rfl rfl) ?_
    refine at_d rfl rfl (opr_indexAddr (j := (447 - k) / 8) (off' := (447 - k) / 8) rfl rfl rfl Tryd.underlying54 (by omega) size5 (by omega)) ?_
    refine at_d rfl rfl (opr_load1 (i := ik + 1) rfl rfl hk Tryd.underlying5 rfl (EE_byte (k := 0) (i := (447 - k) / 8) rfl (by omega) (by omega))) ?_
    refine at_d rfl rfl (opr_move rfl rfl) ?_
    refine at_d rfl rfl (opr_to64 (n := (447 - k) % 8) rfl rfl Tryd.underlying3 Tryd.underlying44 (by omega)) ?_
    refine at_d rfl rfl (opr_shr8 (n := (447 - k) % 8) rfl rfl rfl (by omega)) ?_
    refine at_d rfl rfl (opr_eq (opr_and8 (b := 1) rfl rfl rfl (div_lt8 (Nat.mod_lt _ (by decide))) (by decide)) (u8_eq (bit8 s (447 - k)))) ?_
    refine at_d rfl rfl (opr_to64 (n := bitN s (447 - k)) rfl rfl Tryd.underlying5 Tryd.underlying44 (bitN_lt _ _ _ (by decide))) ?_
    refine at_d rfl rfl (opr_assign rfl rfl) ?_
    refine at_nil ?_
    refine at_then ?_
    refine at_seq ?_
    refine at_region ?_
    refine at_d rfl rfl (opr_move rfl rfl) ?_
    refine at_d rfl rfl (opr_move rfl rfl) ?_
    refine at_d rfl rfl (opr_eq (opr_xor64 (a := l) (b := bitN s (447 - k)) rfl rfl rfl hl64 (bitN_lt _ _ _ (by decide))) (u64_eq (Nat.xor_comm _ _))) ?_
    refine at_c rfl rfl (opr_call rfl rfl rfl Tryd.func60 (by kernel_rfl) rfl (ladderStep_ct ht2 (iw := 0) rfl hu h1 h2 h3 h4)) ?_
    rintro _ _ ⟨p1, p2, p3, p4, lp1, lp2, lp3, lp4, hS, rfl, rfl⟩
    refine at_nil ?_
    refine at_then ?_
    refine at_region ?_
    refine at_d rfl rfl (opr_move rfl rfl) ?_
    refine at_d rfl rfl (opr_assign rfl rfl) ?_
    refine at_nil ?_
    refine at_inBlock_normal ?_
    refine at_then ?_
    refine at_region ?_
    refine at_d rfl rfl (opr_move rfl rfl) ?_
    refine at_d rfl rfl (opr_subIZ (c := 447 - ((k + 1 : Nat) : Int)) rfl rfl rfl (by omega) (by omega) (by omega)) ?_
    refine at_d rfl rfl (opr_assign rfl rfl) ?_
    refine at_nil ?_
    exact at_round3 (k + 1) (bitN s (447 - k)) [u, p1, p2, p3, p4] ⟨by omega, bitN_or _ _, ⟨_, _, _, _, rfl, lp1, lp2, lp3, lp4, lad_step rfl hLd hS⟩⟩ (by omega) (allIn ⟨rfl, rfl, rfl, rfl, trivial⟩) (List.Sublist.refl _)
  ·
    have hk1 := of_decide_eq_false ht
    obtain rfl : k = 448 := by omega
    refine at_exit ?_
    refine at_then_exit ?_
    refine at_then_exit ?_
    refine at_inBlock_same ?_
    refine at_then ?_
    refine at_region ?_
    refine at_d rfl rfl (opr_move rfl rfl) ?_
    refine at_d rfl rfl (opr_indexAddr (j := 1) rfl rfl rfl Tryd.underlying63 (by decide) size47 rfl) ?_
    refine at_d rfl rfl (opr_indexAddr (j := 2) rfl rfl rfl Tryd.underlying63 (by decide) size47 rfl) ?_
    refine at_c rfl rfl (opr_call rfl rfl rfl Tryd.func72 (by kernel_rfl) rfl (toAffine_ct hG (ik := ik) hk h1 h2)) ?_
    rintro _ _ ⟨q, r, rfl, rfl⟩
    refine at_nil ?_
    exact done_of (res0 rfl) ⟨rfl, by rw [x448_of hLd]⟩ (List.sublist_cons_self _ _)
theorem shared_ct {M : Mem} {ig Tp : Nat} (hG : M[ig]? = some ⟨0, Tp, EE [pp]⟩) {il Tl : Nat} (hL : M[il]? = some ⟨1, Tl, EE lowL⟩) {gz gs gp Tz Ts Tp2 b s u : Nat} (hu : u < RR) : Ct Tryd.prog 45 #[.pointer (some ⟨gz, 0, none⟩), .pointer (some ⟨gs, 0, none⟩), .pointer (some ⟨gp, 0, none⟩)] (⟨gp, Tp2, EE [u]⟩ :: ⟨gs, Ts, EE [s]⟩ :: ⟨gz, Tz, EE [b]⟩ :: M) (Det (.bool (lowOk u)) (⟨gp, Tp2, EE [u]⟩ :: ⟨gs, Ts, EE [s]⟩ :: ⟨gz, Tz, EE [x448N (clampN s) u]⟩ :: M)) := by
  refine ct_of (vs := [.pointer (some ⟨gz, 0, none⟩), .pointer (some ⟨gs, 0, none⟩), .pointer (some ⟨gp, 0, none⟩)]) Tryd.func45 rfl Tryd.ntmps45 rfl fun w0 => ?_
  refine at_seq ?_
  refine at_region ?_
  refine at_d rfl rfl (opr_assign rfl rfl) ?_
  refine at_nil ?_
  refine at_then ?_
  refine at_seq ?_
  refine at_region ?_
  refine at_d rfl rfl (opr_move rfl rfl) ?_
  refine at_d rfl rfl (opr_nilCheck rfl rfl) ?_
  refine at_d rfl rfl (opr_load (i := 0) rfl rfl rfl Tryd.underlying54 rfl size54 (E_length _) (EE_at (k := 0) rfl rfl rfl)) ?_
  refine at_n rfl rfl (opr_alloc rfl zero54 rfl) ?_
  intro g0
  refine at_d rfl rfl (opr_store (i := 0) rfl rfl rfl rfl rfl size54 (E_length _) (by rw [EE_length]; exact Nat.le_of_ble_eq_true rfl) (E_flat _) (EE_set (k := 0) (Nat.le_of_ble_eq_true rfl) rfl)) ?_
  refine at_nil ?_
  refine at_then ?_
  refine at_seq ?_
  refine at_region ?_
  refine at_d rfl rfl (opr_call rfl rfl rfl Tryd.func57 (by kernel_rfl) rfl (isValid_ct (ig := ig + 4) (il := il + 4) (iz := 0) hG hL rfl (by omega) (by omega) hu)) ?_
  refine at_d rfl rfl (opr_assign rfl rfl) ?_
  refine at_nil ?_
  refine at_then ?_
  refine at_seq ?_
  refine at_region ?_
  refine at_d rfl rfl (opr_move rfl rfl) ?_
  refine at_d rfl rfl (opr_move rfl rfl) ?_
  refine at_d rfl rfl (opr_call rfl rfl rfl Tryd.func62 (by kernel_rfl) rfl (clamp_ct (iz := 3) (ix := 2) (a := s) rfl rfl)) ?_
  refine at_d rfl rfl (opr_call rfl rfl rfl Tryd.func61 (by kernel_rfl) rfl (ladder_ct (ig := ig + 4) (ik := 3) (iu := 0) (s := clampN s) (u := u % pp) hG rfl rfl (modp_lt _))) ?_
  refine at_nil ?_
  refine at_then ?_
  refine at_seq ?_
  refine at_region ?_
  refine at_d rfl rfl (opr_move rfl rfl) ?_
  refine at_d rfl rfl (opr_assign rfl rfl) ?_
  refine at_nil ?_
  refine at_then ?_
  refine at_ret ?_
  exact done_of (res1 Tryd.results45 (res_tmp rfl)) ⟨rfl, by rw [← x448_mod]⟩ (by repeat (first | exact List.Sublist.refl _ | apply List.Sublist.cons))
theorem iShared_ct {M : Mem} {ig Tp : Nat} (hG : M[ig]? = some ⟨0, Tp, EE [pp]⟩) {il Tl : Nat} (hL : M[il]? = some ⟨1, Tl, EE lowL⟩) {s u : Nat} (hs : s < RR) (hu : u < RR) {t : Bool} (ht : lowOk u = t) : Ct Tryd.prog 27 #[.agg (E s).toArray, .agg (E u).toArray] M (Det (.tuple #[.agg (E (x448N (clampN s) u)).toArray, .bool t]) M) := by
  subst ht
  refine ct_of (vs := [.agg (E s).toArray, .agg (E u).toArray]) Tryd.func27 rfl Tryd.ntmps27 rfl fun w0 => ?_
  refine at_seq ?_
  refine at_region ?_
  refine at_n rfl rfl (opr_box (cs := EE [s]) rfl rfl (E_box _)) ?_
  intro g0
  refine at_n rfl rfl (opr_box (cs := EE [u]) rfl rfl (E_box _)) ?_
  intro g1
  refine at_n rfl rfl (opr_alloc rfl zero22 rfl) ?_
  intro g2
  refine at_d rfl rfl (opr_assign rfl rfl) ?_
  refine at_nil ?_
  refine at_then ?_
  refine at_seq ?_
  refine at_region ?_
  refine at_n rfl rfl (opr_alloc rfl zero54 rfl) ?_
  intro g3
  refine at_nil ?_
  refine at_then ?_
  refine at_seq ?_
  refine at_drawG (B := [⟨g3, 54, EE [0]⟩, ⟨g2, 22, EE [0]⟩, ⟨g1, 22, EE [u]⟩, ⟨g0, 22, EE [s]⟩]) (E := [⟨.pure [3], 0, [], .v (.agg (E (s)).toArray)⟩, ⟨.pure [2], 0, [], .v (.agg (E (u)).toArray)⟩, ⟨.alloc, 54, EE [0], .p 2 0⟩, ⟨.alloc, 54, EE [0], .p 3 0⟩, ⟨.storeA 2, 0, EE [s], .v undef⟩, ⟨.storeA 3, 0, EE [u], .v undef⟩]) (by kernel_rfl) (by kernel_rfl) (by kernel_rfl) (fun γ0 => ?_)
  refine gs_pure rfl rfl (fun M' sB sT => ?_) ?_
  · obtain ⟨iB3, hB3⟩ := sB 3 _ rfl rfl; exact opr_load (i := iB3) rfl rfl hB3 Tryd.underlying22 rfl size22 (E_length _) (EE_at (k := 0) rfl rfl rfl)
  refine gs_pure rfl rfl (fun M' sB sT => ?_) ?_
  · obtain ⟨iB2, hB2⟩ := sB 2 _ rfl rfl; exact opr_load (i := iB2) rfl rfl hB2 Tryd.underlying22 rfl size22 (E_length _) (EE_at (k := 0) rfl rfl rfl)
  refine gs_alloc rfl rfl (fun M' => opr_alloc rfl zero54 rfl) ?_
  refine gs_alloc rfl rfl (fun M' => opr_alloc rfl zero54 rfl) ?_
  refine gs_storeA rfl rfl rfl rfl rfl (fun M' j hj => opr_store (i := j) rfl rfl rfl rfl hj size54 (E_length _) (by rw [EE_length]; exact Nat.le_of_ble_eq_true rfl) (E_flat _) (EE_set (k := 0) (Nat.le_of_ble_eq_true rfl) rfl)) ?_
  refine gs_storeA rfl rfl rfl rfl rfl (fun M' j hj => opr_store (i := j) rfl rfl rfl rfl hj size54 (E_length _) (by rw [EE_length]; exact Nat.le_of_ble_eq_true rfl) (E_flat _) (EE_set (k := 0) (Nat.le_of_ble_eq_true rfl) rfl)) ?_
  refine gs_nil ?_
  refine (show At _ _ (⟨(γ0 3), 54, EE [u]⟩ :: ⟨(γ0 2), 54, EE [s]⟩ :: ⟨g3, 54, EE [0]⟩ :: ⟨g2, 22, EE [0]⟩ :: ⟨g1, 22, EE [u]⟩ :: ⟨g0, 22, EE [s]⟩ :: _) _ from ?_)
  refine at_then ?_
  refine at_seq ?_
  refine at_region ?_
  refine at_d rfl rfl (opr_call rfl rfl rfl Tryd.func45 (by kernel_rfl) rfl (shared_ct (ig := ig + 3) (il := il + 3) hG hL hu)) ?_
  refine at_d rfl rfl (opr_assign rfl rfl) ?_
  refine at_nil ?_
  refine at_then ?_
  refine at_seq ?_
  refine at_region ?_
  refine at_d rfl rfl (opr_load (i := 2) rfl rfl rfl Tryd.underlying54 rfl size54 (E_length _) (EE_at (k := 0) rfl rfl rfl)) ?_
  refine at_d rfl rfl (opr_move rfl rfl) ?_
  refine at_d rfl rfl (opr_store (i := 3) rfl rfl rfl rfl rfl size22 (E_length _) (by rw [EE_length]; exact Nat.le_of_ble_eq_true rfl) (E_flat _) (EE_set (k := 0) (Nat.le_of_ble_eq_true rfl) rfl)) ?_
  refine at_d rfl rfl (opr_assign rfl rfl) ?_
  refine at_nil ?_
  refine at_then ?_
  refine at_ret ?_
  exact done_of (res2 Tryd.results27 (res_cell (i := 3) rfl rfl Tryd.underlying22 rfl size22 (E_length _) (EE_at (k := 0) rfl rfl rfl)) (res_tmp rfl)) ⟨rfl, rfl⟩ (by repeat (first | exact List.Sublist.refl _ | apply List.Sublist.cons))
theorem fnSharedIs_ct {M : Mem} {ig Tp : Nat} (hG : M[ig]? = some ⟨0, Tp, EE [pp]⟩) {il Tl : Nat} (hL : M[il]? = some ⟨1, Tl, EE lowL⟩) {s u : Nat} (hs : s < RR) (hu : u < RR) : Ct Tryd.prog 9 #[.agg (E s).toArray, .agg (E u).toArray] M (Det (.bool true) M) := by
  refine ct_of (vs := [.agg (E s).toArray, .agg (E u).toArray]) Tryd.func9 rfl Tryd.ntmps9 rfl fun w0 => ?_
  refine at_seq ?_
  refine at_region ?_
  refine at_n rfl rfl (opr_box (cs := EE [s]) rfl rfl (E_box _)) ?_
  intro g0
  refine at_n rfl rfl (opr_box (cs := EE [u]) rfl rfl (E_box _)) ?_
  intro g1
  refine at_d rfl rfl (opr_assign rfl rfl) ?_
  refine at_nil ?_
  refine at_then ?_
  refine at_seq ?_
  refine at_region ?_
  refine at_d rfl rfl (opr_load (i := 1) rfl rfl rfl Tryd.underlying22 rfl size22 (E_length _) (EE_at (k := 0) rfl rfl rfl)) ?_
  refine at_d rfl rfl (opr_load (i := 0) rfl rfl rfl Tryd.underlying22 rfl size22 (E_length _) (EE_at (k := 0) rfl rfl rfl)) ?_
  refine at_d rfl rfl (opr_call rfl rfl rfl Tryd.func29 (by kernel_rfl) rfl (sX448_ct hs hu)) ?_
  refine at_n rfl rfl (opr_alloc rfl zero22 rfl) ?_
  intro g2
  refine at_d rfl rfl (opr_store (i := 0) rfl rfl rfl rfl rfl size22 (E_length _) (by rw [EE_length]; exact Nat.le_of_ble_eq_true rfl) (E_flat _) (EE_set (k := 0) (Nat.le_of_ble_eq_true rfl) rfl)) ?_
  refine at_nil ?_
  refine at_then ?_
  refine at_seq ?_
  refine at_region ?_
  refine at_d rfl rfl (opr_load (i := 2) rfl rfl rfl Tryd.underlying22 rfl size22 (E_length _) (EE_at (k := 0) rfl rfl rfl)) ?_
  refine at_d rfl rfl (opr_load (i := 1) rfl rfl rfl Tryd.underlying22 rfl size22 (E_length _) (EE_at (k := 0) rfl rfl rfl)) ?_
  refine at_d rfl rfl (opr_call rfl rfl rfl Tryd.func27 (by kernel_rfl) rfl (iShared_ct (ig := ig + 3) (il := il + 3) (s := s) (u := u) (t := (lowOk u)) hG hL hs hu rfl)) ?_
  refine at_d rfl rfl (opr_move rfl rfl) ?_
  refine at_d rfl rfl (opr_extract rfl rfl rfl) ?_
  refine at_d rfl rfl (opr_extract rfl rfl rfl) ?_
  refine at_n rfl rfl (opr_alloc rfl zero22 rfl) ?_
  intro g3
  refine at_d rfl rfl (opr_store (i := 0) rfl rfl rfl rfl rfl size22 (E_length _) (by rw [EE_length]; exact Nat.le_of_ble_eq_true rfl) (E_flat _) (EE_set (k := 0) (Nat.le_of_ble_eq_true rfl) rfl)) ?_
  refine at_d rfl rfl (opr_assign rfl rfl) ?_
  refine at_nil ?_
  refine at_then ?_
  refine at_seq ?_
  refine at_region ?_
  refine at_d rfl rfl (opr_load (i := 3) rfl rfl rfl Tryd.underlying22 rfl size22 (E_length _) (EE_at (k := 0) rfl rfl rfl)) ?_
  refine at_d rfl rfl (opr_buildE rfl rfl (built_small 5) (E_small (by decide))) ?_
  refine at_d rfl rfl (opr_call rfl rfl rfl Tryd.func27 (by kernel_rfl) rfl (iShared_ct (ig := ig + 4) (il := il + 4) (s := s) (u := 5) (t := true) hG hL hs (by decide) (by decide +kernel))) ?_
  refine at_d rfl rfl (opr_move rfl rfl) ?_
  refine at_d rfl rfl (opr_extract rfl rfl rfl) ?_
  refine at_d rfl rfl (opr_extract rfl rfl rfl) ?_
  refine at_n rfl rfl (opr_alloc rfl zero22 rfl) ?_
  intro g4
  refine at_d rfl rfl (opr_store (i := 0) rfl rfl rfl rfl rfl size22 (E_length _) (by rw [EE_length]; exact Nat.le_of_ble_eq_true rfl) (E_flat _) (EE_set (k := 0) (Nat.le_of_ble_eq_true rfl) rfl)) ?_
  refine at_d rfl rfl (opr_assign rfl rfl) ?_
  refine at_nil ?_
  refine at_then ?_
  refine at_seq ?_
  refine at_region ?_
  refine at_d rfl rfl (opr_move rfl rfl) ?_
  refine at_d rfl rfl (opr_move rfl rfl) ?_
  refine at_d rfl rfl (opr_load (i := 1) rfl rfl rfl Tryd.underlying22 rfl size22 (E_length _) (EE_at (k := 0) rfl rfl rfl)) ?_
  refine at_d rfl rfl (opr_load (i := 2) rfl rfl rfl Tryd.underlying22 rfl size22 (E_length _) (EE_at (k := 0) rfl rfl rfl)) ?_
  refine at_d rfl rfl (opr_eqlT rfl rfl rfl Tryd.underlying22 Tryd.underlying5 size5 (by kernel_rfl) rfl (x448_RR _ _)) ?_
  refine at_d rfl rfl (opr_pickT rfl rfl rfl) ?_
  refine at_d rfl rfl (opr_move rfl rfl) ?_
  refine at_d rfl rfl (opr_move rfl rfl) ?_
  refine at_d rfl rfl (opr_load (i := 3) rfl rfl rfl Tryd.underlying22 rfl size22 (E_length _) (EE_at (k := 0) rfl rfl rfl)) ?_
  refine at_d rfl rfl (opr_call rfl rfl rfl Tryd.func11 (by kernel_rfl) rfl (of_ct _)) ?_
  refine at_d rfl rfl (opr_call rfl rfl rfl Tryd.func19 (by kernel_rfl) rfl (isLow_ct hu)) ?_
  refine at_d rfl rfl (opr_eq (v' := .bool (lowOk u)) (opr_unOp (u := .bool (!(!lowOk u))) rfl rfl (fun _ => rfl)) (congrArg Value.bool (Bool.not_not _))) ?_
  refine at_d rfl rfl (opr_eqlBT rfl rfl rfl Tryd.underlying4 rfl) ?_
  refine at_d rfl rfl (opr_pickT rfl rfl rfl) ?_
  refine at_d rfl rfl (opr_assign rfl rfl) ?_
  refine at_nil ?_
  refine at_then ?_
  refine at_ret ?_
  refine done_of (res1 Tryd.results9 (res_tmp rfl)) ⟨rfl, rfl⟩ (by repeat (first | exact List.Sublist.refl _ | apply List.Sublist.cons))
theorem fnSharedClamped_ct {M : Mem} {ig Tp : Nat} (hG : M[ig]? = some ⟨0, Tp, EE [pp]⟩) {il Tl : Nat} (hL : M[il]? = some ⟨1, Tl, EE lowL⟩) {s u : Nat} (hs : s < RR) (hu : u < RR) : Ct Tryd.prog 8 #[.agg (E s).toArray, .agg (E u).toArray] M (Det (.bool true) M) := by
  refine ct_of (vs := [.agg (E s).toArray, .agg (E u).toArray]) Tryd.func8 rfl Tryd.ntmps8 rfl fun w0 => ?_
  refine at_seq ?_
  refine at_region ?_
  refine at_n rfl rfl (opr_box (cs := EE [s]) rfl rfl (E_box _)) ?_
  intro g0
  refine at_n rfl rfl (opr_box (cs := EE [u]) rfl rfl (E_box _)) ?_
  intro g1
  refine at_d rfl rfl (opr_assign rfl rfl) ?_
  refine at_nil ?_
  refine at_then ?_
  refine at_seq ?_
  refine at_region ?_
  refine at_d rfl rfl (opr_load (i := 1) rfl rfl rfl Tryd.underlying22 rfl size22 (E_length _) (EE_at (k := 0) rfl rfl rfl)) ?_
  refine at_d rfl rfl (opr_load (i := 0) rfl rfl rfl Tryd.underlying22 rfl size22 (E_length _) (EE_at (k := 0) rfl rfl rfl)) ?_
  refine at_d rfl rfl (opr_call rfl rfl rfl Tryd.func27 (by kernel_rfl) rfl (iShared_ct (ig := ig + 2) (il := il + 2) (s := s) (u := u) (t := (lowOk u)) hG hL hs hu rfl)) ?_
  refine at_d rfl rfl (opr_move rfl rfl) ?_
  refine at_d rfl rfl (opr_extract rfl rfl rfl) ?_
  refine at_d rfl rfl (opr_extract rfl rfl rfl) ?_
  refine at_n rfl rfl (opr_alloc rfl zero22 rfl) ?_
  intro g2
  refine at_d rfl rfl (opr_store (i := 0) rfl rfl rfl rfl rfl size22 (E_length _) (by rw [EE_length]; exact Nat.le_of_ble_eq_true rfl) (E_flat _) (EE_set (k := 0) (Nat.le_of_ble_eq_true rfl) rfl)) ?_
  refine at_d rfl rfl (opr_assign rfl rfl) ?_
  refine at_nil ?_
  refine at_then ?_
  refine at_seq ?_
  refine at_drawG (B := [⟨g2, 22, EE [x448N (clampN s) u]⟩, ⟨g1, 22, EE [u]⟩, ⟨g0, 22, EE [s]⟩]) (E := [⟨.pure [2], 0, [], .v (.agg (E (s)).toArray)⟩, ⟨.pure [], 0, [], .v (.agg (E (clampN s)).toArray)⟩, ⟨.pure [1], 0, [], .v (.agg (E (u)).toArray)⟩, ⟨.pure [], 0, [], .v (.tuple #[.agg (E (x448N (clampN (clampN s)) u)).toArray, .bool (lowOk u)])⟩, ⟨.pure [], 0, [], .v (.tuple #[.agg (E (x448N (clampN (clampN s)) u)).toArray, .bool (lowOk u)])⟩, ⟨.pure [], 0, [], .v (.agg (E (x448N (clampN (clampN s)) u)).toArray)⟩, ⟨.pure [], 0, [], .v (.bool (lowOk u))⟩, ⟨.alloc, 22, EE [0], .p 7 0⟩, ⟨.storeA 7, 0, EE [x448N (clampN (clampN s)) u], .v undef⟩, ⟨.pure [], 0, [], .v (.bool (lowOk u))⟩]) (by kernel_rfl) (by kernel_rfl) (by kernel_rfl) (fun γ0 => ?_)
  refine gs_pure rfl rfl (fun M' sB sT => ?_) ?_
  · obtain ⟨iB2, hB2⟩ := sB 2 _ rfl rfl; exact opr_load (i := iB2) rfl rfl hB2 Tryd.underlying22 rfl size22 (E_length _) (EE_at (k := 0) rfl rfl rfl)
  refine gs_pure rfl rfl (fun M' sB sT => ?_) ?_
  · exact opr_call rfl rfl rfl Tryd.func28 (by kernel_rfl) rfl (sClamp_ct)
  refine gs_pure rfl rfl (fun M' sB sT => ?_) ?_
  · obtain ⟨iB1, hB1⟩ := sB 1 _ rfl rfl; exact opr_load (i := iB1) rfl rfl hB1 Tryd.underlying22 rfl size22 (E_length _) (EE_at (k := 0) rfl rfl rfl)
  refine gs_pure rfl rfl (fun M' sB sT => ?_) ?_
  · obtain ⟨iT0, hT0⟩ := sT _ _ hG; obtain ⟨iT1, hT1⟩ := sT _ _ hL; exact opr_call rfl rfl rfl Tryd.func27 (by kernel_rfl) rfl (iShared_ct (ig := iT0) (il := iT1) (s := clampN s) (u := u) (t := (lowOk u)) hT0 hT1 (clampN_lt _) hu rfl)
  refine gs_pure rfl rfl (fun M' sB sT => ?_) ?_
  · exact opr_move rfl rfl
  refine gs_pure rfl rfl (fun M' sB sT => ?_) ?_
  · exact opr_extract rfl rfl rfl
  refine gs_pure rfl rfl (fun M' sB sT => ?_) ?_
  · exact opr_extract rfl rfl rfl
  refine gs_alloc rfl rfl (fun M' => opr_alloc rfl zero22 rfl) ?_
  refine gs_storeA rfl rfl rfl rfl rfl (fun M' j hj => opr_store (i := j) rfl rfl rfl rfl hj size22 (E_length _) (by rw [EE_length]; exact Nat.le_of_ble_eq_true rfl) (E_flat _) (EE_set (k := 0) (Nat.le_of_ble_eq_true rfl) rfl)) ?_
  refine gs_pure rfl rfl (fun M' sB sT => ?_) ?_
  · exact opr_assign rfl rfl
  refine gs_nil ?_
  refine (show At _ _ (⟨(γ0 7), 22, EE [x448N (clampN (clampN s)) u]⟩ :: ⟨g2, 22, EE [x448N (clampN s) u]⟩ :: ⟨g1, 22, EE [u]⟩ :: ⟨g0, 22, EE [s]⟩ :: _) _ from ?_)
  refine at_then ?_
  refine at_seq ?_
  refine at_region ?_
  refine at_d rfl rfl (opr_load (i := 3) rfl rfl rfl Tryd.underlying22 rfl size22 (E_length _) (EE_at (k := 0) rfl rfl rfl)) ?_
  refine at_d rfl rfl (opr_buildE rfl rfl (built_small 5) (E_small (by decide))) ?_
  refine at_d rfl rfl (opr_call rfl rfl rfl Tryd.func27 (by kernel_rfl) rfl (iShared_ct (ig := ig + 4) (il := il + 4) (s := s) (u := 5) (t := true) hG hL hs (by decide) (by decide +kernel))) ?_
  refine at_d rfl rfl (opr_move rfl rfl) ?_
  refine at_d rfl rfl (opr_extract rfl rfl rfl) ?_
  refine at_d rfl rfl (opr_extract rfl rfl rfl) ?_
  refine at_n rfl rfl (opr_alloc rfl zero22 rfl) ?_
  intro g3
  refine at_d rfl rfl (opr_store (i := 0) rfl rfl rfl rfl rfl size22 (E_length _) (by rw [EE_length]; exact Nat.le_of_ble_eq_true rfl) (E_flat _) (EE_set (k := 0) (Nat.le_of_ble_eq_true rfl) rfl)) ?_
  refine at_d rfl rfl (opr_assign rfl rfl) ?_
  refine at_nil ?_
  refine at_then ?_
  refine at_seq ?_
  refine at_region ?_
  refine at_d rfl rfl (opr_move rfl rfl) ?_
  refine at_d rfl rfl (opr_move rfl rfl) ?_
  refine at_d rfl rfl (opr_eqlBT rfl rfl rfl Tryd.underlying4 rfl) ?_
  refine at_d rfl rfl (opr_move rfl rfl) ?_
  refine at_d rfl rfl (opr_load (i := 2) rfl rfl rfl Tryd.underlying22 rfl size22 (E_length _) (EE_at (k := 0) rfl rfl rfl)) ?_
  refine at_d rfl rfl (opr_load (i := 1) rfl rfl rfl Tryd.underlying22 rfl size22 (E_length _) (EE_at (k := 0) rfl rfl rfl)) ?_
  refine at_d rfl rfl (opr_eqlT rfl rfl rfl Tryd.underlying22 Tryd.underlying5 size5 (by kernel_rfl) (by rw [clamp_idem]) (x448_RR _ _)) ?_
  refine at_d rfl rfl (opr_pickT rfl rfl rfl) ?_
  refine at_d rfl rfl (opr_move rfl rfl) ?_
  refine at_d rfl rfl (opr_move rfl rfl) ?_
  refine at_d rfl rfl (opr_pickT rfl rfl rfl) ?_
  refine at_d rfl rfl (opr_assign rfl rfl) ?_
  refine at_nil ?_
  refine at_then ?_
  refine at_ret ?_
  refine done_of (res1 Tryd.results8 (res_tmp rfl)) ⟨rfl, rfl⟩ (by repeat (first | exact List.Sublist.refl _ | apply List.Sublist.cons))
end Go.Proofs.YtkjfongekklabaaDoor
