/- Plain: what the reference's loops do, on digits. -/
import Derived.Test.YtjlhhcdefcofkaaGreatDoorWords
namespace Go.Proofs.YtjlhhcdefcofkaaGreatDoor
open Go

def U (l : List Nat) : List Value := l.map u8V
theorem W_length (l : List Nat) : (W l).length = l.length := by simp [W]
theorem U_length (l : List Nat) : (U l).length = l.length := by simp [U]
theorem W_get {l : List Nat} {j d : Nat} (h : l[j]? = some d) : (W l)[j]? = some (.int .u64 (d : Int)) := by simp [W, h, u64V]
theorem U_get {l : List Nat} {j d : Nat} (h : l[j]? = some d) : (U l)[j]? = some (.int .u8 (d : Int)) := by simp [U, h, u8V]
theorem map_splice (f : Nat → Value) {l : List Nat} {j d : Nat} (h : j < l.length) : splice (l.map f) j [f d] = (l.set j d).map f := by
  simp only [splice, List.length_singleton, List.set_eq_take_append_cons_drop, h, if_true, List.map_append, List.map_cons, List.map_take, List.map_drop]
  simp
theorem W_put {l m : List Nat} {j d : Nat} (h : j < l.length) (e : l.set j d = m) : splice (W l) j [.int .u64 (d : Int)] = W m := by
  subst e; exact map_splice u64V h
theorem U_put {l m : List Nat} {j d : Nat} (h : j < l.length) (e : l.set j d = m) : splice (U l) j [.int .u8 (d : Int)] = U m := by
  subst e; exact map_splice u8V h
theorem W_flat (l : List Nat) : ∀ v ∈ W l, flat v = true := by
  intro v hv
  obtain ⟨d, _, rfl⟩ := List.mem_map.1 hv
  rfl
theorem W_all {l : List Nat} {n : Nat} (h : l.length = n) : ((W l).drop 0).take n = W l := by
  rw [List.drop_zero, List.take_of_length_le (by rw [W_length, h]; exact Nat.le_refl _)]
theorem W_over {l m : List Nat} (h : l.length = m.length) : splice (W l) 0 (W m) = W m := by
  simp only [splice, List.take_zero, List.nil_append]
  rw [List.drop_of_length_le (by rw [W_length, W_length, h]; omega), List.append_nil]
theorem U_all {l : List Nat} {n : Nat} (h : l.length = n) : ((U l).drop 0).take n = U l := by
  rw [List.drop_zero, List.take_of_length_le (by rw [U_length, h]; exact Nat.le_refl _)]
theorem U_over {l m : List Nat} (h : l.length = m.length) : splice (U l) 0 (U m) = U m := by
  simp only [splice, List.take_zero, List.nil_append]
  rw [List.drop_of_length_le (by rw [U_length, U_length, h]; omega), List.append_nil]
theorem U_flat (l : List Nat) : ∀ v ∈ U l, flat v = true := by
  intro v hv
  obtain ⟨d, _, rfl⟩ := List.mem_map.1 hv
  rfl

theorem digs_set {b : Nat} (hb : 0 < b) : ∀ (q K m e : Nat), q < K → m < b ^ (q + 1) → m / b ^ q % b + e < b → (digs b K m).set q (m / b ^ q % b + e) = digs b K (m + b ^ q * e)
  | q, 0, _, _, h, _, _ => absurd h (Nat.not_lt_zero _)
  | 0, K + 1, m, e, _, hm, he => by
    simp only [Nat.zero_add, Nat.pow_one] at hm
    simp only [Nat.pow_zero, Nat.div_one, Nat.one_mul] at he ⊢
    rw [Nat.mod_eq_of_lt hm] at he ⊢
    rw [digs, digs, List.set_cons_zero, Nat.mod_eq_of_lt he, Nat.div_eq_of_lt hm, Nat.div_eq_of_lt he]
  | q + 1, K + 1, m, e, h, hm, he => by
    have hdiv : m / b / b ^ q = m / b ^ (q + 1) := by rw [Nat.div_div_eq_div_mul, Nat.pow_succ, Nat.mul_comm b]
    have h1 : m / b < b ^ (q + 1) := by
      apply Nat.div_lt_of_lt_mul
      rw [Nat.mul_comm, ← Nat.pow_succ]; exact hm
    have ih := digs_set hb q K (m / b) e (by omega) h1 (by rw [hdiv]; exact he)
    rw [hdiv] at ih
    have hp : m + b ^ (q + 1) * e = m + b * (b ^ q * e) := by rw [Nat.pow_succ, Nat.mul_comm (b ^ q) b, Nat.mul_assoc]
    rw [digs, digs, List.set_cons_succ, ih, hp, Nat.add_mul_mod_self_left, Nat.add_mul_div_left _ _ hb]
theorem mod_pow_succ (n b k : Nat) : n % b ^ (k + 1) = n % b ^ k + b ^ k * (n / b ^ k % b) := by
  rw [Nat.pow_succ, Nat.mod_mul]

/-! ### spec.Of -/
theorem of_get (n k : Nat) (hk : k < 56) : (digs 65536 28 (n % 256 ^ k))[k / 2]? = some (n % 256 ^ k / 65536 ^ (k / 2) % 65536) := digs_get _ _ _ (by omega)
theorem pow256 (k : Nat) : (256 : Nat) ^ k = 65536 ^ (k / 2) * 2 ^ (8 * (k % 2)) := by
  have h : (65536 : Nat) ^ (k / 2) = 256 ^ (2 * (k / 2)) := by rw [Nat.pow_mul]
  rcases Nat.mod_two_eq_zero_or_one k with h1 | h1
  · rw [h1, h]; simp only [Nat.mul_zero, Nat.pow_zero, Nat.mul_one]; congr 1; omega
  · rw [h1, h, Nat.mul_one, show (2 : Nat) ^ 8 = 256 from rfl, ← Nat.pow_succ]; congr 1; omega
theorem of_step (n k : Nat) (hk : k < 56) : (digs 65536 28 (n % 256 ^ k)).set (k / 2) ((n % 256 ^ k / 65536 ^ (k / 2) % 65536 + n / 256 ^ k % 256 * 2 ^ (8 * (k % 2)) % 18446744073709551616) % 18446744073709551616) = digs 65536 28 (n % 256 ^ (k + 1)) := by
  have hm : n % 256 ^ k < 256 ^ k := Nat.mod_lt _ (Nat.pow_pos (by decide))
  have hb : n / 256 ^ k % 256 < 256 := Nat.mod_lt _ (by decide)
  have hq : n % 256 ^ k / 65536 ^ (k / 2) < 2 ^ (8 * (k % 2)) := by
    apply Nat.div_lt_of_lt_mul
    rw [← pow256]; exact hm
  have e1 : (n % 256 ^ k / 65536 ^ (k / 2) % 65536 + n / 256 ^ k % 256 * 2 ^ (8 * (k % 2)) % 18446744073709551616) % 18446744073709551616 = n % 256 ^ k / 65536 ^ (k / 2) % 65536 + n / 256 ^ k % 256 * 2 ^ (8 * (k % 2)) ∧ n % 256 ^ k / 65536 ^ (k / 2) % 65536 + n / 256 ^ k % 256 * 2 ^ (8 * (k % 2)) < 65536 := by
    clear hm
    generalize n % 256 ^ k / 65536 ^ (k / 2) = q at *
    generalize n / 256 ^ k % 256 = e at *
    rcases Nat.mod_two_eq_zero_or_one k with h1 | h1 <;> rw [h1] at hq ⊢ <;> simp only [Nat.mul_zero, Nat.pow_zero, Nat.mul_one, Nat.reducePow] at hq ⊢ <;> omega
  rw [e1.1, digs_set (by decide) (k / 2) 28 _ _ (by omega) ?_ e1.2]
  · rw [mod_pow_succ n 256 k]
    congr 2
    rw [pow256 k, Nat.mul_assoc, Nat.mul_comm (2 ^ (8 * (k % 2)))]
  · have h2 : 2 ^ (8 * (k % 2)) ≤ 65536 := by
      rcases Nat.mod_two_eq_zero_or_one k with h1 | h1 <;> rw [h1] <;> decide
    have : (65536 : Nat) ^ (k / 2 + 1) = 65536 ^ (k / 2) * 65536 := Nat.pow_succ ..
    have h3 : 65536 ^ (k / 2) * 2 ^ (8 * (k % 2)) ≤ 65536 ^ (k / 2) * 65536 := Nat.mul_le_mul_left _ h2
    rw [← pow256] at h3
    omega
/-! ### spec.Bytes -/
theorem bytes_step (n k : Nat) (hk : k < 56) : (digs 256 56 (n % 256 ^ k)).set k (n / 65536 ^ (k / 2) % 65536 / 2 ^ (8 * (k % 2)) % 256) = digs 256 56 (n % 256 ^ (k + 1)) := by
  have hm : n % 256 ^ k < 256 ^ k := Nat.mod_lt _ (Nat.pow_pos (by decide))
  have h0 : n % 256 ^ k / 256 ^ k = 0 := Nat.div_eq_of_lt hm
  have hb : n / 256 ^ k % 256 < 256 := Nat.mod_lt _ (by decide)
  have hp : (256 : Nat) ^ (k + 1) = 256 ^ k * 256 := Nat.pow_succ ..
  have e : n / 65536 ^ (k / 2) % 65536 / 2 ^ (8 * (k % 2)) % 256 = n / 256 ^ k % 256 := by
    rw [pow256 k, ← Nat.div_div_eq_div_mul]
    generalize n / 65536 ^ (k / 2) = q
    rcases Nat.mod_two_eq_zero_or_one k with h1 | h1 <;> rw [h1] <;> simp only [Nat.mul_zero, Nat.pow_zero, Nat.mul_one, Nat.reducePow] <;> omega
  have h := digs_set (b := 256) (by decide) k 56 (n % 256 ^ k) (n / 256 ^ k % 256) hk (by rw [hp]; omega) (by rw [h0]; omega)
  rw [h0, Nat.zero_mod, Nat.zero_add] at h
  rw [e, h, mod_pow_succ n 256 k]
/-! ### spec.P -/
theorem p_step (k : Nat) (hk : k < 28) : (digs 65536 28 (65536 ^ k - 1)).set k 65535 = digs 65536 28 (65536 ^ (k + 1) - 1) := by
  have hpos : 0 < (65536 : Nat) ^ k := Nat.pow_pos (by decide)
  have h0 : (65536 ^ k - 1) / 65536 ^ k = 0 := Nat.div_eq_of_lt (by omega)
  have hp : (65536 : Nat) ^ (k + 1) = 65536 ^ k * 65536 := Nat.pow_succ ..
  have h := digs_set (b := 65536) (by decide) k 28 (65536 ^ k - 1) 65535 hk (by omega) (by rw [h0]; decide)
  rw [h0, Nat.zero_mod, Nat.zero_add] at h
  rw [h]
  congr 1
  omega
theorem p_last : (digs 65536 28 (65536 ^ 28 - 1)).set 14 65534 = digs 65536 28 pp := by decide +kernel
/-! ### spec.Less -/
theorem less_eq {a b j : Nat} (hj : j < 28) (h : a / 65536 ^ (28 - j) = b / 65536 ^ (28 - j)) (hd : a / 65536 ^ (27 - j) % 65536 = b / 65536 ^ (27 - j) % 65536) : a / 65536 ^ (28 - (j + 1)) = b / 65536 ^ (28 - (j + 1)) := by
  have e1 : 28 - (j + 1) = 27 - j := by omega
  have e2 : (65536 : Nat) ^ (28 - j) = 65536 ^ (27 - j) * 65536 := by rw [← Nat.pow_succ]; congr 1; omega
  rw [e2, ← Nat.div_div_eq_div_mul, ← Nat.div_div_eq_div_mul] at h
  rw [e1]
  omega
theorem less_ne {a b j : Nat} (hj : j < 28) (h : a / 65536 ^ (28 - j) = b / 65536 ^ (28 - j)) (hd : a / 65536 ^ (27 - j) % 65536 ≠ b / 65536 ^ (27 - j) % 65536) : decide (a / 65536 ^ (27 - j) % 65536 < b / 65536 ^ (27 - j) % 65536) = decide (a < b) := by
  have e2 : (65536 : Nat) ^ (28 - j) = 65536 ^ (27 - j) * 65536 := by rw [← Nat.pow_succ]; congr 1; omega
  rw [e2, ← Nat.div_div_eq_div_mul, ← Nat.div_div_eq_div_mul] at h
  have hpos : 0 < (65536 : Nat) ^ (27 - j) := Nat.pow_pos (by decide)
  generalize (65536 : Nat) ^ (27 - j) = B at *
  have h1 := Nat.div_add_mod a B
  have h2 := Nat.div_add_mod b B
  have h3 := Nat.mod_lt a hpos
  have h4 := Nat.mod_lt b hpos
  generalize a / B = x at *
  generalize b / B = y at *
  have key : x < y ↔ a < b := by
    constructor
    · intro hlt
      have : B * (x + 1) ≤ B * y := Nat.mul_le_mul_left _ hlt
      rw [Nat.mul_add, Nat.mul_one] at this
      omega
    · intro hlt
      apply Nat.lt_of_not_le
      intro hle
      have hne : y < x := by omega
      have : B * (y + 1) ≤ B * x := Nat.mul_le_mul_left _ hne
      rw [Nat.mul_add, Nat.mul_one] at this
      omega
  have key2 : x % 65536 < y % 65536 ↔ x < y := by omega
  rw [Bool.eq_iff_iff]
  simp only [decide_eq_true_eq]
  exact key2.trans key
theorem less_end {a b : Nat} (h : a / 65536 ^ (28 - 28) = b / 65536 ^ (28 - 28)) : decide (a < b) = false := by
  simp only [Nat.sub_self, Nat.pow_zero, Nat.div_one] at h
  subst h; simp
/-! ### spec.minus -/
/-- The difference of one digit. -/
def mdig (a b c k : Nat) : Nat := a / 65536 ^ k % 65536 + 65536 - b / 65536 ^ k % 65536 - c
theorem mdig_eq (a b c k : Nat) (hc : c ≤ 1) : (((a / 65536 ^ k % 65536 + 65536) % 18446744073709551616 + (18446744073709551616 - b / 65536 ^ k % 65536)) % 18446744073709551616 + (18446744073709551616 - c)) % 18446744073709551616 = mdig a b c k := by
  unfold mdig
  have h1 : a / 65536 ^ k % 65536 < 65536 := Nat.mod_lt _ (by decide)
  have h2 : b / 65536 ^ k % 65536 < 65536 := Nat.mod_lt _ (by decide)
  omega
theorem mdig_lt (a b c k : Nat) : mdig a b c k < 131072 := by
  unfold mdig
  have h1 : a / 65536 ^ k % 65536 < 65536 := Nat.mod_lt _ (by decide)
  omega
theorem mbor_eq (d : Nat) (hd : d < 131072) : (1 + (18446744073709551616 - d / 65536)) % 18446744073709551616 = 1 - d / 65536 := by omega
theorem mstep {a b k r c : Nat} (hk : k < 28) (hr : r < 65536 ^ k) (hc : c ≤ 1) (h : r + b % 65536 ^ k = a % 65536 ^ k + 65536 ^ k * c) :
    (digs 65536 28 r).set k (mdig a b c k % 65536) = digs 65536 28 (r + 65536 ^ k * (mdig a b c k % 65536)) ∧ r + 65536 ^ k * (mdig a b c k % 65536) < 65536 ^ (k + 1) ∧ 1 - mdig a b c k / 65536 ≤ 1 ∧
      r + 65536 ^ k * (mdig a b c k % 65536) + b % 65536 ^ (k + 1) = a % 65536 ^ (k + 1) + 65536 ^ (k + 1) * (1 - mdig a b c k / 65536) := by
  have h0 : r / 65536 ^ k = 0 := Nat.div_eq_of_lt hr
  have hp : (65536 : Nat) ^ (k + 1) = 65536 ^ k * 65536 := Nat.pow_succ ..
  have hd : mdig a b c k % 65536 < 65536 := Nat.mod_lt _ (by decide)
  have hs := digs_set (b := 65536) (by decide) k 28 r (mdig a b c k % 65536) hk (by omega) (by rw [h0]; omega)
  rw [h0, Nat.zero_mod, Nat.zero_add] at hs
  have hmul : 65536 ^ k * (mdig a b c k % 65536) ≤ 65536 ^ k * 65535 := Nat.mul_le_mul_left _ (by omega)
  refine ⟨hs, by rw [hp]; omega, by omega, ?_⟩
  rw [mod_pow_succ b, mod_pow_succ a, hp]
  have h1 : a / 65536 ^ k % 65536 < 65536 := Nat.mod_lt _ (by decide)
  have h2 : b / 65536 ^ k % 65536 < 65536 := Nat.mod_lt _ (by decide)
  have e : mdig a b c k % 65536 + b / 65536 ^ k % 65536 + c = a / 65536 ^ k % 65536 + 65536 * (1 - mdig a b c k / 65536) := by
    unfold mdig; omega
  generalize mdig a b c k % 65536 = d at *
  generalize 1 - mdig a b c k / 65536 = c' at *
  generalize a / 65536 ^ k % 65536 = x at *
  generalize b / 65536 ^ k % 65536 = y at *
  generalize (65536 : Nat) ^ k = B at *
  have e' : B * d + B * y + B * c = B * x + B * 65536 * c' := by
    rw [← Nat.mul_add, ← Nat.mul_add, e, Nat.mul_add, Nat.mul_assoc]
  omega
theorem minus_end {a b r c : Nat} (ha : a < 65536 ^ 28) (hba : b ≤ a) (hr : r < 65536 ^ 28) (h : r + b % 65536 ^ 28 = a % 65536 ^ 28 + 65536 ^ 28 * c) : r = a - b := by
  rw [Nat.mod_eq_of_lt ha, Nat.mod_eq_of_lt (by omega)] at h
  have : c = 0 := by
    rcases Nat.eq_zero_or_pos c with h0 | h0
    · exact h0
    · have : 65536 ^ 28 * 1 ≤ 65536 ^ 28 * c := Nat.mul_le_mul_left _ h0
      omega
  subst this
  omega
/-! ### spec.settle -/
theorem dval_le {D : Nat} : ∀ (l : List Nat), (∀ d ∈ l, d ≤ D) → 65535 * dval 65536 l ≤ D * (65536 ^ l.length - 1)
  | [], _ => by simp [dval]
  | d :: l, h => by
    have ih := dval_le l fun x hx => h x (List.mem_cons_of_mem _ hx)
    have hd := h d (List.mem_cons_self ..)
    have hpos : 0 < (65536 : Nat) ^ l.length := Nat.pow_pos (by decide)
    rw [dval, List.length_cons, Nat.pow_succ]
    generalize (65536 : Nat) ^ l.length = B at *
    generalize dval 65536 l = v at *
    have e : D * (B * 65536 - 1) = 65536 * (D * (B - 1)) + 65535 * D := by
      obtain ⟨m, rfl⟩ := Nat.exists_eq_add_of_lt hpos
      simp only [Nat.zero_add, Nat.add_sub_cancel]
      have : (m + 1) * 65536 - 1 = 65536 * m + 65535 := by omega
      rw [this, Nat.mul_add, Nat.mul_left_comm, Nat.mul_comm D 65535]
    rw [e]
    have : 65535 * (d + 65536 * v) = 65535 * d + 65536 * (65535 * v) := by omega
    rw [this]
    have h1 : 65535 * d ≤ 65535 * D := Nat.mul_le_mul_left _ hd
    have h2 : 65536 * (65535 * v) ≤ 65536 * (D * (B - 1)) := Nat.mul_le_mul_left _ ih
    omega
theorem carry_le {D : Nat} {l : List Nat} (h : ∀ d ∈ l, d ≤ D) : dval 65536 l / 65536 ^ l.length ≤ D / 65535 := by
  have := dval_le l h
  have hpos : 0 < (65536 : Nat) ^ l.length := Nat.pow_pos (by decide)
  rw [Nat.le_div_iff_mul_le (by decide)]
  have h1 : dval 65536 l / 65536 ^ l.length * 65536 ^ l.length ≤ dval 65536 l := Nat.div_mul_le_self _ _
  generalize (65536 : Nat) ^ l.length = B at *
  generalize dval 65536 l = v at *
  generalize v / B = q at *
  apply Nat.le_of_not_lt
  intro hlt
  have h2 : (D + 1) * B ≤ q * 65535 * B := Nat.mul_le_mul_right _ hlt
  have h3 : D * (B - 1) ≤ D * B := Nat.mul_le_mul_left _ (by omega)
  have h4 : q * 65535 * B = 65535 * (q * B) := by rw [Nat.mul_right_comm, Nat.mul_comm]
  have h5 : (D + 1) * B = D * B + B := by rw [Nat.add_mul, Nat.one_mul]
  omega
/-- The content and the carry in the middle of a pass. -/
def midc (l : List Nat) (k : Nat) : List Nat := digs 65536 k (dval 65536 (l.take k)) ++ l.drop k
def midr (l : List Nat) (k : Nat) : Nat := dval 65536 (l.take k) / 65536 ^ k
theorem midc_length {l : List Nat} (hl : l.length = 28) {k : Nat} (hk : k ≤ 28) : (midc l k).length = 28 := by
  simp [midc, digs_length]; omega
theorem midr_le {l : List Nat} (hl : l.length = 28) (h : ∀ d ∈ l, d ≤ 4611686018427387904) {k : Nat} (hk : k ≤ 28) : midr l k ≤ 70370817703968 := by
  have hlen : (l.take k).length = k := by simp; omega
  have := carry_le (l := l.take k) (D := 4611686018427387904) fun d hd => h d (List.mem_of_mem_take hd)
  rw [hlen] at this
  exact Nat.le_trans this (by decide)
theorem mid_step {l : List Nat} (hl : l.length = 28) {k d : Nat} (hk : k < 28) (hd : l[k]? = some d) :
    (midc l k).set k ((midr l k + d) % 65536) = midc l (k + 1) ∧ (midr l k + d) / 65536 = midr l (k + 1) := by
  have hlen : (l.take k).length = k := by simp; omega
  obtain ⟨h1, h2⟩ := List.getElem?_eq_some_iff.1 hd
  have ht : l.take (k + 1) = l.take k ++ [d] := by rw [List.take_succ_eq_append_getElem h1, h2]
  have hv : dval 65536 (l.take (k + 1)) = dval 65536 (l.take k) + 65536 ^ k * d := by rw [ht, dval_append, hlen]; simp [dval]
  have hpos : 0 < (65536 : Nat) ^ k := Nat.pow_pos (by decide)
  have hq : (dval 65536 (l.take k) + 65536 ^ k * d) / 65536 ^ k = midr l k + d := by rw [Nat.add_mul_div_left _ _ hpos]; rfl
  constructor
  · unfold midc
    rw [hv, digs_add 65536 k 1, hq]
    have e : digs 65536 k (dval 65536 (l.take k) + 65536 ^ k * d) = digs 65536 k (dval 65536 (l.take k)) := by
      rw [← digs_mod, Nat.add_mul_mod_self_left, digs_mod]
    rw [e, List.set_append_right _ _ (by rw [digs_length]; exact Nat.le_refl _), digs_length, Nat.sub_self]
    rw [List.drop_eq_getElem_cons h1, List.set_cons_zero]
    simp [digs]
  · unfold midr
    rw [hv, Nat.pow_succ, ← Nat.div_div_eq_div_mul, hq]
    rfl
theorem mid_get {l : List Nat} (hl : l.length = 28) {k : Nat} (hk : k < 28) : ∃ d, l[k]? = some d := ⟨_, List.getElem?_eq_getElem (by omega)⟩
/-- What a pass leaves: the digits below 2^448, the carry at both its places. -/
def passed (l : List Nat) : List Nat := ((midc l 28).set 0 ((dval 65536 l % RR) % 65536 + dval 65536 l / RR)).set 14 ((dval 65536 l % RR) / 65536 ^ 14 % 65536 + dval 65536 l / RR)
theorem RR_pow : (65536 : Nat) ^ 28 = RR := by decide +kernel
theorem mid_end {l : List Nat} (hl : l.length = 28) : midc l 28 = digs 65536 28 (dval 65536 l % RR) ∧ midr l 28 = dval 65536 l / RR := by
  have ht : l.take 28 = l := List.take_of_length_le (by omega)
  have hd : l.drop 28 = [] := List.drop_of_length_le (by omega)
  constructor
  · unfold midc
    rw [ht, hd, List.append_nil, ← RR_pow, digs_mod]
  · unfold midr
    rw [ht, RR_pow]
theorem dval_set : ∀ (l : List Nat) (k d : Nat), k < l.length → dval 65536 (l.set k d) + 65536 ^ k * l.getD k 0 = dval 65536 l + 65536 ^ k * d
  | [], _, _, h => absurd h (Nat.not_lt_zero _)
  | x :: l, 0, d, _ => by simp [dval]; omega
  | x :: l, k + 1, d, h => by
    have ih := dval_set l k d (by simpa using h)
    rw [List.set_cons_succ, dval, dval, List.getD_cons_succ, Nat.pow_succ]
    generalize dval 65536 (l.set k d) = u at *
    generalize dval 65536 l = v at *
    generalize l.getD k 0 = y at *
    have e1 : (65536 : Nat) ^ k * 65536 * y = 65536 * (65536 ^ k * y) := by rw [Nat.mul_right_comm, Nat.mul_comm]
    have e2 : (65536 : Nat) ^ k * 65536 * d = 65536 * (65536 ^ k * d) := by rw [Nat.mul_right_comm, Nat.mul_comm]
    rw [e1, e2]
    omega
theorem passed_val {l : List Nat} (hl : l.length = 28) : dval 65536 (passed l) = dval 65536 l % RR + dval 65536 l / RR + 26959946667150639794667015087019630673637144422540572481103610249216 * (dval 65536 l / RR) := by
  unfold passed
  rw [(mid_end hl).1]
  generalize dval 65536 l / RR = c
  have hr : dval 65536 l % RR < RR := Nat.mod_lt _ (by decide)
  generalize dval 65536 l % RR = r at *
  have h1 := dval_set (digs 65536 28 r) 0 (r % 65536 + c) (by rw [digs_length]; decide)
  have h2 := dval_set ((digs 65536 28 r).set 0 (r % 65536 + c)) 14 (r / 65536 ^ 14 % 65536 + c) (by rw [List.length_set, digs_length]; decide)
  have g1 : (digs 65536 28 r).getD 0 0 = r % 65536 := by
    rw [List.getD_eq_getElem?_getD, digs_get 28 r 0 (by decide), Nat.pow_zero, Nat.div_one]; rfl
  have g2 : ((digs 65536 28 r).set 0 (r % 65536 + c)).getD 14 0 = r / 65536 ^ 14 % 65536 := by
    rw [List.getD_eq_getElem?_getD, List.getElem?_set_ne (by decide), digs_get 28 r 14 (by decide)]; rfl
  rw [g1, dval_digs, RR_pow, Nat.mod_eq_of_lt hr] at h1
  rw [g2] at h2
  generalize dval 65536 ((digs 65536 28 r).set 0 (r % 65536 + c)) = u at *
  have p14 : (65536 : Nat) ^ 14 = 26959946667150639794667015087019630673637144422540572481103610249216 := by decide +kernel
  rw [p14] at h2 ⊢
  generalize r / 26959946667150639794667015087019630673637144422540572481103610249216 % 65536 = y at *
  simp only [Nat.pow_zero, Nat.one_mul] at h1
  omega
theorem passed_mod {l : List Nat} (hl : l.length = 28) : dval 65536 (passed l) % pp = dval 65536 l % pp := by
  rw [passed_val hl]
  have h := Nat.div_add_mod (dval 65536 l) RR
  generalize dval 65536 l / RR = c at *
  generalize dval 65536 l % RR = r at *
  have e : RR = pp + 1 + 26959946667150639794667015087019630673637144422540572481103610249216 := by decide +kernel
  have : dval 65536 l = r + c + 26959946667150639794667015087019630673637144422540572481103610249216 * c + pp * c := by
    rw [← h, e, Nat.add_mul, Nat.add_mul, Nat.one_mul]; omega
  rw [this, Nat.add_mul_mod_self_left]
theorem passed_lt {l : List Nat} (hl : l.length = 28) (hc : 0 < dval 65536 l / RR) : dval 65536 (passed l) < dval 65536 l := by
  rw [passed_val hl]
  have h := Nat.div_add_mod (dval 65536 l) RR
  generalize dval 65536 l / RR = c at *
  generalize dval 65536 l % RR = r at *
  unfold RR at h
  omega
theorem passed_length {l : List Nat} (hl : l.length = 28) : (passed l).length = 28 := by
  simp only [passed, List.length_set, midc_length hl (Nat.le_refl _)]
theorem passed_le {l : List Nat} (hl : l.length = 28) (h : ∀ d ∈ l, d ≤ 4611686018427387904) : ∀ d ∈ passed l, d ≤ 4611686018427387904 := by
  have hc : dval 65536 l / RR ≤ 70370817703968 := by rw [← (mid_end hl).2]; exact midr_le hl h (Nat.le_refl _)
  intro d hd
  unfold passed at hd
  rcases List.mem_or_eq_of_mem_set hd with hd | rfl
  · rcases List.mem_or_eq_of_mem_set hd with hd | rfl
    · rw [(mid_end hl).1] at hd
      have := digs_lt (by decide) _ _ d hd
      omega
    · have := Nat.mod_lt (dval 65536 l % RR) (show 0 < 65536 by decide)
      omega
  · have := Nat.mod_lt (dval 65536 l % RR / 65536 ^ 14) (show 0 < 65536 by decide)
    omega
theorem passed_done {l : List Nat} (hl : l.length = 28) (hc : dval 65536 l / RR = 0) : passed l = digs 65536 28 (dval 65536 l) ∧ dval 65536 l < RR := by
  have hlt : dval 65536 l < RR := by
    have h := Nat.div_add_mod (dval 65536 l) RR
    have := Nat.mod_lt (dval 65536 l) (show 0 < RR by decide)
    rw [hc] at h
    omega
  refine ⟨?_, hlt⟩
  unfold passed
  rw [(mid_end hl).1, hc, Nat.mod_eq_of_lt hlt, Nat.add_zero, Nat.add_zero]
  have s0 : (digs 65536 28 (dval 65536 l)).set 0 (dval 65536 l % 65536) = digs 65536 28 (dval 65536 l) := by
    apply List.ext_getElem?
    intro i
    rw [List.getElem?_set]
    split
    · rename_i h; subst h
      rw [digs_get 28 _ 0 (by decide)]; simp [digs_length]
    · rfl
  rw [s0]
  apply List.ext_getElem?
  intro i
  rw [List.getElem?_set]
  split
  · rename_i h; subst h
    rw [digs_get 28 _ 14 (by decide)]; simp [digs_length]
  · rfl
end Go.Proofs.YtjlhhcdefcofkaaGreatDoor
