/- The reference's product and its folding, as plain arithmetic on lists of digits. -/
import Derived.Test.YtjlhhcdefcofkaaGreatDoorSpecPlain
namespace Go.Proofs.YtjlhhcdefcofkaaGreatDoor
open Go

theorem dval_addAt {b : Nat} : ∀ (l : List Nat) (k x y : Nat), l[k]? = some x → dval b (l.set k (x + y)) = dval b l + b ^ k * y
  | [], k, x, y, h => by simp at h
  | d :: l, 0, x, y, h => by
    simp only [List.getElem?_cons_zero, Option.some.injEq] at h
    subst h
    simp only [List.set_cons_zero, dval, Nat.pow_zero, Nat.one_mul]
    omega
  | d :: l, k + 1, x, y, h => by
    simp only [List.getElem?_cons_succ] at h
    have ih := dval_addAt (b := b) l k x y h
    rw [List.set_cons_succ, dval, dval, ih, Nat.pow_succ, Nat.mul_add, Nat.mul_comm (b ^ k) b, Nat.mul_assoc, Nat.add_assoc]
theorem mem_set_le {l : List Nat} {k x y B : Nat} (hl : ∀ d ∈ l, d ≤ B) (h : l[k]? = some x) {C : Nat} (hy : y ≤ C) : ∀ d ∈ l.set k (x + y), d ≤ B + C := by
  intro d hd
  rcases List.mem_or_eq_of_mem_set hd with hd | rfl
  · have := hl d hd; omega
  · have := hl x (List.mem_of_getElem? h); omega
theorem getD_some {l : List Nat} {k : Nat} (h : k < l.length) : l[k]? = some (l.getD k 0) := by
  rw [List.getD_eq_getElem?_getD, List.getElem?_eq_getElem h]; rfl
theorem dig_mul {a b i j : Nat} : a / 65536 ^ i % 65536 * (b / 65536 ^ j % 65536) ≤ 4294836225 :=
  Nat.mul_le_mul (Nat.le_of_lt_succ (Nat.mod_lt _ (by decide))) (Nat.le_of_lt_succ (Nat.mod_lt _ (by decide)))

def PInv (a b i j : Nat) (l : List Nat) : Prop := l.length = 56 ∧ (∀ d ∈ l, d ≤ (28 * i + j) * 4294836225) ∧ dval 65536 l = a % 65536 ^ i * b + 65536 ^ i * (a / 65536 ^ i % 65536 * (b % 65536 ^ j))
theorem pinv_zero {a b : Nat} : PInv a b 0 0 (List.replicate 56 0) := by
  refine ⟨rfl, fun d hd => by rw [List.eq_of_mem_replicate hd]; exact Nat.zero_le _, ?_⟩
  have h : dval 65536 (List.replicate 56 0) = 0 := by decide
  rw [h, Nat.pow_zero, Nat.mod_one, Nat.mod_one, Nat.mul_zero, Nat.mul_zero, Nat.zero_mul]
def prow (a b i j : Nat) (l : List Nat) : List Nat := l.set (i + j) (l.getD (i + j) 0 + a / 65536 ^ i % 65536 * (b / 65536 ^ j % 65536))
theorem pinv_step {a b i j : Nat} {l : List Nat} (hi : i < 28) (hj : j < 28) (h : PInv a b i j l) : PInv a b i (j + 1) (prow a b i j l) := by
  obtain ⟨h1, h2, h3⟩ := h
  have hg := getD_some (l := l) (k := i + j) (by omega)
  refine ⟨by rw [prow, List.length_set, h1], ?_, ?_⟩
  · have := mem_set_le h2 hg (dig_mul (a := a) (b := b) (i := i) (j := j))
    intro d hd
    have := this d hd
    omega
  · rw [prow, dval_addAt _ _ _ _ hg, h3, Nat.pow_add]
    have e : b % 65536 ^ (j + 1) = b % 65536 ^ j + 65536 ^ j * (b / 65536 ^ j % 65536) := by rw [Nat.pow_succ, Nat.mod_mul]
    rw [e]
    generalize 65536 ^ i = p
    generalize 65536 ^ j = q
    generalize a / p % 65536 = x
    generalize b / q % 65536 = y
    generalize b % q = z
    grind
theorem pinv_round {a b i : Nat} {l : List Nat} (hb : b < 65536 ^ 28) (h : PInv a b i 28 l) : PInv a b (i + 1) 0 l := by
  obtain ⟨h1, h2, h3⟩ := h
  refine ⟨h1, fun d hd => ?_, ?_⟩
  · have := h2 d hd; omega
  · rw [h3, Nat.mod_eq_of_lt hb]
    have e : a % 65536 ^ (i + 1) = a % 65536 ^ i + 65536 ^ i * (a / 65536 ^ i % 65536) := by rw [Nat.pow_succ, Nat.mod_mul]
    rw [e, Nat.pow_zero, Nat.mod_one, Nat.mul_zero, Nat.mul_zero, Nat.add_zero]
    generalize 65536 ^ i = p
    generalize a / p % 65536 = x
    generalize a % p = z
    grind
theorem pinv_small {a b i j : Nat} {l : List Nat} (hi : i < 28) (hj : j < 28) (h : PInv a b i j l) : (l.getD (i + j) 0 + a / 65536 ^ i % 65536 * (b / 65536 ^ j % 65536) % 18446744073709551616) % 18446744073709551616 = l.getD (i + j) 0 + a / 65536 ^ i % 65536 * (b / 65536 ^ j % 65536) := by
  have hg := getD_some (l := l) (k := i + j) (by have := h.1; omega)
  have h1 := h.2.1 _ (List.mem_of_getElem? hg)
  have h2 := dig_mul (a := a) (b := b) (i := i) (j := j)
  generalize l.getD (i + j) 0 = x at *
  generalize a / 65536 ^ i % 65536 * (b / 65536 ^ j % 65536) = y at *
  omega
theorem pinv_end {a b : Nat} {l : List Nat} (ha : a < 65536 ^ 28) (h : PInv a b 28 0 l) : l.length = 56 ∧ (∀ d ∈ l, d ≤ 3367151600400) ∧ dval 65536 l = a * b := by
  obtain ⟨h1, h2, h3⟩ := h
  refine ⟨h1, fun d hd => Nat.le_trans (h2 d hd) (by decide), ?_⟩
  rw [h3, Nat.mod_eq_of_lt ha, Nat.pow_zero, Nat.mod_one, Nat.mul_zero, Nat.mul_zero, Nat.add_zero]

/-! ### Folding: the words from w on are added at 0 and at 14 -/
def frow (k w : Nat) (l : List Nat) : List Nat := (l.set k (l.getD k 0 + w)).set (k + 14) ((l.set k (l.getD k 0 + w)).getD (k + 14) 0 + w)
/-- q: the words that take; p: all words. -/
def FInv (p : List Nat) (n k D : Nat) (l : List Nat) : Prop := l.length = n ∧ (∀ d ∈ l, d ≤ (1 + 2 * k) * D) ∧ dval 65536 l = dval 65536 (p.take 28) + (1 + 65536 ^ 14) * dval 65536 ((p.drop 28).take k)
theorem dval_take_succ {b : Nat} : ∀ (l : List Nat) (k w : Nat), l[k]? = some w → dval b (l.take (k + 1)) = dval b (l.take k) + b ^ k * w
  | [], k, w, h => by simp at h
  | d :: l, 0, w, h => by
    simp only [List.getElem?_cons_zero, Option.some.injEq] at h
    subst h
    simp [dval]
  | d :: l, k + 1, w, h => by
    simp only [List.getElem?_cons_succ] at h
    have ih := dval_take_succ (b := b) l k w h
    rw [List.take_succ_cons, List.take_succ_cons, dval, dval, ih, Nat.pow_succ, Nat.mul_add, Nat.mul_comm (b ^ k) b, Nat.mul_assoc, Nat.add_assoc]
theorem finv_step {p l : List Nat} {n k D w : Nat} (hn : k + 14 < n) (hw : (p.drop 28)[k]? = some w) (hp : ∀ d ∈ p, d ≤ D) (h : FInv p n k D l) : FInv p n (k + 1) D (frow k w l) := by
  obtain ⟨h1, h2, h3⟩ := h
  have hwD : w ≤ D := hp w (List.mem_of_mem_drop (List.mem_of_getElem? hw))
  have g1 := getD_some (l := l) (k := k) (by omega)
  have m1 := mem_set_le h2 g1 hwD
  have l1 : (l.set k (l.getD k 0 + w)).length = n := by rw [List.length_set, h1]
  have g2 := getD_some (l := l.set k (l.getD k 0 + w)) (k := k + 14) (by omega)
  have m2 := mem_set_le m1 g2 hwD
  refine ⟨by rw [frow, List.length_set, l1], fun d hd => ?_, ?_⟩
  · have := m2 d hd
    have e : (1 + 2 * (k + 1)) * D = (1 + 2 * k) * D + D + D := by rw [Nat.mul_add 2 k 1, ← Nat.add_assoc, Nat.add_mul (1 + 2 * k)]; omega
    omega
  · rw [frow, dval_addAt _ _ _ _ g2, dval_addAt _ _ _ _ g1, h3, dval_take_succ _ _ _ hw, Nat.pow_add]
    generalize 65536 ^ k = q, dval 65536 (p.take 28) = x, dval 65536 ((p.drop 28).take k) = y
    generalize (65536 : Nat) ^ 14 = r
    grind
theorem finv_small {p l : List Nat} {n k D w : Nat} (hn : k + 14 < n) (hk : k ≤ 27) (hD : D ≤ 184467440737095516) (hw : (p.drop 28)[k]? = some w) (hp : ∀ d ∈ p, d ≤ D) (h : FInv p n k D l) :
    (l.getD k 0 + w) % 18446744073709551616 = l.getD k 0 + w ∧ ((l.set k (l.getD k 0 + w)).getD (k + 14) 0 + w) % 18446744073709551616 = (l.set k (l.getD k 0 + w)).getD (k + 14) 0 + w := by
  obtain ⟨h1, h2, h3⟩ := h
  have hwD : w ≤ D := hp w (List.mem_of_mem_drop (List.mem_of_getElem? hw))
  have g1 := getD_some (l := l) (k := k) (by omega)
  have m1 := mem_set_le h2 g1 hwD
  have g2 := getD_some (l := l.set k (l.getD k 0 + w)) (k := k + 14) (by rw [List.length_set]; omega)
  have b1 := h2 _ (List.mem_of_getElem? g1)
  have b2 := m1 _ (List.mem_of_getElem? g2)
  have hkD : (1 + 2 * k) * D ≤ 55 * D := Nat.mul_le_mul_right _ (by omega)
  constructor
  · exact Nat.mod_eq_of_lt (by omega)
  · exact Nat.mod_eq_of_lt (by omega)
theorem fold_mod {x y : Nat} : (x + (1 + 65536 ^ 14) * y) % pp = (x + 65536 ^ 28 * y) % pp := by
  have e : (65536 : Nat) ^ 28 = pp + (1 + 65536 ^ 14) := by decide +kernel
  have e2 : x + 65536 ^ 28 * y = x + (1 + 65536 ^ 14) * y + pp * y := by rw [e, Nat.add_mul]; omega
  rw [e2, Nat.add_mul_mod_self_left]
theorem dval_split {p : List Nat} (h : 28 ≤ p.length) : dval 65536 p = dval 65536 (p.take 28) + 65536 ^ 28 * dval 65536 (p.drop 28) := by
  have := dval_append 65536 (p.take 28) (p.drop 28)
  rw [List.take_append_drop, List.length_take, Nat.min_eq_left h] at this
  exact this
theorem finv_end {p l : List Nat} {n k D : Nat} (hk : p.length = 28 + k) (h : FInv p n k D l) : dval 65536 l % pp = dval 65536 p % pp := by
  rw [h.2.2, List.take_of_length_le (l := p.drop 28) (by rw [List.length_drop]; omega), fold_mod, ← dval_split (by omega)]
theorem finv_zero {p l : List Nat} {n D : Nat} (hl : l.length = n) (h28 : l.take 28 = p.take 28) (hz : ∀ d ∈ l.drop 28, d = 0) (hn : 28 ≤ n) (hp : ∀ d ∈ p, d ≤ D) : FInv p n 0 D l := by
  refine ⟨hl, fun d hd => ?_, ?_⟩
  · rw [← List.take_append_drop 28 l, List.mem_append] at hd
    rcases hd with hd | hd
    · rw [h28] at hd
      have := hp d (List.mem_of_mem_take hd); omega
    · rw [hz d hd]; exact Nat.zero_le _
  · rw [dval_split (by omega), h28, List.take_zero]
    have hzero : ∀ m : List Nat, (∀ d ∈ m, d = 0) → dval 65536 m = 0 := by
      intro m
      induction m with
      | nil => intro _; rfl
      | cons x m ih =>
        intro hm
        rw [dval, hm x (List.mem_cons_self ..), ih (fun d hd => hm d (List.mem_cons_of_mem _ hd))]
    rw [hzero _ hz]
    simp [dval]
theorem drop_getD {p : List Nat} {k : Nat} (h : 28 + k < p.length) : (p.drop 28)[k]? = some (p.getD (28 + k) 0) := by
  rw [List.getElem?_drop]; exact getD_some h
theorem finv_start {l0 : List Nat} {D : Nat} (h : l0.length = 56) (hD : ∀ d ∈ l0, d ≤ D) : FInv l0 42 0 D (l0.take 28 ++ List.replicate 14 0) := by
  have hl : (l0.take 28).length = 28 := by rw [List.length_take]; omega
  refine finv_zero (by rw [List.length_append, hl, List.length_replicate]) ?_ ?_ (by decide) hD
  · rw [List.take_append_of_le_length (by omega), List.take_of_length_le (by omega)]
  · rw [List.drop_append_of_le_length (by omega), List.drop_of_length_le (by omega), List.nil_append]
    exact fun d hd => List.eq_of_mem_replicate hd
theorem finv_start2 {l : List Nat} {D : Nat} (h : l.length = 42) (hD : ∀ d ∈ l, d ≤ D) : FInv l 28 0 D (l.take 28) := by
  have hl : (l.take 28).length = 28 := by rw [List.length_take]; omega
  refine finv_zero hl ?_ ?_ (by decide) hD
  · rw [List.take_of_length_le (by omega)]
  · rw [List.drop_of_length_le (by omega)]
    intro d hd; cases hd
theorem W_take (l : List Nat) (n : Nat) : (W l).take n = W (l.take n) := by simp [W, List.map_take]
theorem W_head {l : List Nat} {n : Nat} (h : l.length = n) (hn : 28 ≤ n) : (W (l.take 28)).length = 28 ∧ ((W l).drop 0).take 28 = W (l.take 28) ∧ splice (W (List.replicate 42 0)) 0 (W (l.take 28)) = W (l.take 28 ++ List.replicate 14 0) := by
  have hl : (W (l.take 28)).length = 28 := by rw [W_length, List.length_take]; omega
  refine ⟨hl, by rw [List.drop_zero, W_take], ?_⟩
  rw [splice, hl, List.take_zero, List.nil_append]
  simp [W]
theorem W_head2 {l : List Nat} {n : Nat} (h : l.length = n) (hn : 28 ≤ n) : (W (l.take 28)).length = 28 ∧ ((W l).drop 0).take 28 = W (l.take 28) ∧ splice (N 0) 0 (W (l.take 28)) = W (l.take 28) := by
  have hl : (W (l.take 28)).length = 28 := by rw [W_length, List.length_take]; omega
  refine ⟨hl, by rw [List.drop_zero, W_take], ?_⟩
  rw [splice, hl, List.take_zero, List.nil_append, List.drop_of_length_le (by rw [N_length]; decide), List.append_nil]
end Go.Proofs.YtjlhhcdefcofkaaGreatDoor
