/- Plain: digits of numbers, and the cells that hold them. -/
import Derived.Test.YtoagfplhcimghaaOps
namespace Go.Proofs.Ytoagfplhcimghaa
open Go

def digs (b : Nat) : Nat → Nat → List Nat
  | 0, _ => []
  | k + 1, n => n % b :: digs b k (n / b)
def dval (b : Nat) : List Nat → Nat
  | [] => 0
  | d :: l => d + b * dval b l

theorem digs_length (b : Nat) : ∀ k n, (digs b k n).length = k
  | 0, _ => rfl
  | k + 1, n => by simp [digs, digs_length b k]
theorem digs_lt {b : Nat} (hb : 0 < b) : ∀ k n, ∀ d ∈ digs b k n, d < b
  | 0, _, d, h => by simp [digs] at h
  | k + 1, n, d, h => by
    rcases List.mem_cons.1 h with rfl | h
    · exact Nat.mod_lt _ hb
    · exact digs_lt hb k _ d h
theorem dval_digs (b : Nat) : ∀ k n, dval b (digs b k n) = n % b ^ k
  | 0, n => by simp [digs, dval, Nat.mod_one]
  | k + 1, n => by
    rw [digs, dval, dval_digs b k, Nat.pow_succ, Nat.mul_comm (b ^ k) b, Nat.mod_mul]
theorem digs_dval {b : Nat} : ∀ (l : List Nat), (∀ d ∈ l, d < b) → digs b l.length (dval b l) = l
  | [], _ => rfl
  | d :: l, h => by
    have hd := h d (List.mem_cons_self ..)
    have hb : 0 < b := by omega
    rw [List.length_cons, digs, dval, Nat.add_mul_mod_self_left, Nat.mod_eq_of_lt hd, Nat.add_mul_div_left _ _ hb, Nat.div_eq_of_lt hd, Nat.zero_add, digs_dval l fun x hx => h x (List.mem_cons_of_mem _ hx)]
theorem dval_lt {b : Nat} : ∀ (l : List Nat), (∀ d ∈ l, d < b) → dval b l < b ^ l.length
  | [], _ => by simp [dval]
  | d :: l, h => by
    have hd := h d (List.mem_cons_self ..)
    have ih := dval_lt l fun x hx => h x (List.mem_cons_of_mem _ hx)
    rw [dval, List.length_cons, Nat.pow_succ]
    have : b * (dval b l + 1) ≤ b * b ^ l.length := Nat.mul_le_mul_left _ ih
    rw [Nat.mul_add, Nat.mul_one] at this
    rw [Nat.mul_comm (b ^ l.length) b]
    omega
theorem dval_append (b : Nat) : ∀ (l m : List Nat), dval b (l ++ m) = dval b l + b ^ l.length * dval b m
  | [], m => by simp [dval]
  | d :: l, m => by
    rw [List.cons_append, dval, dval, dval_append b l m, List.length_cons, Nat.pow_succ, Nat.mul_add, Nat.mul_comm (b ^ l.length) b, Nat.mul_assoc, Nat.add_assoc]
theorem digs_add (b : Nat) : ∀ j k n, digs b (j + k) n = digs b j n ++ digs b k (n / b ^ j)
  | 0, k, n => by simp [digs]
  | j + 1, k, n => by
    rw [Nat.add_right_comm, digs, digs_add b j k, digs, List.cons_append, Nat.div_div_eq_div_mul, Nat.pow_succ, Nat.mul_comm b (b ^ j)]
theorem digs_take (b : Nat) {j k : Nat} (h : j ≤ k) (n : Nat) : (digs b k n).take j = digs b j n := by
  obtain ⟨m, rfl⟩ := Nat.exists_eq_add_of_le h
  rw [digs_add, List.take_append_of_le_length (by rw [digs_length]; exact Nat.le_refl _), List.take_of_length_le (by rw [digs_length]; exact Nat.le_refl _)]
theorem digs_drop (b : Nat) {j k : Nat} (h : j ≤ k) (n : Nat) : (digs b k n).drop j = digs b (k - j) (n / b ^ j) := by
  obtain ⟨m, rfl⟩ := Nat.exists_eq_add_of_le h
  rw [digs_add, List.drop_append_of_le_length (by rw [digs_length]; exact Nat.le_refl _), List.drop_of_length_le (by rw [digs_length]; exact Nat.le_refl _), Nat.add_sub_cancel_left]
  rfl
theorem digs_mod (b : Nat) : ∀ k n, digs b k (n % b ^ k) = digs b k n
  | 0, _ => rfl
  | k + 1, n => by
    rw [digs, digs, Nat.pow_succ, Nat.mul_comm (b ^ k) b, Nat.mod_mul_right_mod, Nat.mod_mul_right_div_self, digs_mod b k]
theorem digs_inj {b k n m : Nat} (h : digs b k n = digs b k m) (hn : n < b ^ k) (hm : m < b ^ k) : n = m := by
  have := congrArg (dval b) h
  rwa [dval_digs, dval_digs, Nat.mod_eq_of_lt hn, Nat.mod_eq_of_lt hm] at this
theorem digs_get {b : Nat} : ∀ (k n j : Nat), j < k → (digs b k n)[j]? = some (n / b ^ j % b)
  | 0, _, j, h => absurd h (Nat.not_lt_zero _)
  | k + 1, n, 0, _ => by simp [digs]
  | k + 1, n, j + 1, h => by
    rw [digs, List.getElem?_cons_succ, digs_get k _ j (by omega), Nat.div_div_eq_div_mul, Nat.pow_succ, Nat.mul_comm b (b ^ j)]

def u8V (d : Nat) : Value := .int .u8 (d : Int)
def u64V (d : Nat) : Value := .int .u64 (d : Int)

/-- An element's 56 bytes; eight bytes of a word; 28 digits of 16 bits; seven words. -/
def E (n : Nat) : List Value := (digs 256 56 n).map u8V
def B8 (x : Nat) : List Value := (digs 256 8 x).map u8V
def N (n : Nat) : List Value := (digs 65536 28 n).map u64V
def W7 (n : Nat) : List Value := (digs 18446744073709551616 7 n).map u64V
/-- Elements side by side. -/
def EE : List Nat → List Value
  | [] => []
  | a :: l => E a ++ EE l

theorem E_length (n : Nat) : (E n).length = 56 := by simp [E, digs_length]
theorem N_length (n : Nat) : (N n).length = 28 := by simp [N, digs_length]
theorem B8_length (n : Nat) : (B8 n).length = 8 := by simp [B8, digs_length]
theorem EE_length : ∀ l, (EE l).length = 56 * l.length
  | [] => rfl
  | a :: l => by rw [EE, List.length_append, E_length, EE_length l, List.length_cons]; omega
theorem E_flat (n : Nat) : ∀ v ∈ E n, flat v = true := by
  intro v hv
  obtain ⟨d, _, rfl⟩ := List.mem_map.1 hv
  rfl
theorem N_flat (n : Nat) : ∀ v ∈ N n, flat v = true := by
  intro v hv
  obtain ⟨d, _, rfl⟩ := List.mem_map.1 hv
  rfl
theorem EE_flat : ∀ l, ∀ v ∈ EE l, flat v = true
  | [], v, h => by simp [EE] at h
  | a :: l, v, h => by
    rcases List.mem_append.1 h with h | h
    · exact E_flat a v h
    · exact EE_flat l v h
theorem EE_one (n : Nat) : EE [n] = E n := by simp [EE]

theorem EE_drop : ∀ (l : List Nat) (k : Nat), (EE l).drop (56 * k) = EE (l.drop k)
  | [], k => by simp [EE]
  | a :: l, 0 => rfl
  | a :: l, k + 1 => by
    rw [EE, List.drop_append, E_length, List.drop_of_length_le (by rw [E_length]; omega), List.nil_append, List.drop_succ_cons]
    have : 56 * (k + 1) - 56 = 56 * k := by omega
    rw [this, EE_drop l k]
theorem EE_at {l : List Nat} {k off n : Nat} {a : Nat} (hk : l[k]? = some a) (ho : 56 * k = off) (hn : 56 = n) : ((EE l).drop off).take n = E a := by
  subst ho; subst hn
  rw [EE_drop]
  obtain ⟨h1, h2⟩ := List.getElem?_eq_some_iff.1 hk
  rw [List.drop_eq_getElem_cons h1, h2, EE, List.take_append_of_le_length (by rw [E_length]; exact Nat.le_refl _), List.take_of_length_le (by rw [E_length]; exact Nat.le_refl _)]
theorem EE_all {l : List Nat} {n : Nat} (hn : 56 * l.length = n) : ((EE l).drop 0).take n = EE l := by
  subst hn
  rw [List.drop_zero, List.take_of_length_le (by rw [EE_length]; exact Nat.le_refl _)]
theorem EE_over {l m : List Nat} (h : l.length = m.length) : splice (EE l) 0 (EE m) = EE m := by
  simp only [splice, List.take_zero, List.nil_append]
  rw [List.drop_of_length_le (by rw [EE_length, EE_length, h]; omega), List.append_nil]
def W (l : List Nat) : List Value := l.map u64V
theorem N_at (a : Nat) : ((N a).drop 0).take 28 = N a := by
  rw [List.drop_zero, List.take_of_length_le (by rw [N_length]; exact Nat.le_refl _)]
theorem N_over {a b : Nat} : splice (N a) 0 (N b) = N b := by
  simp only [splice, List.take_zero, List.nil_append]
  rw [List.drop_of_length_le (by rw [N_length, N_length]; omega), List.append_nil]
theorem E_box (a : Nat) : Value.cells (.agg (E a).toArray) = (EE [a]).toArray := by
  simp [Value.cells, EE]
theorem E_at (a : Nat) : ((E a).drop 0).take 56 = E a := by
  rw [List.drop_zero, List.take_of_length_le (by rw [E_length]; exact Nat.le_refl _)]
theorem EE_splice {b : Nat} : ∀ (l : List Nat) (k : Nat), k < l.length → splice (EE l) (56 * k) (E b) = EE (l.set k b)
  | [], k, h => absurd h (Nat.not_lt_zero _)
  | a :: l, 0, _ => by
    simp only [splice, E_length, Nat.mul_zero, List.take_zero, List.nil_append, List.set_cons_zero, EE, Nat.zero_add]
    rw [List.drop_append, E_length, List.drop_of_length_le (by rw [E_length]; omega), Nat.sub_self]
    simp
  | a :: l, k + 1, h => by
    have ih := EE_splice (b := b) l k (by simpa using h)
    simp only [splice, E_length] at ih ⊢
    rw [List.set_cons_succ, EE, EE, ← ih]
    have e1 : 56 * (k + 1) = 56 + 56 * k := by omega
    have e2 : 56 + 56 * k + 56 = 56 + (56 * k + 56) := by omega
    rw [e1, e2, List.take_append, List.drop_append, E_length, List.take_of_length_le (by rw [E_length]; omega), List.drop_of_length_le (by rw [E_length]; omega)]
    simp
theorem EE_set {l : List Nat} {k off b : Nat} (hk : k < l.length) (ho : 56 * k = off) : splice (EE l) off (E b) = EE (l.set k b) := by
  subst ho; exact EE_splice l k hk

theorem splice_splice {cs u v : List Value} {a : Nat} (h : a + u.length ≤ cs.length) : splice (splice cs a u) (a + u.length) v = splice cs a (u ++ v) := by
  have h1 : (cs.take a).length = a := by simp; omega
  simp only [splice]
  have e1 : (cs.take a ++ u ++ cs.drop (a + u.length)).take (a + u.length) = cs.take a ++ u := by
    rw [List.take_append_of_le_length (by simp; omega), List.take_of_length_le (by simp; omega)]
  have e2 : (cs.take a ++ u ++ cs.drop (a + u.length)).drop (a + u.length + v.length) = cs.drop (a + (u ++ v).length) := by
    rw [List.drop_append, List.drop_of_length_le (by simp; omega)]
    simp only [List.length_append, h1, List.nil_append, List.drop_drop]
    congr 1
    omega
  rw [e1, e2]
  simp
theorem splice_length {cs u : List Value} {a : Nat} (h : a + u.length ≤ cs.length) : (splice cs a u).length = cs.length := by
  simp [splice]; omega

/-- Eight bytes of an element: a word. -/
theorem E_word (a i : Nat) (hi : i < 7) : ((E a).drop (8 * i)).take 8 = B8 (a / 256 ^ (8 * i)) := by
  rw [E, ← List.map_drop, digs_drop 256 (by omega), ← List.map_take, digs_take 256 (by omega)]
  rfl
theorem EE_word {l : List Nat} {k a : Nat} (hk : l[k]? = some a) {i off : Nat} (hi : i < 7) (ho : 56 * k + 8 * i = off) : ((EE l).drop off).take 8 = B8 (a / 256 ^ (8 * i)) := by
  subst ho
  rw [← List.drop_drop, EE_drop]
  obtain ⟨h1, h2⟩ := List.getElem?_eq_some_iff.1 hk
  rw [List.drop_eq_getElem_cons h1, h2, EE, List.drop_append_of_le_length (by rw [E_length]; omega), List.take_append_of_le_length (by rw [List.length_drop, E_length]; omega)]
  exact E_word a i hi

theorem B8_mod (x : Nat) : B8 (x % 18446744073709551616) = B8 x := by
  have : (18446744073709551616 : Nat) = 256 ^ 8 := rfl
  rw [B8, B8, this, digs_mod]
/-- Seven words side by side are an element. -/
theorem B8_seven (n : Nat) : B8 n ++ B8 (n / 256 ^ 8) ++ B8 (n / 256 ^ 16) ++ B8 (n / 256 ^ 24) ++ B8 (n / 256 ^ 32) ++ B8 (n / 256 ^ 40) ++ B8 (n / 256 ^ 48) = E n := by
  have e : ∀ j, digs 256 (j + 8) n = digs 256 j n ++ digs 256 8 (n / 256 ^ j) := fun j => digs_add 256 j 8 n
  have h := e 48
  rw [e 40, e 32, e 24, e 16, e 8] at h
  unfold B8 E
  rw [h]
  simp only [List.map_append]
end Go.Proofs.Ytoagfplhcimghaa
