/- Numbers of 28 digits side by side. -/
import Derived.Test.YtjlhhcdefcofkaaGreatDoorEngA
namespace Go.Proofs.YtjlhhcdefcofkaaGreatDoor
open Go
def NN : List Nat → List Value
  | [] => []
  | a :: l => N a ++ NN l
theorem NN_length : ∀ l, (NN l).length = 28 * l.length
  | [] => rfl
  | a :: l => by rw [NN, List.length_append, N_length, NN_length l, List.length_cons]; omega
theorem NN_flat : ∀ l, ∀ v ∈ NN l, flat v = true
  | [], v, h => by simp [NN] at h
  | a :: l, v, h => by
    rcases List.mem_append.1 h with h | h
    · exact N_flat a v h
    · exact NN_flat l v h
theorem NN_one (n : Nat) : NN [n] = N n := by simp [NN]
theorem NN_drop : ∀ (l : List Nat) (k : Nat), (NN l).drop (28 * k) = NN (l.drop k)
  | [], k => by simp [NN]
  | a :: l, 0 => rfl
  | a :: l, k + 1 => by
    rw [NN, List.drop_append, N_length, List.drop_of_length_le (by rw [N_length]; omega), List.nil_append, List.drop_succ_cons]
    have : 28 * (k + 1) - 28 = 28 * k := by omega
    rw [this, NN_drop l k]
theorem NN_at {l : List Nat} {k off n : Nat} {a : Nat} (hk : l[k]? = some a) (ho : 28 * k = off) (hn : 28 = n) : ((NN l).drop off).take n = N a := by
  subst ho; subst hn
  rw [NN_drop]
  obtain ⟨h1, h2⟩ := List.getElem?_eq_some_iff.1 hk
  rw [List.drop_eq_getElem_cons h1, h2, NN, List.take_append_of_le_length (by rw [N_length]; exact Nat.le_refl _), List.take_of_length_le (by rw [N_length]; exact Nat.le_refl _)]
theorem NN_all {l : List Nat} {n : Nat} (hn : 28 * l.length = n) : ((NN l).drop 0).take n = NN l := by
  subst hn
  rw [List.drop_zero, List.take_of_length_le (by rw [NN_length]; exact Nat.le_refl _)]
theorem NN_over {l m : List Nat} (h : l.length = m.length) : splice (NN l) 0 (NN m) = NN m := by
  simp only [splice, List.take_zero, List.nil_append]
  rw [List.drop_of_length_le (by rw [NN_length, NN_length, h]; omega), List.append_nil]
theorem NN_splice {b : Nat} : ∀ (l : List Nat) (k : Nat), k < l.length → splice (NN l) (28 * k) (N b) = NN (l.set k b)
  | [], k, h => absurd h (Nat.not_lt_zero _)
  | a :: l, 0, _ => by
    simp only [splice, N_length, Nat.mul_zero, List.take_zero, List.nil_append, List.set_cons_zero, NN, Nat.zero_add]
    rw [List.drop_append, N_length, List.drop_of_length_le (by rw [N_length]; omega), Nat.sub_self]
    simp
  | a :: l, k + 1, h => by
    have ih := NN_splice (b := b) l k (by simpa using h)
    simp only [splice, N_length] at ih ⊢
    rw [List.set_cons_succ, NN, NN, ← ih]
    have e1 : 28 * (k + 1) = 28 + 28 * k := by omega
    have e2 : 28 + 28 * k + 28 = 28 + (28 * k + 28) := by omega
    rw [e1, e2, List.take_append, List.drop_append, N_length, List.take_of_length_le (by rw [N_length]; omega), List.drop_of_length_le (by rw [N_length]; omega)]
    simp
theorem NN_set {l : List Nat} {k off b : Nat} (hk : k < l.length) (ho : 28 * k = off) : splice (NN l) off (N b) = NN (l.set k b) := by
  subst ho; exact NN_splice l k hk
theorem N_box (a : Nat) : Value.cells (.agg (N a).toArray) = (NN [a]).toArray := by simp [Value.cells, NN]
end Go.Proofs.YtjlhhcdefcofkaaGreatDoor
