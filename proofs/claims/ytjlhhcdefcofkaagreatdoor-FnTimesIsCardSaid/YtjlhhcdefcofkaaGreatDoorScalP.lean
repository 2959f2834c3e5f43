/- Plain: numbers by words of 64 bits; the order of the base point. -/
import Derived.Test.YtjlhhcdefcofkaaGreatDoorIface
import Derived.Test.YtjlhhcdefcofkaaGreatDoorLaws4
import Derived.Test.YtjlhhcdefcofkaaGreatDoorMove
import Derived.Test.YtjlhhcdefcofkaaGreatDoorPower
import Derived.Test.YtjlhhcdefcofkaaGreatDoorPtX
import Derived.Test.YtjlhhcdefcofkaaGreatDoorWords
import Derived.Test.YtjlhhcdefcofkaaGreatDoorFrame
namespace Go.Proofs.YtjlhhcdefcofkaaGreatDoor
open Go
set_option maxRecDepth 100000
/-! ### Numbers by words -/
def cadd (X Y k : Nat) : Nat := (X % 18446744073709551616 ^ k + Y % 18446744073709551616 ^ k) / 18446744073709551616 ^ k
theorem powB_pos (k : Nat) : 0 < 18446744073709551616 ^ k := Nat.pow_pos (by decide)
theorem cadd_le (X Y k : Nat) : cadd X Y k ≤ 1 := by
  have hp := powB_pos k
  have h1 := Nat.mod_lt X hp
  have h2 := Nat.mod_lt Y hp
  unfold cadd
  have : (X % 18446744073709551616 ^ k + Y % 18446744073709551616 ^ k) / 18446744073709551616 ^ k < 2 := by
    rw [Nat.div_lt_iff_lt_mul hp]; omega
  omega
theorem cadd_zero (X Y : Nat) : cadd X Y 0 = 0 := by unfold cadd; rw [Nat.pow_zero, Nat.mod_one, Nat.mod_one]
theorem mod_succ (X k : Nat) : X % 18446744073709551616 ^ (k + 1) = X % 18446744073709551616 ^ k + 18446744073709551616 ^ k * (X / 18446744073709551616 ^ k % 18446744073709551616) := by rw [Nat.pow_succ, Nat.mod_mul]
theorem cadd_next (X Y k : Nat) : cadd X Y (k + 1) = (X / 18446744073709551616 ^ k % 18446744073709551616 + Y / 18446744073709551616 ^ k % 18446744073709551616 + cadd X Y k) / 18446744073709551616 := by
  have hp := powB_pos k
  unfold cadd
  rw [mod_succ, mod_succ, Nat.pow_succ, ← Nat.div_div_eq_div_mul]
  congr 1
  have e : X % 18446744073709551616 ^ k + 18446744073709551616 ^ k * (X / 18446744073709551616 ^ k % 18446744073709551616) + (Y % 18446744073709551616 ^ k + 18446744073709551616 ^ k * (Y / 18446744073709551616 ^ k % 18446744073709551616)) = (X % 18446744073709551616 ^ k + Y % 18446744073709551616 ^ k) + 18446744073709551616 ^ k * (X / 18446744073709551616 ^ k % 18446744073709551616 + Y / 18446744073709551616 ^ k % 18446744073709551616) := by rw [Nat.mul_add]; omega
  rw [e, Nat.add_mul_div_left _ _ hp]
  omega
theorem add_digit (X Y k : Nat) : (X + Y) / 18446744073709551616 ^ k % 18446744073709551616 = (X / 18446744073709551616 ^ k % 18446744073709551616 + Y / 18446744073709551616 ^ k % 18446744073709551616 + cadd X Y k) % 18446744073709551616 := by
  have hp := powB_pos k
  have e : X + Y = (X % 18446744073709551616 ^ k + Y % 18446744073709551616 ^ k) + 18446744073709551616 ^ k * (X / 18446744073709551616 ^ k + Y / 18446744073709551616 ^ k) := by
    have h1 := Nat.mod_add_div X (18446744073709551616 ^ k)
    have h2 := Nat.mod_add_div Y (18446744073709551616 ^ k)
    rw [Nat.mul_add]; omega
  have h : (X + Y) / 18446744073709551616 ^ k = X / 18446744073709551616 ^ k + Y / 18446744073709551616 ^ k + cadd X Y k := by
    unfold cadd
    conv => lhs; rw [e, Nat.add_mul_div_left _ _ hp]
    omega
  rw [h]
  generalize X / 18446744073709551616 ^ k = a, Y / 18446744073709551616 ^ k = b, cadd X Y k = c
  omega
theorem cadd_step (X Y k : Nat) : (X + Y) / 18446744073709551616 ^ k % 18446744073709551616 + 18446744073709551616 * cadd X Y (k + 1) = X / 18446744073709551616 ^ k % 18446744073709551616 + Y / 18446744073709551616 ^ k % 18446744073709551616 + cadd X Y k := by
  rw [add_digit, cadd_next, Nat.mod_add_div]
theorem dig_lt (X k : Nat) : X / 18446744073709551616 ^ k % 18446744073709551616 < 18446744073709551616 := Nat.mod_lt _ (by decide)
/-- X - Y, with what is borrowed. -/
def dsub (X Y : Nat) : Nat := X % RR + RR - Y % RR
theorem RR_B : RR = 18446744073709551616 ^ 7 := by decide +kernel
theorem dsub_dig (X Y k : Nat) (hk : k < 7) : (dsub X Y + Y) / 18446744073709551616 ^ k % 18446744073709551616 = X / 18446744073709551616 ^ k % 18446744073709551616 := by
  have h1 : (dsub X Y + Y) % RR = X % RR := by
    have := Nat.mod_lt Y (show 0 < RR by decide)
    have h2 := Nat.mod_add_div Y RR
    have e : dsub X Y + Y = X % RR + RR * (1 + Y / RR) := by unfold dsub; rw [Nat.mul_add]; omega
    rw [e, Nat.add_mul_mod_self_left, Nat.mod_mod]
  have key : ∀ Z : Nat, Z / 18446744073709551616 ^ k % 18446744073709551616 = Z % RR / 18446744073709551616 ^ k % 18446744073709551616 := by
    intro Z
    have e : RR = 18446744073709551616 ^ k * 18446744073709551616 ^ (7 - k) := by rw [RR_B, ← Nat.pow_add]; congr 1; omega
    rw [e, Nat.mod_mul_right_div_self]
    have e2 : 18446744073709551616 ^ (7 - k) = 18446744073709551616 * 18446744073709551616 ^ (6 - k) := by rw [← Nat.pow_succ']; congr 1; omega
    rw [e2]
    exact (Nat.mod_mul_right_mod _ _ _).symm
  rw [key (dsub X Y + Y), h1, ← key X]
theorem csub_step (X Y k : Nat) (hk : k < 7) : dsub X Y / 18446744073709551616 ^ k % 18446744073709551616 + Y / 18446744073709551616 ^ k % 18446744073709551616 + cadd (dsub X Y) Y k = X / 18446744073709551616 ^ k % 18446744073709551616 + 18446744073709551616 * cadd (dsub X Y) Y (k + 1) := by
  rw [← cadd_step, dsub_dig X Y k hk]
theorem csub_end {X Y : Nat} (hX : X < RR) (hY : Y < RR) : cadd (dsub X Y) Y 7 = if X < Y then 1 else 0 := by
  unfold cadd
  rw [← RR_B]
  have e : dsub X Y = X + RR - Y := by unfold dsub; rw [Nat.mod_eq_of_lt hX, Nat.mod_eq_of_lt hY]
  rw [e, Nat.mod_eq_of_lt hY]
  have hR : 0 < RR := by decide
  split
  · rw [Nat.mod_eq_of_lt (by omega)]
    have : X + RR - Y + Y = X + RR * 1 := by omega
    rw [this, Nat.add_mul_div_left _ _ hR, Nat.div_eq_of_lt hX]
  · have e2 : X + RR - Y = (X - Y) + RR * 1 := by omega
    rw [e2, Nat.add_mul_mod_self_left, Nat.mod_eq_of_lt (by omega)]
    rw [Nat.div_eq_of_lt (by omega)]
def mcar (X y k : Nat) : Nat := (X % 18446744073709551616 ^ k * y) / 18446744073709551616 ^ k
theorem mcar_zero (X y : Nat) : mcar X y 0 = 0 := by unfold mcar; rw [Nat.pow_zero, Nat.mod_one, Nat.zero_mul]
theorem mcar_lt {X y k : Nat} (hy : y < 18446744073709551616) : mcar X y k < 18446744073709551616 := by
  have hp := powB_pos k
  have h1 := Nat.mod_lt X hp
  unfold mcar
  rw [Nat.div_lt_iff_lt_mul hp]
  exact Nat.lt_of_le_of_lt (Nat.mul_le_mul (Nat.le_of_lt h1) (Nat.le_refl y)) (by rw [Nat.mul_comm 18446744073709551616]; exact Nat.mul_lt_mul_of_pos_left hy hp)
theorem mcar_next (X y k : Nat) : mcar X y (k + 1) = (X / 18446744073709551616 ^ k % 18446744073709551616 * y + mcar X y k) / 18446744073709551616 := by
  have hp := powB_pos k
  unfold mcar
  rw [mod_succ, Nat.pow_succ, ← Nat.div_div_eq_div_mul]
  congr 1
  rw [Nat.add_mul, Nat.mul_assoc, Nat.add_mul_div_left _ _ hp]
  omega
theorem mul_digit (X y k : Nat) : (X * y) / 18446744073709551616 ^ k % 18446744073709551616 = (X / 18446744073709551616 ^ k % 18446744073709551616 * y + mcar X y k) % 18446744073709551616 := by
  have hp := powB_pos k
  have e : X * y = X % 18446744073709551616 ^ k * y + 18446744073709551616 ^ k * (X / 18446744073709551616 ^ k * y) := by
    conv => lhs; rw [← Nat.mod_add_div X (18446744073709551616 ^ k)]
    rw [Nat.add_mul, Nat.mul_assoc]
  have h : (X * y) / 18446744073709551616 ^ k = X / 18446744073709551616 ^ k * y + mcar X y k := by
    unfold mcar
    conv => lhs; rw [e, Nat.add_mul_div_left _ _ hp]
    omega
  rw [h, Nat.add_mod (X / 18446744073709551616 ^ k % 18446744073709551616 * y), Nat.mod_mul_mod, ← Nat.add_mod]
theorem mcar_end {X y k : Nat} (hX : X < 18446744073709551616 ^ k) : mcar X y k = (X * y) / 18446744073709551616 ^ k := by unfold mcar; rw [Nat.mod_eq_of_lt hX]
/-! ### Lists that are part the one, part the other -/
theorem mixl_tail {m l : List Nat} {k : Nat} (h : m.drop k = l.drop k) : mixl m l k = m := by rw [mixl, ← h, List.take_append_drop]
theorem opr_eq' {P : Program} {St : Slots} {M M' : Mem} {o : Oper} {v v' : Value} (h : OpR P St M o (Det v M')) (e : v = v') : OpR P St M o (Det v' M') := e ▸ h
theorem u64_eq' {a b : Nat} (h : a = b) : Value.int .u64 (a : Int) = Value.int .u64 (b : Int) := congrArg (fun n : Nat => Value.int .u64 (n : Int)) h
theorem idx0 {M : Mem} : ∀ k j : Nat, ([] : List Nat)[k]? = some j → M[j]? = ([] : Mem)[k]? := fun k j h => by simp at h
theorem idx1 {M : Mem} {a : Nat} {b : Blk} (h : M[a]? = some b) : ∀ k j : Nat, [a][k]? = some j → M[j]? = [b][k]? := fun k j hk => by
  match k with
  | 0 => simp only [List.getElem?_cons_zero, Option.some.injEq] at hk; subst hk; simpa using h
  | k + 1 => simp at hk
theorem idx2 {M : Mem} {a c : Nat} {b d : Blk} (h : M[a]? = some b) (h2 : M[c]? = some d) : ∀ k j : Nat, [a, c][k]? = some j → M[j]? = [b, d][k]? := fun k j hk => by
  match k with
  | 0 => simp only [List.getElem?_cons_zero, Option.some.injEq] at hk; subst hk; simpa using h
  | 1 => simp only [List.getElem?_cons_succ, List.getElem?_cons_zero, Option.some.injEq] at hk; subst hk; simpa using h2
  | k + 2 => simp at hk
theorem W_all' {l : List Nat} {n : Nat} (h : l.length = n) : ((W l).drop 0).take n = W l := by rw [List.drop_zero, List.take_of_length_le (by simp [W, h])]
theorem Wflat (l : List Nat) : ∀ v ∈ W l, flat v = true := by
  intro v hv
  obtain ⟨d, _, rfl⟩ := List.mem_map.1 hv
  rfl
/-! ### The order -/
def qq : Nat := 181709681073901722637330951972001133588410340171829515070372549795146003961539585716195755291692375963310293709091662304773755859649779
def r448 : Nat := RR % qq
theorem qq_RR : qq < RR := by decide +kernel
theorem r448_lt : r448 < 18446744073709551616 ^ 4 := by decide +kernel
/-- Z + 2^448 x, made shorter. -/
def rone (Z x : Nat) : Nat := (Z + r448 * x) % RR + r448 * ((Z + r448 * x) / RR)
theorem rone_lt {Z x : Nat} (hZ : Z < RR) (hx : x < 18446744073709551616) : rone Z x < RR := by
  have h1 : r448 * x < RR := Nat.lt_of_lt_of_le (Nat.mul_lt_mul_of_lt_of_le r448_lt (Nat.le_of_lt hx) (by omega)) (by decide +kernel)
  have hR : 0 < RR := by decide
  unfold rone
  rcases Nat.lt_or_ge (Z + r448 * x) RR with h | h
  · rw [Nat.mod_eq_of_lt h, Nat.div_eq_of_lt h]; simpa using h
  · have e : Z + r448 * x = (Z + r448 * x - RR) + RR * 1 := by omega
    have l : Z + r448 * x - RR < RR := by omega
    rw [e, Nat.add_mul_mod_self_left, Nat.add_mul_div_left _ _ hR, Nat.mod_eq_of_lt l, Nat.div_eq_of_lt l]
    have h2 : r448 * x ≤ 18446744073709551616 ^ 4 * 18446744073709551616 := Nat.mul_le_mul (Nat.le_of_lt r448_lt) (Nat.le_of_lt hx)
    have h3 : 18446744073709551616 ^ 4 * 18446744073709551616 + 18446744073709551616 ^ 4 ≤ RR := by decide +kernel
    have h4 := r448_lt
    omega
theorem rone_mod (Z x : Nat) : rone Z x % qq = (Z + RR * x) % qq := by
  have h1 := Nat.mod_add_div (Z + r448 * x) RR
  have hr : ∀ y, (r448 * y) % qq = (RR * y) % qq := fun y => by unfold r448; exact Nat.mod_mul_mod _ _ _
  unfold rone
  rw [Nat.add_mod, hr, ← Nat.add_mod, h1, Nat.add_mod, hr, ← Nat.add_mod]
def redk (Z : Nat) : Nat → Nat
  | 0 => Z
  | k + 1 => if redk Z k < qq then redk Z k else redk Z k - qq
theorem redk_lt {Z : Nat} (hZ : Z < RR) : ∀ k, redk Z k < RR
  | 0 => hZ
  | k + 1 => by
    have := redk_lt hZ k
    rw [redk]
    split <;> omega
theorem redk_mod (Z : Nat) : ∀ k, redk Z k % qq = Z % qq
  | 0 => rfl
  | k + 1 => by
    rw [redk]
    split
    · exact redk_mod Z k
    · rename_i h
      rw [← redk_mod Z k]
      exact (Nat.mod_eq_sub_mod (by omega)).symm
theorem redk_bound {Z : Nat} (hZ : Z < RR) : ∀ k, k ≤ 8 → redk Z k < qq ∨ redk Z k + k * qq ≤ Z
  | 0, _ => .inr (by simp [redk])
  | k + 1, h => by
    rcases redk_bound hZ k (by omega) with h1 | h1
    · left; rw [redk, if_pos h1]; exact h1
    · rw [redk]
      split
      · left; assumption
      · right; rw [Nat.succ_mul]; omega
theorem redk_end {Z : Nat} (hZ : Z < RR) : redk Z 8 = Z % qq := by
  rcases redk_bound hZ 8 (Nat.le_refl _) with h | h
  · rw [← redk_mod Z 8, Nat.mod_eq_of_lt h]
  · exfalso
    have : RR ≤ 8 * qq := by decide +kernel
    omega
theorem dsub_ge {X Y : Nat} (hX : X < RR) (hYX : Y ≤ X) : digs 18446744073709551616 7 (dsub X Y) = digs 18446744073709551616 7 (X - Y) := by
  have e : dsub X Y = (X - Y) + RR * 1 := by unfold dsub; rw [Nat.mod_eq_of_lt hX, Nat.mod_eq_of_lt (by omega)]; omega
  rw [← digs_mod 18446744073709551616 7 (dsub X Y), e, ← RR_B, Nat.add_mul_mod_self_left, Nat.mod_eq_of_lt (by omega)]
theorem digs_RR {Z : Nat} : digs 18446744073709551616 7 (Z % RR) = digs 18446744073709551616 7 Z := by rw [RR_B]; exact digs_mod _ _ _
theorem mul_hi_lt {x y : Nat} (hx : x < 18446744073709551616) (hy : y < 18446744073709551616) : x * y / 18446744073709551616 < 18446744073709551616 := by
  rw [Nat.div_lt_iff_lt_mul (by decide)]
  exact Nat.mul_lt_mul'' hx hy
theorem mw_dig (X y k : Nat) : X * y / 18446744073709551616 ^ k % 18446744073709551616 + 18446744073709551616 * ((X / 18446744073709551616 ^ k % 18446744073709551616 * y % 18446744073709551616 + mcar X y k) / 18446744073709551616) = X / 18446744073709551616 ^ k % 18446744073709551616 * y % 18446744073709551616 + mcar X y k + 0 := by
  rw [mul_digit, ← Nat.mod_add_mod, Nat.mod_add_div]
  rfl
theorem mw_car (X y k : Nat) : mcar X y (k + 1) + 18446744073709551616 * 0 = X / 18446744073709551616 ^ k % 18446744073709551616 * y / 18446744073709551616 + 0 + (X / 18446744073709551616 ^ k % 18446744073709551616 * y % 18446744073709551616 + mcar X y k) / 18446744073709551616 := by
  rw [mcar_next]
  generalize X / 18446744073709551616 ^ k % 18446744073709551616 * y = p, mcar X y k = c
  omega
theorem mw_c1 {X y k : Nat} (hy : y < 18446744073709551616) : (X / 18446744073709551616 ^ k % 18446744073709551616 * y % 18446744073709551616 + mcar X y k) / 18446744073709551616 ≤ 1 := by
  have h1 := mcar_lt (X := X) (k := k) hy
  have h2 := Nat.mod_lt (X / 18446744073709551616 ^ k % 18446744073709551616 * y) (show 0 < 18446744073709551616 by decide)
  omega
theorem mw_set {R : List Nat} {n k c : Nat} (hR : R.length = n) (hk : k < n) (hc : R[k]? = some c) (ht : R.drop (k + 1) = List.replicate (n - (k + 1)) 0) : (mixl R (List.replicate n 0) k).set k c = R := by
  rw [mixl_put hR (List.length_replicate) hk hc]
  exact mixl_tail (by rw [ht, List.drop_replicate])
theorem mw_fin7 (X y : Nat) (hX : X < 18446744073709551616 ^ 7) (hy : y < 18446744073709551616) : (mixl (digs 18446744073709551616 8 (X * y)) (List.replicate 8 0) 7).set 7 (mcar X y 7) = digs 18446744073709551616 8 (X * y) :=
  mw_set (digs_length _ _ _) (by decide) (by
    have h := mcar_lt (X := X) (k := 7) hy
    rw [digs_get 8 _ 7 (by decide), ← mcar_end hX, Nat.mod_eq_of_lt h]) (by rw [digs_drop _ (by decide)]; rfl)
theorem mw_fin4 (X y : Nat) (hX : X < 18446744073709551616 ^ 4) (hy : y < 18446744073709551616) : (mixl (digs 18446744073709551616 7 (X * y)) (List.replicate 7 0) 4).set 4 (mcar X y 4) = digs 18446744073709551616 7 (X * y) :=
  mw_set (digs_length _ _ _) (by decide) (by
    have h := mcar_lt (X := X) (k := 4) hy
    rw [digs_get 7 _ 4 (by decide), ← mcar_end hX, Nat.mod_eq_of_lt h]) (by
    have h0 : X * y / 18446744073709551616 ^ 5 = 0 := Nat.div_eq_of_lt (by
      have : X * y < 18446744073709551616 ^ 4 * 18446744073709551616 := Nat.mul_lt_mul'' hX hy
      rwa [← Nat.pow_succ] at this)
    rw [digs_drop _ (by decide), h0]; rfl)
/-- Words that are shifted by one place, from the top on. -/
def shlW (l : List Nat) (x : Nat) : List Nat := (List.range 7).map fun j => if 7 - x ≤ j then l.getD (j - 1) 0 else l.getD j 0
theorem shlW_length (l : List Nat) (x : Nat) : (shlW l x).length = 7 := by simp [shlW]
theorem shl_zero {l : List Nat} (h : l.length = 7) : shlW l 0 = l := by
  apply List.ext_getElem?
  intro j
  by_cases hj : j < 7
  · rw [shlW, List.getElem?_map, List.getElem?_range hj]
    simp only [Option.map_some]
    rw [if_neg (by omega), List.getD_eq_getElem?_getD, List.getElem?_eq_getElem (by omega)]
    rfl
  · rw [List.getElem?_eq_none (by rw [shlW_length]; omega), List.getElem?_eq_none (by omega)]
theorem shl_step {l : List Nat} {k : Nat} (h : l.length = 7) (hk : k < 6) : (shlW l k).set (6 - k) (l.getD (5 - k) 0) = shlW l (k + 1) := by
  apply List.ext_getElem?
  intro j
  by_cases hj : j < 7
  · by_cases e : 6 - k = j
    · subst e
      rw [List.getElem?_set_self (by rw [shlW_length]; omega), shlW, List.getElem?_map, List.getElem?_range hj]
      simp only [Option.map_some]
      rw [if_pos (by omega)]
      congr 2
      omega
    · rw [List.getElem?_set_ne e, shlW, shlW, List.getElem?_map, List.getElem?_map, List.getElem?_range hj]
      simp only [Option.map_some]
      congr 1
      by_cases h2 : 7 - k ≤ j
      · rw [if_pos h2, if_pos (by omega)]
      · rw [if_neg h2, if_neg (by omega)]
  · rw [List.getElem?_eq_none (by rw [List.length_set, shlW_length]; omega), List.getElem?_eq_none (by rw [shlW_length]; omega)]
theorem shl_end {Z low : Nat} (hl : low < 18446744073709551616) : (shlW (digs 18446744073709551616 7 Z) 6).set 0 low = digs 18446744073709551616 7 (low + 18446744073709551616 * Z) := by
  have e : digs 18446744073709551616 7 (low + 18446744073709551616 * Z) = low :: digs 18446744073709551616 6 Z := by
    rw [digs, Nat.add_mul_mod_self_left, Nat.mod_eq_of_lt hl, Nat.add_mul_div_left _ _ (by decide), Nat.div_eq_of_lt hl, Nat.zero_add]
  have e2 : digs 18446744073709551616 6 Z = (digs 18446744073709551616 7 Z).take 6 := (digs_take _ (by decide) Z).symm
  rw [e, e2]
  have hl7 := digs_length 18446744073709551616 7 Z
  generalize digs 18446744073709551616 7 Z = l at *
  apply List.ext_getElem?
  intro j
  by_cases hj : j < 7
  · cases j with
    | zero => rw [List.getElem?_set_self (by rw [shlW_length]; decide)]; rfl
    | succ j =>
      rw [List.getElem?_set_ne (by omega), shlW, List.getElem?_map, List.getElem?_range hj, List.getElem?_cons_succ, List.getElem?_take_of_lt (by omega)]
      simp only [Option.map_some]
      rw [if_pos (by omega), List.getD_eq_getElem?_getD, Nat.add_sub_cancel, List.getElem?_eq_getElem (by omega)]
      rfl
  · rw [List.getElem?_eq_none (by rw [List.length_set, shlW_length]; omega), List.getElem?_eq_none (by simp; omega)]
theorem digs_lim (n X : Nat) : ∀ d ∈ digs 18446744073709551616 n X, d < 18446744073709551616 := digs_lt (by decide) n X
end Go.Proofs.YtjlhhcdefcofkaaGreatDoor
