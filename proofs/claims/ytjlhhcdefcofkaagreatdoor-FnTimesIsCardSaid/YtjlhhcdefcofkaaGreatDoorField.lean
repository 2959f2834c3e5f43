/- Plain: numbers modulo the field's modulus as a field. -/
import Derived.Test.YtjlhhcdefcofkaaGreatDoorLaws2
import Derived.Test.YtjlhhcdefcofkaaGreatDoorPrime
namespace Go.Proofs.YtjlhhcdefcofkaaGreatDoor
open Go

instance : NeZero pp := ⟨by decide⟩
def el (a : Nat) : Fin pp := Fin.ofNat pp a
theorem el_val (a : Nat) : (el a).val = a % pp := rfl
theorem el_eq {a b : Nat} : el a = el b ↔ a % pp = b % pp := by
  rw [Fin.ext_iff, el_val, el_val]
theorem el_of {a b : Nat} (h : a % pp = b % pp) : el a = el b := el_eq.2 h
theorem el_mod (a : Nat) : el (a % pp) = el a := el_of (Nat.mod_mod _ _)
theorem el_add (a b : Nat) : el (a + b) = el a + el b := by
  apply Fin.ext
  rw [Fin.val_add, el_val, el_val, el_val, Nat.add_mod]
theorem el_mul (a b : Nat) : el (a * b) = el a * el b := by
  apply Fin.ext
  rw [Fin.val_mul, el_val, el_val, el_val, Nat.mul_mod]
theorem el_zero : el 0 = 0 := rfl
theorem el_one : el 1 = 1 := rfl
theorem el_two : el 2 = 2 := rfl
theorem el_eq_zero {a : Nat} : el a = 0 ↔ a % pp = 0 := by
  rw [← el_zero, el_eq]; rfl
theorem el_neg (a : Nat) : el (negp a) = -el a := by
  have h : el (negp a) + el a = 0 := by
    rw [← el_add, el_eq_zero, negp, Nat.mod_add_mod]
    have h1 := Nat.mod_lt a (show 0 < pp by decide)
    have h2 : pp - a % pp + a = pp * (1 + a / pp) := by
      have := Nat.mod_add_div a pp
      rw [Nat.mul_add, Nat.mul_one]
      generalize pp * (a / pp) = z at *
      omega
    rw [h2, Nat.mul_mod_right]
  generalize el (negp a) = x at *
  generalize el a = y at *
  grind
theorem el_subF {a b : Nat} (ha : a < RR) (hb : b < RR) : el (subF a b) = el a - el b := by
  rw [el_of (subF_mod ha hb), el_add, el_neg]
  generalize el a = x
  generalize el b = y
  grind
theorem el_addF {a b : Nat} (ha : a < RR) (hb : b < RR) : el (addF a b) = el a + el b := by
  rw [el_of (addF_mod ha hb), el_add]
theorem el_mulR {r a b : Nat} (h : r % pp = a * b % pp) : el r = el a * el b := by
  rw [el_of h, el_mul]
theorem el_inv {a : Fin pp} (h : a ≠ 0) : ∃ b : Fin pp, a * b = 1 := by
  have ha : ¬ pp ∣ a.val := by
    intro hd
    have := Nat.eq_zero_of_dvd_of_lt hd a.isLt
    exact h (Fin.ext this)
  have := fermat1 prime_pp ha
  refine ⟨el (a.val ^ (pp - 2)), ?_⟩
  have e : a = el a.val := Fin.ext (Nat.mod_eq_of_lt a.isLt).symm
  rw [e, el_val, Nat.mod_eq_of_lt a.isLt, ← el_mul, ← el_one, el_eq, Nat.mul_comm]
  have e2 : a.val ^ (pp - 2) * a.val = a.val ^ (pp - 1) := by
    rw [← Nat.pow_succ]; rfl
  rw [e2, this]
/-- Powers. -/
def Pw (x e r : Nat) : Prop := r < RR ∧ r % pp = x ^ e % pp
theorem pw_sqr {x e r s : Nat} (h : Pw x e r) (hl : s < RR) (hs : s % pp = r * r % pp) : Pw x (2 * e) s := by
  refine ⟨hl, ?_⟩
  rw [hs, Nat.mul_mod, h.2, ← Nat.mul_mod, ← Nat.pow_add, Nat.two_mul]
theorem pw_mul {x e f r s t : Nat} (h : Pw x e r) (k : Pw x f s) (hl : t < RR) (hs : t % pp = r * s % pp) : Pw x (e + f) t := by
  refine ⟨hl, ?_⟩
  rw [hs, Nat.mul_mod, h.2, k.2, ← Nat.mul_mod, ← Nat.pow_add]
theorem pw_one {x : Nat} (h : x < RR) : Pw x 1 x := ⟨h, by rw [Nat.pow_one]⟩
theorem pw_cast {x e f r : Nat} (h : Pw x e r) (he : e = f) : Pw x f r := he ▸ h
end Go.Proofs.YtjlhhcdefcofkaaGreatDoor
