/- Plain: roots modulo the field's modulus. -/
import Derived.Test.YtjlhhcdefcofkaaGreatDoorField
import Derived.Test.YtjlhhcdefcofkaaGreatDoorPow
import Derived.Test.YtjlhhcdefcofkaaGreatDoorCurve
namespace Go.Proofs.YtjlhhcdefcofkaaGreatDoor
open Go
theorem isF_pp : IsF pp := ⟨fun _ h => el_inv h, fun h => absurd (congrArg Fin.val h) (by decide +kernel)⟩
theorem two_ne : (2 : Fin pp) ≠ 0 := fun h => absurd (congrArg Fin.val h) (by decide +kernel)
/-- The root of a quotient, as a power: x y (x y^3)^k. -/
noncomputable def isq (x y : Nat) : Nat := Classical.choose (⟨x * y * (x * y * (y * y)) ^ ((pp - 3) / 4) % pp, rfl⟩ : ∃ z, z = x * y * (x * y * (y * y)) ^ ((pp - 3) / 4) % pp)
theorem isq_eq (x y : Nat) : isq x y = x * y * (x * y * (y * y)) ^ ((pp - 3) / 4) % pp := Classical.choose_spec (⟨x * y * (x * y * (y * y)) ^ ((pp - 3) / 4) % pp, rfl⟩ : ∃ z, z = x * y * (x * y * (y * y)) ^ ((pp - 3) / 4) % pp)
theorem isq_lt (x y : Nat) : isq x y < pp := by rw [isq_eq]; exact Nat.mod_lt _ (by decide)
theorem ne_dvd {x : Nat} (h : ¬ x % pp = 0) : ¬ pp ∣ x := fun hd => h (Nat.mod_eq_zero_of_dvd hd)
theorem chi_sq {w k : Nat} (hk : 4 * k + 2 = pp - 1) (hw : ¬ pp ∣ w) : el (w * (w ^ k * w ^ k)) * el (w * (w ^ k * w ^ k)) = 1 := by
  rw [← el_mul, ← el_one, el_eq]
  have e : w * (w ^ k * w ^ k) * (w * (w ^ k * w ^ k)) = w ^ (4 * k + 2) := by
    have e1 : w * (w ^ k * w ^ k) = w ^ (2 * k + 1) := by rw [← Nat.pow_add, ← Nat.two_mul, Nat.pow_succ, Nat.mul_comm]
    rw [e1, ← Nat.pow_add]
    congr 1
    omega
  rw [e, hk]
  exact fermat1 prime_pp hw
theorem mul_ndvd {a b : Nat} (ha : ¬ pp ∣ a) (hb : ¬ pp ∣ b) : ¬ pp ∣ a * b := fun h => (prime_pp.dvd_mul h).elim ha hb
theorem isq_key {x y k : Nat} (hk : 4 * k + 2 = pp - 1) (hx : ¬ x % pp = 0) (hy : ¬ y % pp = 0) : ∃ c : Fin pp, c * c = 1 ∧ el (x * y * (x * y * (y * y)) ^ k) * el (x * y * (x * y * (y * y)) ^ k) * el y = el x * c := by
  have hw : ¬ pp ∣ x * y * (y * y) := mul_ndvd (mul_ndvd (ne_dvd hx) (ne_dvd hy)) (mul_ndvd (ne_dvd hy) (ne_dvd hy))
  refine ⟨_, chi_sq hk hw, ?_⟩
  generalize hT : (x * y * (y * y)) ^ k = t
  simp only [el_mul]
  generalize el x = a, el y = b, el t = c
  grind
theorem isq_or {x y : Nat} (hx : ¬ x % pp = 0) (hy : ¬ y % pp = 0) : el (isq x y) * el (isq x y) * el y = el x ∨ el (isq x y) * el (isq x y) * el y = -el x := by
  obtain ⟨c, hc, h⟩ := isq_key (x := x) (y := y) (k := (pp - 3) / 4) (by decide +kernel) hx hy
  rw [isq_eq, el_mod, h]
  have hz : (c - 1) * (c + 1) = 0 := by clear h hx hy; grind
  rcases isF_pp.zero hz with h1 | h1
  · left
    have : c = 1 := by clear h hx hy hz hc; grind
    rw [this]; clear h hx hy hz hc h1 this; generalize el x = a; grind
  · right
    have : c = -1 := by clear h hx hy hz hc; grind
    rw [this]; clear h hx hy hz hc h1 this; generalize el x = a; grind
/-- The same root by the power of the quotient. -/
theorem isq_pow {u v k : Nat} (hk : 4 * k + 2 = pp - 1) (hv : ¬ v % pp = 0) : (u * invp v) ^ (k + 1) % pp = u * v * (u * v * (v * v)) ^ k % pp := by
  have h1 := fermat1 prime_pp (ne_dvd hv)
  have h2 : (invp v * v) ^ (k + 1) % pp = 1 := by
    rw [Nat.pow_mod, Nat.mul_comm, mul_invp hv, Nat.one_pow]; decide +kernel
  have e1 : (u * invp v) ^ (k + 1) * v ^ (4 * k + 2) = u ^ (k + 1) * v ^ (3 * k + 1) * (invp v * v) ^ (k + 1) := by
    have e0 : v ^ (4 * k + 2) = v ^ (k + 1) * v ^ (3 * k + 1) := by rw [← Nat.pow_add]; congr 1; omega
    rw [Nat.mul_pow u, Nat.mul_pow (invp v) v, e0]
    generalize u ^ (k + 1) = a, invp v ^ (k + 1) = b, v ^ (k + 1) = c, v ^ (3 * k + 1) = d
    clear h1 h2 hv hk e0
    grind
  have e2 : u * v * (u * v * (v * v)) ^ k = u ^ (k + 1) * v ^ (3 * k + 1) := by
    have e0 : v ^ (3 * k + 1) = v ^ k * v ^ k * v ^ k * v := by rw [← Nat.pow_add, ← Nat.pow_add, ← Nat.pow_succ]; congr 1; omega
    rw [Nat.mul_pow (u * v) (v * v), Nat.mul_pow u v, Nat.mul_pow v v, e0, Nat.pow_succ u]
    generalize u ^ k = a, v ^ k = b
    clear h1 h2 hv hk e0 e1
    grind
  have e3 : (u * invp v) ^ (k + 1) * v ^ (4 * k + 2) % pp = (u * invp v) ^ (k + 1) % pp := by
    rw [Nat.mul_mod, hk, h1, ← Nat.mul_mod, Nat.mul_one]
  rw [← e3, e1, e2, Nat.mul_mod, h2, Nat.mul_one, Nat.mod_mod]
theorem isq_root {u v : Nat} (hv : ¬ v % pp = 0) : (u * invp v) ^ ((pp - 3) / 4 + 1) % pp = isq u v := by
  rw [isq_eq]; exact isq_pow (by decide +kernel) hv
end Go.Proofs.YtjlhhcdefcofkaaGreatDoor
