/- Plain: the curve x^2 + y^2 = 1 - 39081 x^2 y^2 modulo pp: -39081 is no square, so sums of points are always there. -/
import Derived.Test.YtjlhhcdefcofkaaGreatDoorSqrt
namespace Go.Proofs.YtjlhhcdefcofkaaGreatDoor
open Go
def dP : Nat := 726838724295606890549323807888004534353641360687318060281490199180612328166730772686396383698676545930088884461843637361053498018326358
theorem euler {d e : Nat} {s : Fin pp} (he : 2 * e = pp - 1) (hd : ¬ d % pp = 0) (h : s * s = el d) : d ^ e % pp = 1 % pp := by
  have es : s = el s.val := Fin.ext (Nat.mod_eq_of_lt s.isLt).symm
  have h1 : s.val * s.val % pp = d % pp := by
    rw [es, ← el_mul, el_eq] at h
    simpa [el_val, Nat.mod_eq_of_lt s.isLt] using h
  have h0 : ¬ pp ∣ s.val := by
    intro hdv
    have : s.val = 0 := Nat.eq_zero_of_dvd_of_lt hdv s.isLt
    rw [this, Nat.zero_mul] at h1
    exact hd (h1.symm.trans (Nat.zero_mod _))
  have h2 := fermat1 prime_pp h0
  rw [Nat.pow_mod, ← h1, ← Nat.pow_mod, ← Nat.pow_two, ← Nat.pow_mul, he]
  exact h2
theorem pmod_of {n f b e r : Nat} (he : e ≠ 0) (hf : Nat.log2 e < f) (h : pmod n f b e = r) : b ^ e % n = r :=
  (pmod_eq n f b e ((Nat.log2_lt he).1 hf)).symm.trans h
theorem dP_power : dP ^ ((pp - 1) / 2) % pp = pp - 1 := pmod_of (f := 448) (by decide +kernel) (by decide +kernel) (by decide +kernel)
theorem dP_nsq (s : Fin pp) : s * s ≠ el dP := by
  intro h
  have := euler (e := (pp - 1) / 2) (by decide +kernel) (by decide +kernel) h
  rw [dP_power] at this
  exact absurd this (by decide +kernel)
theorem goldC : Cv pp (el dP) := ⟨isF_pp, two_ne, dP_nsq⟩
theorem el_dP : el dP = -el 39081 := by
  have h : el dP + el 39081 = 0 := by rw [← el_add, el_eq_zero]; decide +kernel
  generalize el dP = x at *
  generalize el 39081 = y at *
  grind
/-- A quotient. -/
theorem div_eq {z x r iz : Fin pp} (hz : z * iz = 1) (h : r = x * iz) : r * z = x := by
  rw [h]
  have : x * iz * z = x * (z * iz) := by clear h hz; grind
  rw [this, hz]
  clear h hz this
  grind
theorem div_uniq {z x r : Fin pp} (hz : z ≠ 0) {r' : Fin pp} (h : r * z = x) (h' : r' * z = x) : r = r' := by
  apply isF_pp.cancel hz
  have a : z * r = x := by rw [← h]; clear h h' hz; grind
  have b : z * r' = x := by rw [← h']; clear h h' hz a; grind
  rw [a, b]
end Go.Proofs.YtjlhhcdefcofkaaGreatDoor
