/- Plain: sums of points as a function, a point so many times. -/
import Derived.Test.YtjlhhcdefcofkaaGreatDoorTwist

namespace Go.Proofs.YtjlhhcdefcofkaaGreatDoor
open Go
section
variable {n : Nat} [NeZero n]
/-- Pairs on the curve, their sum as a function. -/
def OnP (d : Fin n) (p : Fin n × Fin n) : Prop := On d p.1 p.2
open Classical in
noncomputable def padd (d : Fin n) (p q : Fin n × Fin n) : Fin n × Fin n :=
  if h : ∃ r : Fin n × Fin n, Sum d p.1 p.2 q.1 q.2 r.1 r.2 then h.choose else (0, 1)
theorem padd_sum {d : Fin n} (C : Cv n d) {p q : Fin n × Fin n} (hp : OnP d p) (hq : OnP d q) : Sum d p.1 p.2 q.1 q.2 (padd d p q).1 (padd d p q).2 := by
  obtain ⟨x, y, h⟩ := Sum.ex C hp hq
  have hx : ∃ r : Fin n × Fin n, Sum d p.1 p.2 q.1 q.2 r.1 r.2 := ⟨(x, y), h⟩
  unfold padd
  rw [dif_pos hx]
  exact hx.choose_spec
theorem padd_eq {d : Fin n} (C : Cv n d) {p q : Fin n × Fin n} (hp : OnP d p) (hq : OnP d q) {x y : Fin n} (h : Sum d p.1 p.2 q.1 q.2 x y) : padd d p q = (x, y) := by
  obtain ⟨h1, h2⟩ := (padd_sum C hp hq).uniq C hp hq h
  exact Prod.ext h1 h2
theorem padd_on {d : Fin n} (C : Cv n d) {p q : Fin n × Fin n} (hp : OnP d p) (hq : OnP d q) : OnP d (padd d p q) := (padd_sum C hp hq).on C hp hq
theorem padd_comm {d : Fin n} (C : Cv n d) {p q : Fin n × Fin n} (hp : OnP d p) (hq : OnP d q) : padd d p q = padd d q p :=
  padd_eq C hp hq (padd_sum C hq hp).comm
theorem padd_assoc {d : Fin n} (C : Cv n d) {p q r : Fin n × Fin n} (hp : OnP d p) (hq : OnP d q) (hr : OnP d r) : padd d (padd d p q) r = padd d p (padd d q r) := by
  obtain ⟨h1, h2⟩ := Sum.assoc C hp hq hr (padd_sum C hp hq) (padd_sum C (padd_on C hp hq) hr) (padd_sum C hq hr) (padd_sum C hp (padd_on C hq hr))
  exact Prod.ext h1 h2
theorem zero_on (d : Fin n) : OnP d ((0 : Fin n), (1 : Fin n)) := by
  unfold OnP On
  grind
theorem padd_zero {d : Fin n} (C : Cv n d) {p : Fin n × Fin n} (hp : OnP d p) : padd d p (0, 1) = p := by
  refine padd_eq C hp (zero_on d) ⟨?_, ?_⟩
  · clear hp C; grind
  · clear hp C; grind
theorem zero_padd {d : Fin n} (C : Cv n d) {p : Fin n × Fin n} (hp : OnP d p) : padd d (0, 1) p = p := by
  rw [padd_comm C (zero_on d) hp, padd_zero C hp]
def pneg (p : Fin n × Fin n) : Fin n × Fin n := (-p.1, p.2)
theorem pneg_on {d : Fin n} {p : Fin n × Fin n} (hp : OnP d p) : OnP d (pneg p) := by
  unfold OnP On pneg at *
  have e : -p.1 * -p.1 = p.1 * p.1 := by clear hp; grind
  rw [e]; exact hp
theorem padd_neg {d : Fin n} (C : Cv n d) {p : Fin n × Fin n} (hp : OnP d p) : padd d p (pneg p) = (0, 1) := by
  refine padd_eq C hp (pneg_on hp) ⟨?_, ?_⟩
  · show _ = p.1 * p.2 + p.2 * -p.1
    clear hp C; grind
  · have := hp
    unfold OnP On at this
    show _ = p.2 * p.2 - p.1 * -p.1
    show 1 * (1 - d * p.1 * -p.1 * p.2 * p.2) = _
    generalize p.1 = x at *
    generalize p.2 = y at *
    clear hp C
    grind
/-- A point so many times. -/
noncomputable def pm (d : Fin n) (p : Fin n × Fin n) : Nat → Fin n × Fin n
  | 0 => (0, 1)
  | k + 1 => padd d (pm d p k) p
theorem pm_on {d : Fin n} (C : Cv n d) {p : Fin n × Fin n} (hp : OnP d p) : ∀ k, OnP d (pm d p k)
  | 0 => zero_on d
  | k + 1 => padd_on C (pm_on C hp k) hp
theorem pm_one {d : Fin n} (C : Cv n d) {p : Fin n × Fin n} (hp : OnP d p) : pm d p 1 = p := zero_padd C hp
theorem pm_add {d : Fin n} (C : Cv n d) {p : Fin n × Fin n} (hp : OnP d p) (a : Nat) : ∀ b, pm d p (a + b) = padd d (pm d p a) (pm d p b)
  | 0 => (padd_zero C (pm_on C hp a)).symm
  | b + 1 => by
    show padd d (pm d p (a + b)) p = padd d (pm d p a) (padd d (pm d p b) p)
    rw [pm_add C hp a b, padd_assoc C (pm_on C hp a) (pm_on C hp b) hp]
theorem pm_two {d : Fin n} (C : Cv n d) {p : Fin n × Fin n} (hp : OnP d p) (a : Nat) : pm d p (2 * a) = padd d (pm d p a) (pm d p a) := by rw [Nat.two_mul, pm_add C hp]
theorem pm_zero (d : Fin n) (p : Fin n × Fin n) : pm d p 0 = (0, 1) := rfl
theorem pm_order {d : Fin n} (C : Cv n d) {p : Fin n × Fin n} (hp : OnP d p) {q : Nat} (hq : pm d p q = (0, 1)) : ∀ c, pm d p (q * c) = (0, 1)
  | 0 => rfl
  | c + 1 => by rw [Nat.mul_succ, pm_add C hp, pm_order C hp hq c, hq]; exact padd_zero C (zero_on d)
theorem pm_mod {d : Fin n} (C : Cv n d) {p : Fin n × Fin n} (hp : OnP d p) {q : Nat} (hq : pm d p q = (0, 1)) (k : Nat) : pm d p k = pm d p (k % q) := by
  conv => lhs; rw [← Nat.mod_add_div k q]
  rw [pm_add C hp, pm_order C hp hq, padd_zero C (pm_on C hp _)]
theorem pm_eq {d : Fin n} (C : Cv n d) {p : Fin n × Fin n} (hp : OnP d p) {q : Nat} (hq : pm d p q = (0, 1)) {a b : Nat} (h : a % q = b % q) : pm d p a = pm d p b := by
  rw [pm_mod C hp hq a, pm_mod C hp hq b, h]
/-- What adds to nothing is the opposite. -/
theorem neg_of_sum {d : Fin n} (C : Cv n d) {a b : Fin n × Fin n} (ha : OnP d a) (hb : OnP d b) (h : padd d a b = (0, 1)) : a = pneg b := by
  have e : padd d (padd d a b) (pneg b) = padd d a (padd d b (pneg b)) := padd_assoc C ha hb (pneg_on hb)
  rw [h, padd_neg C hb, padd_zero C ha, zero_padd C (pneg_on hb)] at e
  exact e.symm
theorem pm_neg {d : Fin n} (C : Cv n d) {p : Fin n × Fin n} (hp : OnP d p) {q : Nat} (hq : pm d p q = (0, 1)) {a b : Nat} (h : (a + b) % q = 0) : pneg (pm d p a) = pm d p b := by
  have hab : padd d (pm d p b) (pm d p a) = (0, 1) := by
    rw [← pm_add C hp, Nat.add_comm, pm_mod C hp hq, h]; rfl
  exact (neg_of_sum C (pm_on C hp b) (pm_on C hp a) hab).symm
/-- A signed multiple. -/
noncomputable def pz (d : Fin n) (p : Fin n × Fin n) (z : Int) : Fin n × Fin n := if 0 ≤ z then pm d p z.toNat else pneg (pm d p (-z).toNat)
theorem pz_on {d : Fin n} (C : Cv n d) {p : Fin n × Fin n} (hp : OnP d p) (z : Int) : OnP d (pz d p z) := by
  unfold pz
  split
  · exact pm_on C hp _
  · exact pneg_on (pm_on C hp _)
theorem pz_nat (d : Fin n) (p : Fin n × Fin n) (a : Nat) : pz d p (a : Int) = pm d p a := by
  unfold pz
  rw [if_pos (by omega)]; rfl
theorem pneg_zero : pneg ((0 : Fin n), (1 : Fin n)) = (0, 1) := by
  refine Prod.ext ?_ rfl
  show -(0 : Fin n) = 0
  grind
theorem pneg_pneg (p : Fin n × Fin n) : pneg (pneg p) = p := by
  refine Prod.ext ?_ rfl
  show - -p.1 = p.1
  grind
theorem pz_neg (d : Fin n) (p : Fin n × Fin n) (a : Nat) : pz d p (-(a : Int)) = pneg (pm d p a) := by
  unfold pz
  by_cases h : a = 0
  · subst h
    rw [if_pos (by omega)]
    exact pneg_zero.symm
  · rw [if_neg (by omega)]
    congr 2
    omega
theorem pz_sub {d : Fin n} (C : Cv n d) {p : Fin n × Fin n} (hp : OnP d p) (a b : Nat) : padd d (pm d p a) (pneg (pm d p b)) = pz d p ((a : Int) - b) := by
  have oa := pm_on C hp a
  have ob := pm_on C hp b
  by_cases h : b ≤ a
  · obtain ⟨c, rfl⟩ : ∃ c, a = c + b := ⟨a - b, by omega⟩
    rw [show ((c + b : Nat) : Int) - (b : Int) = (c : Int) by omega, pz_nat, pm_add C hp, padd_assoc C (pm_on C hp c) ob (pneg_on ob), padd_neg C ob, padd_zero C (pm_on C hp c)]
  · obtain ⟨c, rfl⟩ : ∃ c, b = a + c := ⟨b - a, by omega⟩
    rw [show (a : Int) - ((a + c : Nat) : Int) = -(c : Int) by omega, pz_neg]
    have oc := pm_on C hp c
    apply neg_of_sum C (padd_on C oa (pneg_on ob)) oc
    rw [padd_assoc C oa (pneg_on ob) oc, padd_comm C (pneg_on ob) oc, ← padd_assoc C oa oc (pneg_on ob), ← pm_add C hp, padd_neg C ob]
theorem pz_add {d : Fin n} (C : Cv n d) {p : Fin n × Fin n} (hp : OnP d p) (x y : Int) : pz d p (x + y) = padd d (pz d p x) (pz d p y) := by
  have sw : ∀ a b : Nat, padd d (pneg (pm d p a)) (pm d p b) = pz d p ((b : Int) - a) := fun a b => by
    rw [padd_comm C (pneg_on (pm_on C hp a)) (pm_on C hp b), pz_sub C hp]
  rcases Int.le_total 0 x with hx | hx
  · obtain ⟨a, rfl⟩ := Int.eq_ofNat_of_zero_le hx
    rcases Int.le_total 0 y with hy | hy
    · obtain ⟨b, rfl⟩ := Int.eq_ofNat_of_zero_le hy
      rw [← Int.natCast_add, pz_nat, pz_nat, pz_nat, pm_add C hp]
    · obtain ⟨b, hb⟩ := Int.eq_ofNat_of_zero_le (show 0 ≤ -y by omega)
      obtain rfl : y = -(b : Int) := by omega
      rw [pz_nat, pz_neg, pz_sub C hp]; rfl
  · obtain ⟨a, ha⟩ := Int.eq_ofNat_of_zero_le (show 0 ≤ -x by omega)
    obtain rfl : x = -(a : Int) := by omega
    rcases Int.le_total 0 y with hy | hy
    · obtain ⟨b, rfl⟩ := Int.eq_ofNat_of_zero_le hy
      rw [pz_nat, pz_neg, sw, show -(a : Int) + (b : Int) = (b : Int) - a by omega]
    · obtain ⟨b, hb⟩ := Int.eq_ofNat_of_zero_le (show 0 ≤ -y by omega)
      obtain rfl : y = -(b : Int) := by omega
      have oa := pm_on C hp a
      have ob := pm_on C hp b
      rw [show -(a : Int) + -(b : Int) = -((a + b : Nat) : Int) by omega, pz_neg, pz_neg, pz_neg]
      symm
      apply neg_of_sum C (padd_on C (pneg_on oa) (pneg_on ob)) (pm_on C hp _)
      rw [pm_add C hp, padd_assoc C (pneg_on oa) (pneg_on ob) (padd_on C oa ob), padd_comm C oa ob, ← padd_assoc C (pneg_on ob) ob oa, padd_comm C (pneg_on ob) ob, padd_neg C ob, zero_padd C oa, padd_comm C (pneg_on oa) oa, padd_neg C oa]
theorem pz_order {d : Fin n} (C : Cv n d) {p : Fin n × Fin n} (hp : OnP d p) {q : Nat} (hq0 : 0 < q) (hq : pm d p q = (0, 1)) {x y : Int} (h : x % (q : Int) = y % (q : Int)) : pz d p x = pz d p y := by
  have key : ∀ z : Int, pz d p z = pm d p (z % (q : Int)).toNat := by
    intro z
    have e : z = ((z % (q : Int)).toNat : Int) + (q : Int) * (z / q) := by
      have h1 := Int.emod_add_mul_ediv z q
      have h2 := Int.emod_nonneg z (show (q : Int) ≠ 0 by omega)
      omega
    conv => lhs; rw [e]
    rw [pz_add C hp, pz_nat]
    have hz : pz d p ((q : Int) * (z / q)) = (0, 1) := by
      generalize z / (q : Int) = c
      rcases Int.le_total 0 c with hc | hc
      · obtain ⟨a, rfl⟩ := Int.eq_ofNat_of_zero_le hc
        rw [← Int.natCast_mul, pz_nat, pm_order C hp hq]
      · obtain ⟨a, ha⟩ := Int.eq_ofNat_of_zero_le (show 0 ≤ -c by omega)
        obtain rfl : c = -(a : Int) := by omega
        rw [Int.mul_neg, ← Int.natCast_mul, pz_neg, pm_order C hp hq, pneg_zero]
    rw [hz, padd_zero C (pm_on C hp _)]
  rw [key x, key y, h]
end
end Go.Proofs.YtjlhhcdefcofkaaGreatDoor
