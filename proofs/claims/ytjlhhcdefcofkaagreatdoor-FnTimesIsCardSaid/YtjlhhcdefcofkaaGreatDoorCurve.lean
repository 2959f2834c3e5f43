/- Plain: sums of points of x^2 + y^2 = 1 + d x^2 y^2 over a field of numbers modulo n, d no square: the sum is always there, it is one, and sums group. -/
import Derived.Test.YtjlhhcdefcofkaaGreatDoorCurveAlg
namespace Go.Proofs.YtjlhhcdefcofkaaGreatDoor
open Go
section
variable {n : Nat} [NeZero n]
structure IsF (n : Nat) [NeZero n] : Prop where
  inv : ∀ a : Fin n, a ≠ 0 → ∃ b, a * b = 1
  one : (1 : Fin n) ≠ 0
theorem IsF.cancel (F : IsF n) {c a b : Fin n} (hc : c ≠ 0) (h : c * a = c * b) : a = b := by
  obtain ⟨i, hi⟩ := F.inv c hc
  have h2 : i * (c * a) = i * (c * b) := by rw [h]
  have e1 : i * (c * a) = (c * i) * a := by clear h h2 hi hc; grind
  have e2 : i * (c * b) = (c * i) * b := by clear h h2 hi hc e1; grind
  rw [e1, e2, hi] at h2
  have f1 : (1 : Fin n) * a = a := by clear h h2 hi hc e1 e2; grind
  have f2 : (1 : Fin n) * b = b := by clear h h2 hi hc e1 e2 f1; grind
  rw [f1, f2] at h2
  exact h2
theorem mul_zero' (a : Fin n) : a * 0 = 0 := by grind
theorem IsF.zero (F : IsF n) {a b : Fin n} (h : a * b = 0) : a = 0 ∨ b = 0 := by
  by_cases ha : a = 0
  · exact .inl ha
  · exact .inr (F.cancel ha (h.trans (mul_zero' a).symm))
theorem IsF.mul_ne (F : IsF n) {a b : Fin n} (ha : a ≠ 0) (hb : b ≠ 0) : a * b ≠ 0 := fun h => (F.zero h).elim ha hb
def On (d x y : Fin n) : Prop := x * x + y * y = 1 + d * (x * x) * (y * y)
/-- A field where 2 is not 0 and d is no square. -/
structure Cv (n : Nat) [NeZero n] (d : Fin n) : Prop where
  F : IsF n
  two : (2 : Fin n) ≠ 0
  nsq : ∀ s : Fin n, s * s ≠ d
theorem key_plus {d x1 y1 x2 y2 e : Fin n} (he : e * e = 1) (hd : e = d * x1 * x2 * y1 * y2) (h1 : On d x1 y1) (h2 : On d x2 y2) :
    (x1 + e * y1) * (x1 + e * y1) = d * (x1 * y1 * (x2 + y2)) * (x1 * y1 * (x2 + y2)) := by
  unfold On at *
  have a1 : (x1 + e * y1) * (x1 + e * y1) = x1 * x1 + y1 * y1 * (e * e) + 2 * (e * (x1 * y1)) := by clear he hd h1 h2; grind
  have a2 : e * e = d * (x1 * x1) * (y1 * y1) * (d * (x2 * x2) * (y2 * y2)) := by rw [hd]; clear he hd h1 h2 a1; grind
  have a3 : d * (x2 * x2) * (y2 * y2) = x2 * x2 + y2 * y2 - 1 := by clear he hd h1 a1 a2; grind
  have a4 : x1 * x1 + y1 * y1 = e * e + d * (x1 * x1) * (y1 * y1) := by rw [he, h1]
  have a5 : e * (x1 * y1) = d * (x1 * x1) * (y1 * y1) * (x2 * y2) := by rw [hd]; clear he hd h1 h2 a1 a2 a3 a4; grind
  have a6 : x1 * x1 + y1 * y1 * (e * e) + 2 * (e * (x1 * y1)) = e * e + d * (x1 * x1) * (y1 * y1) + 2 * (e * (x1 * y1)) := by
    rw [← a4]
    rw [show y1 * y1 * (e * e) = y1 * y1 by rw [he]; clear he hd h1 h2 a1 a2 a3 a4 a5; grind]
  rw [a1, a6, a2, a3, a5]
  clear he hd h1 h2 a1 a2 a3 a4 a5 a6
  grind
theorem on_neg {d x y : Fin n} (h : On d x y) : On d x (-y) := by
  unfold On at *
  have e : (-y) * (-y) = y * y := by clear h; grind
  rw [e]; exact h
theorem complete {d : Fin n} (C : Cv n d) {x1 y1 x2 y2 : Fin n} (h1 : On d x1 y1) (h2 : On d x2 y2) : d * x1 * x2 * y1 * y2 * (d * x1 * x2 * y1 * y2) ≠ 1 := by
  intro he
  obtain ⟨e, hd⟩ : ∃ e, e = d * x1 * x2 * y1 * y2 := ⟨_, rfl⟩
  rw [← hd] at he
  have sq : ∀ t u : Fin n, u * u = d * t * t → t = 0 := by
    intro t u h
    apply Classical.byContradiction
    intro ht
    obtain ⟨i, hi⟩ := C.F.inv t ht
    apply C.nsq (u * i)
    have e1 : u * i * (u * i) = u * u * (i * i) := by clear h hi ht he hd; grind
    have e2 : d * t * t * (i * i) = d * ((t * i) * (t * i)) := by clear h hi ht he hd e1; grind
    rw [e1, h, e2, hi]
    clear h hi ht he hd e1 e2
    grind
  have k1 := sq _ _ (key_plus he hd h1 h2)
  have hd' : e = d * x1 * x2 * (-y1) * (-y2) := by rw [hd]; clear he hd h1 h2 k1; grind
  have hm : (-e) * (-e) = 1 := by rw [← he]; clear he hd h1 h2 k1 hd'; grind
  have hd2 : -e = d * x1 * x2 * y1 * (-y2) := by rw [hd]; clear he hd h1 h2 k1 hd' hm; grind
  have k2 := sq _ _ (key_plus hm hd2 h1 (on_neg h2))
  have hne : e ≠ 0 := by
    intro h0
    rw [h0, mul_zero'] at he
    exact C.F.one he.symm
  have hxy : x1 * y1 ≠ 0 := by
    intro h0
    apply hne
    have : e = x1 * y1 * (d * x2 * y2) := by rw [hd]; clear he hd h1 h2 k1 hd' hm hd2 k2 h0 hne; grind
    rw [this, h0]
    clear he hd h1 h2 k1 hd' hm hd2 k2 h0 hne this
    grind
  have s1 := (C.F.zero k1).resolve_left hxy
  have s2 := (C.F.zero k2).resolve_left hxy
  have s3 : (2 : Fin n) * x2 = 0 := by
    have : (2 : Fin n) * x2 = (x2 + y2) + (x2 + -y2) := by clear s1 s2 he hd h1 h2 k1 hd' hm hd2 k2 hne hxy; grind
    rw [this, s1, s2]
    clear s1 s2 he hd h1 h2 k1 hd' hm hd2 k2 hne hxy this
    grind
  have s4 := (C.F.zero s3).resolve_left C.two
  apply hne
  rw [hd, s4]
  clear s1 s2 he hd h1 h2 k1 hd' hm hd2 k2 hne hxy s3 s4
  grind
theorem den_plus {d : Fin n} (C : Cv n d) {x1 y1 x2 y2 : Fin n} (h1 : On d x1 y1) (h2 : On d x2 y2) : (1 + d * x1 * x2 * y1 * y2) ≠ 0 := by
  intro h
  apply complete C h1 h2
  have e : d * x1 * x2 * y1 * y2 = -1 := by generalize d * x1 * x2 * y1 * y2 = z at *; clear h1 h2; grind
  rw [e]; clear h e h1 h2; grind
theorem den_minus {d : Fin n} (C : Cv n d) {x1 y1 x2 y2 : Fin n} (h1 : On d x1 y1) (h2 : On d x2 y2) : (1 - d * x1 * x2 * y1 * y2) ≠ 0 := by
  intro h
  apply complete C h1 h2
  have e : d * x1 * x2 * y1 * y2 = 1 := by generalize d * x1 * x2 * y1 * y2 = z at *; clear h1 h2; grind
  rw [e]; clear h e h1 h2; grind
structure Sum (d x1 y1 x2 y2 x3 y3 : Fin n) : Prop where
  hx : x3 * (1 + d * x1 * x2 * y1 * y2) = x1 * y2 + y1 * x2
  hy : y3 * (1 - d * x1 * x2 * y1 * y2) = y1 * y2 - x1 * x2
theorem Sum.uniq {d x1 y1 x2 y2 x3 y3 x4 y4 : Fin n} (C : Cv n d) (h1 : On d x1 y1) (h2 : On d x2 y2) (s : Sum d x1 y1 x2 y2 x3 y3) (t : Sum d x1 y1 x2 y2 x4 y4) : x3 = x4 ∧ y3 = y4 := by
  constructor
  · apply C.F.cancel (den_plus C h1 h2)
    have a := s.hx
    have b := t.hx
    rw [← b] at a
    generalize 1 + d * x1 * x2 * y1 * y2 = z at *
    clear b s t h1 h2
    grind
  · apply C.F.cancel (den_minus C h1 h2)
    have a := s.hy
    have b := t.hy
    rw [← b] at a
    generalize 1 - d * x1 * x2 * y1 * y2 = z at *
    clear b s t h1 h2
    grind
theorem Sum.comm {d x1 y1 x2 y2 x3 y3 : Fin n} (s : Sum d x1 y1 x2 y2 x3 y3) : Sum d x2 y2 x1 y1 x3 y3 := by
  have e : d * x2 * x1 * y2 * y1 = d * x1 * x2 * y1 * y2 := by clear s; grind
  have e1 : x2 * y1 + y2 * x1 = x1 * y2 + y1 * x2 := by clear s e; grind
  have e2 : y2 * y1 - x2 * x1 = y1 * y2 - x1 * x2 := by clear s e e1; grind
  exact ⟨by rw [e, e1]; exact s.hx, by rw [e, e2]; exact s.hy⟩
theorem Sum.on {d x1 y1 x2 y2 x3 y3 : Fin n} (C : Cv n d) (h1 : On d x1 y1) (h2 : On d x2 y2) (s : Sum d x1 y1 x2 y2 x3 y3) : On d x3 y3 := by
  have hb := den_plus C h1 h2
  have hc := den_minus C h1 h2
  have k := closed_num (x1 := x1) (y1 := y1) (x2 := x2) (y2 := y2) (d := d) h1 h2
  rw [← s.hx, ← s.hy] at k
  have hne := C.F.mul_ne (C.F.mul_ne hb hc) (C.F.mul_ne hb hc)
  unfold On
  generalize 1 + d * x1 * x2 * y1 * y2 = b at *
  generalize 1 - d * x1 * x2 * y1 * y2 = c at *
  apply C.F.cancel hne
  clear hb hc hne s h1 h2 C
  grind
theorem Sum.ex {d x1 y1 x2 y2 : Fin n} (C : Cv n d) (h1 : On d x1 y1) (h2 : On d x2 y2) : ∃ x3 y3, Sum d x1 y1 x2 y2 x3 y3 := by
  obtain ⟨i, hi⟩ := C.F.inv _ (den_plus C h1 h2)
  obtain ⟨j, hj⟩ := C.F.inv _ (den_minus C h1 h2)
  refine ⟨(x1 * y2 + y1 * x2) * i, (y1 * y2 - x1 * x2) * j, ?_, ?_⟩
  · generalize 1 + d * x1 * x2 * y1 * y2 = b at *
    generalize x1 * y2 + y1 * x2 = a at *
    clear hj h1 h2 C
    grind
  · generalize 1 - d * x1 * x2 * y1 * y2 = b at *
    generalize y1 * y2 - x1 * x2 = a at *
    clear hi h1 h2 C
    grind
theorem Sum.assoc {d x1 y1 x2 y2 x3 y3 xa ya xb yb xc yc xe ye : Fin n} (C : Cv n d) (h1 : On d x1 y1) (h2 : On d x2 y2) (h3 : On d x3 y3)
    (sa : Sum d x1 y1 x2 y2 xa ya) (sc : Sum d xa ya x3 y3 xc yc) (sb : Sum d x2 y2 x3 y3 xb yb) (se : Sum d x1 y1 xb yb xe ye) : xc = xe ∧ yc = ye := by
  have ha := sa.on C h1 h2
  have hb := sb.on C h2 h3
  have b1 := den_plus C h1 h2
  have b2 := den_minus C h1 h2
  have b3 := den_plus C h2 h3
  have b4 := den_minus C h2 h3
  have c1 := den_plus C ha h3
  have c2 := den_minus C ha h3
  have c3 := den_plus C h1 hb
  have c4 := den_minus C h1 hb
  have kx := assoc_x (d := d) h1 h2 h3
  have ky := assoc_y (d := d) h1 h2 h3
  have ax := sa.hx
  have ay := sa.hy
  have bx := sb.hx
  have by_ := sb.hy
  have cx := sc.hx
  have cy := sc.hy
  have ex := se.hx
  have ey := se.hy
  rw [← ax, ← ay, ← bx, ← by_] at kx ky
  have F := C.F
  clear sa sb sc se h1 h2 h3 ha hb ax ay bx by_ C
  generalize 1 + d * x1 * x2 * y1 * y2 = p at *
  generalize 1 - d * x1 * x2 * y1 * y2 = q at *
  generalize 1 + d * x2 * x3 * y2 * y3 = r at *
  generalize 1 - d * x2 * x3 * y2 * y3 = s at *
  have pq := F.mul_ne b1 b2
  have rs := F.mul_ne b3 b4
  constructor
  · have hw : p * q * (1 + d * xa * x3 * ya * y3) * (r * s * (1 + d * x1 * xb * y1 * yb)) ≠ 0 := F.mul_ne (F.mul_ne pq c1) (F.mul_ne rs c3)
    apply F.cancel hw
    clear ky cy ey c1 c2 c3 c4 b1 b2 b3 b4 pq rs hw F
    have l : p * q * (1 + d * xa * x3 * ya * y3) * (r * s * (1 + d * x1 * xb * y1 * yb)) * xc = (p * q * (r * s)) * ((xc * (1 + d * xa * x3 * ya * y3)) * (1 + d * x1 * xb * y1 * yb)) := by clear kx cx ex; grind
    have m : p * q * (1 + d * xa * x3 * ya * y3) * (r * s * (1 + d * x1 * xb * y1 * yb)) * xe = (p * q * (r * s)) * ((xe * (1 + d * x1 * xb * y1 * yb)) * (1 + d * xa * x3 * ya * y3)) := by clear kx cx ex l; grind
    rw [l, m, cx, ex]
    clear l m cx ex
    grind
  · have hw : p * q * (1 - d * xa * x3 * ya * y3) * (r * s * (1 - d * x1 * xb * y1 * yb)) ≠ 0 := F.mul_ne (F.mul_ne pq c2) (F.mul_ne rs c4)
    apply F.cancel hw
    clear kx cx ex c1 c2 c3 c4 b1 b2 b3 b4 pq rs hw F
    have l : p * q * (1 - d * xa * x3 * ya * y3) * (r * s * (1 - d * x1 * xb * y1 * yb)) * yc = (p * q * (r * s)) * ((yc * (1 - d * xa * x3 * ya * y3)) * (1 - d * x1 * xb * y1 * yb)) := by clear ky cy ey; grind
    have m : p * q * (1 - d * xa * x3 * ya * y3) * (r * s * (1 - d * x1 * xb * y1 * yb)) * ye = (p * q * (r * s)) * ((ye * (1 - d * x1 * xb * y1 * yb)) * (1 - d * xa * x3 * ya * y3)) := by clear ky cy ey l; grind
    rw [l, m, cy, ey]
    clear l m cy ey
    grind
end
end Go.Proofs.YtjlhhcdefcofkaaGreatDoor
