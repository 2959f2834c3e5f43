/- Plain: chains of words with carries; the prime; sums and differences as the field's code has them. -/
import Derived.Test.YtjlhhcdefcofkaaGreatDoorEngA
namespace Go.Proofs.YtjlhhcdefcofkaaGreatDoor
open Go

/-- The prime, 2^448 - 2^224 - 1; and 2^448. -/
def pp : Nat := 726838724295606890549323807888004534353641360687318060281490199180612328166730772686396383698676545930088884461843637361053498018365439
def RR : Nat := 726838724295606890549323807888004534353641360687318060281490199180639288113397923326191050713763565560762521606266177933534601628614656
theorem add_step {z x y c d Z X Y m : Nat} (e : z + 18446744073709551616 * c = x + y + d) (h : Z + m = X + Y + c) :
    (z + 18446744073709551616 * Z) + 18446744073709551616 * m = (x + 18446744073709551616 * X) + (y + 18446744073709551616 * Y) + d := by omega
theorem sub_step {z x y c d Z X Y m : Nat} (e : z + y + d = x + 18446744073709551616 * c) (h : Z + Y + c = X + m) :
    (z + 18446744073709551616 * Z) + (y + 18446744073709551616 * Y) + d = (x + 18446744073709551616 * X) + 18446744073709551616 * m := by omega
theorem top7 (c : Nat) : 18446744073709551616 * (18446744073709551616 * (18446744073709551616 * (18446744073709551616 * (18446744073709551616 * (18446744073709551616 * (18446744073709551616 * c)))))) = RR * c := by
  simp only [← Nat.mul_assoc, Nat.reduceMul]; rfl
theorem add_chain {x0 x1 x2 x3 x4 x5 x6 y0 y1 y2 y3 y4 y5 y6 z0 z1 z2 z3 z4 z5 z6 c0 c1 c2 c3 c4 c5 c6 : Nat} (e0 : z0 + 18446744073709551616 * c0 = x0 + y0 + 0) (e1 : z1 + 18446744073709551616 * c1 = x1 + y1 + c0) (e2 : z2 + 18446744073709551616 * c2 = x2 + y2 + c1) (e3 : z3 + 18446744073709551616 * c3 = x3 + y3 + c2) (e4 : z4 + 18446744073709551616 * c4 = x4 + y4 + c3) (e5 : z5 + 18446744073709551616 * c5 = x5 + y5 + c4) (e6 : z6 + 18446744073709551616 * c6 = x6 + y6 + c5) :
    dval 18446744073709551616 [z0, z1, z2, z3, z4, z5, z6] + RR * c6 = dval 18446744073709551616 [x0, x1, x2, x3, x4, x5, x6] + dval 18446744073709551616 [y0, y1, y2, y3, y4, y5, y6] := by
  have h6 : (z6 + 18446744073709551616 * 0) + 18446744073709551616 * c6 = (x6 + 18446744073709551616 * 0) + (y6 + 18446744073709551616 * 0) + c5 := by omega
  have h5 := add_step e5 h6
  have h4 := add_step e4 h5
  have h3 := add_step e3 h4
  have h2 := add_step e2 h3
  have h1 := add_step e1 h2
  have h0 := add_step e0 h1
  rw [top7, Nat.add_zero] at h0
  exact h0
theorem sub_chain {x0 x1 x2 x3 x4 x5 x6 y0 y1 y2 y3 y4 y5 y6 z0 z1 z2 z3 z4 z5 z6 c0 c1 c2 c3 c4 c5 c6 : Nat} (e0 : z0 + y0 + 0 = x0 + 18446744073709551616 * c0) (e1 : z1 + y1 + c0 = x1 + 18446744073709551616 * c1) (e2 : z2 + y2 + c1 = x2 + 18446744073709551616 * c2) (e3 : z3 + y3 + c2 = x3 + 18446744073709551616 * c3) (e4 : z4 + y4 + c3 = x4 + 18446744073709551616 * c4) (e5 : z5 + y5 + c4 = x5 + 18446744073709551616 * c5) (e6 : z6 + y6 + c5 = x6 + 18446744073709551616 * c6) :
    dval 18446744073709551616 [z0, z1, z2, z3, z4, z5, z6] + dval 18446744073709551616 [y0, y1, y2, y3, y4, y5, y6] = dval 18446744073709551616 [x0, x1, x2, x3, x4, x5, x6] + RR * c6 := by
  have h6 : (z6 + 18446744073709551616 * 0) + (y6 + 18446744073709551616 * 0) + c5 = (x6 + 18446744073709551616 * 0) + 18446744073709551616 * c6 := by omega
  have h5 := sub_step e5 h6
  have h4 := sub_step e4 h5
  have h3 := sub_step e3 h4
  have h2 := sub_step e2 h3
  have h1 := sub_step e1 h2
  have h0 := sub_step e0 h1
  rw [top7, Nat.add_zero] at h0
  exact h0

theorem dval7_lt {z0 z1 z2 z3 z4 z5 z6 : Nat} (l0 : z0 < 18446744073709551616) (l1 : z1 < 18446744073709551616) (l2 : z2 < 18446744073709551616) (l3 : z3 < 18446744073709551616) (l4 : z4 < 18446744073709551616) (l5 : z5 < 18446744073709551616) (l6 : z6 < 18446744073709551616) :
    dval 18446744073709551616 [z0, z1, z2, z3, z4, z5, z6] < RR := by
  simp only [dval, RR]
  omega

/-- The words of a number below 2^448. -/
theorem words7 {a : Nat} (ha : a < RR) : dval 18446744073709551616 [a / 256 ^ (8 * 0) % 18446744073709551616, a / 256 ^ (8 * 1) % 18446744073709551616, a / 256 ^ (8 * 2) % 18446744073709551616, a / 256 ^ (8 * 3) % 18446744073709551616, a / 256 ^ (8 * 4) % 18446744073709551616,
    a / 256 ^ (8 * 5) % 18446744073709551616, a / 256 ^ (8 * 6) % 18446744073709551616] = a := by
  have h := dval_digs 18446744073709551616 7 a
  have hd : digs 18446744073709551616 7 a = [a / 256 ^ (8 * 0) % 18446744073709551616, a / 256 ^ (8 * 1) % 18446744073709551616, a / 256 ^ (8 * 2) % 18446744073709551616, a / 256 ^ (8 * 3) % 18446744073709551616, a / 256 ^ (8 * 4) % 18446744073709551616,
    a / 256 ^ (8 * 5) % 18446744073709551616, a / 256 ^ (8 * 6) % 18446744073709551616] := by
    have q : ∀ j, (256 : Nat) ^ (8 * j) = 18446744073709551616 ^ j := fun j => by rw [show (18446744073709551616 : Nat) = 256 ^ 8 from rfl, ← Nat.pow_mul]
    apply List.ext_getElem?
    intro j
    simp only [q]
    by_cases hj : j < 7
    · rw [digs_get 7 a j hj]
      have : j = 0 ∨ j = 1 ∨ j = 2 ∨ j = 3 ∨ j = 4 ∨ j = 5 ∨ j = 6 := by omega
      rcases this with rfl | rfl | rfl | rfl | rfl | rfl | rfl <;> rfl
    · rw [List.getElem?_eq_none (by rw [digs_length]; omega), List.getElem?_eq_none (by simp; omega)]
  rw [hd] at h
  rw [h]
  exact Nat.mod_eq_of_lt ha

def addF (a b : Nat) : Nat := if a + b < RR then a + b else if a + b < RR + pp then a + b - pp else a + b - 2 * pp
def subF (a b : Nat) : Nat := if b ≤ a then a - b else if b ≤ a + pp then a + pp - b else a + 2 * pp - b

theorem sub_folds {a b z1 z2 z3 c1 c2 c3 : Nat} (_ha : a < RR) (_hb : b < RR) (h1 : z1 < RR) (h2 : z2 < RR) (h3 : z3 < RR) (k1 : c1 ≤ 1) (k2 : c2 ≤ 1) (k3 : c3 ≤ 1)
    (e1 : z1 + b = a + RR * c1) (e2 : z2 + (c1 + 26959946667150639794667015087019630673637144422540572481103610249216 * c1) = z1 + RR * c2) (e3 : z3 + (c2 + 26959946667150639794667015087019630673637144422540572481103610249216 * c2) = z2 + RR * c3) : z3 = subF a b := by
  unfold subF RR pp at *
  have q1 : c1 = 0 ∨ c1 = 1 := by omega
  have q2 : c2 = 0 ∨ c2 = 1 := by omega
  have q3 : c3 = 0 ∨ c3 = 1 := by omega
  rcases q1 with rfl | rfl <;> rcases q2 with rfl | rfl <;> rcases q3 with rfl | rfl <;> (split <;> (try split)) <;> omega
theorem add_folds {a b z1 z2 z3 c1 c2 c3 : Nat} (_ha : a < RR) (_hb : b < RR) (h1 : z1 < RR) (h2 : z2 < RR) (h3 : z3 < RR) (k1 : c1 ≤ 1) (k2 : c2 ≤ 1) (k3 : c3 ≤ 1)
    (e1 : z1 + RR * c1 = a + b) (e2 : z2 + RR * c2 = z1 + (c1 + 26959946667150639794667015087019630673637144422540572481103610249216 * c1)) (e3 : z3 + RR * c3 = z2 + (c2 + 26959946667150639794667015087019630673637144422540572481103610249216 * c2)) : z3 = addF a b := by
  unfold addF RR pp at *
  have q1 : c1 = 0 ∨ c1 = 1 := by omega
  have q2 : c2 = 0 ∨ c2 = 1 := by omega
  have q3 : c3 = 0 ∨ c3 = 1 := by omega
  rcases q1 with rfl | rfl <;> rcases q2 with rfl | rfl <;> rcases q3 with rfl | rfl <;> (split <;> (try split)) <;> omega

/-- The fold's word: c and c times 2^224. -/
theorem fold_words {c : Nat} (hc : c ≤ 1) : dval 18446744073709551616 [c, 0, 0, c * 2 ^ 32 % 18446744073709551616, 0, 0, 0] = c + 26959946667150639794667015087019630673637144422540572481103610249216 * c := by
  have : c = 0 ∨ c = 1 := by omega
  rcases this with rfl | rfl <;> rfl

/-- Seven words written one behind the other are an element. -/
theorem B8_words {z0 z1 z2 z3 z4 z5 z6 : Nat} (l0 : z0 < 18446744073709551616) (l1 : z1 < 18446744073709551616) (l2 : z2 < 18446744073709551616) (l3 : z3 < 18446744073709551616) (l4 : z4 < 18446744073709551616) (l5 : z5 < 18446744073709551616) (l6 : z6 < 18446744073709551616) :
    B8 z0 ++ B8 z1 ++ B8 z2 ++ B8 z3 ++ B8 z4 ++ B8 z5 ++ B8 z6 = E (dval 18446744073709551616 [z0, z1, z2, z3, z4, z5, z6]) := by
  have hd := digs_dval (b := 18446744073709551616) [z0, z1, z2, z3, z4, z5, z6] (by
    intro d hd
    simp only [List.mem_cons, List.not_mem_nil, or_false] at hd
    rcases hd with rfl | rfl | rfl | rfl | rfl | rfl | rfl <;> assumption)
  generalize dval 18446744073709551616 [z0, z1, z2, z3, z4, z5, z6] = r at hd ⊢
  have q : ∀ j, (256 : Nat) ^ (8 * j) = 18446744073709551616 ^ j := fun j => by rw [show (18446744073709551616 : Nat) = 256 ^ 8 from rfl, ← Nat.pow_mul]
  have w : ∀ j z, j < 7 → [z0, z1, z2, z3, z4, z5, z6][j]? = some z → B8 z = B8 (r / 256 ^ (8 * j)) := by
    intro j z hj hz
    rw [← hd, List.length_cons, List.length_cons, List.length_cons, List.length_cons, List.length_cons, List.length_cons, List.length_cons, List.length_nil, digs_get _ r j (by omega)] at hz
    rw [q, ← B8_mod (r / _)]
    simp only [Option.some.injEq] at hz
    rw [hz]
  rw [← B8_seven r, w 0 z0 (by decide) rfl, w 1 z1 (by decide) rfl, w 2 z2 (by decide) rfl, w 3 z3 (by decide) rfl, w 4 z4 (by decide) rfl, w 5 z5 (by decide) rfl, w 6 z6 (by decide) rfl]
  simp only [Nat.reduceMul, Nat.pow_zero, Nat.div_one]

theorem put7 {M : Mem} {i g T k o : Nat} {l : List Nat} {z0 z1 z2 z3 z4 z5 z6 : Nat} {a b c d e f : Blk} (hk : k < l.length) (ho : 56 * k = o) (l0 : z0 < 18446744073709551616) (l1 : z1 < 18446744073709551616) (l2 : z2 < 18446744073709551616) (l3 : z3 < 18446744073709551616)
    (l4 : z4 < 18446744073709551616) (l5 : z5 < 18446744073709551616) (l6 : z6 < 18446744073709551616) :
    ((((((M.set i a).set i b).set i c).set i d).set i e).set i f).set i ⟨g, T, splice (splice (splice (splice (splice (splice (splice (EE l) o (B8 z0)) (o + 8) (B8 z1)) (o + 16) (B8 z2)) (o + 24) (B8 z3)) (o + 32) (B8 z4)) (o + 40) (B8 z5)) (o + 48) (B8 z6)⟩ =
    M.set i ⟨g, T, EE (l.set k (dval 18446744073709551616 [z0, z1, z2, z3, z4, z5, z6]))⟩ := by
  have hlen : o + 56 ≤ (EE l).length := by rw [EE_length]; omega
  have s1 := splice_splice (cs := EE l) (u := B8 z0) (v := B8 z1) (a := o) (by rw [B8_length]; omega)
  have s2 := splice_splice (cs := EE l) (u := B8 z0 ++ B8 z1) (v := B8 z2) (a := o) (by simp only [List.length_append, B8_length]; omega)
  have s3 := splice_splice (cs := EE l) (u := B8 z0 ++ B8 z1 ++ B8 z2) (v := B8 z3) (a := o) (by simp only [List.length_append, B8_length]; omega)
  have s4 := splice_splice (cs := EE l) (u := B8 z0 ++ B8 z1 ++ B8 z2 ++ B8 z3) (v := B8 z4) (a := o) (by simp only [List.length_append, B8_length]; omega)
  have s5 := splice_splice (cs := EE l) (u := B8 z0 ++ B8 z1 ++ B8 z2 ++ B8 z3 ++ B8 z4) (v := B8 z5) (a := o) (by simp only [List.length_append, B8_length]; omega)
  have s6 := splice_splice (cs := EE l) (u := B8 z0 ++ B8 z1 ++ B8 z2 ++ B8 z3 ++ B8 z4 ++ B8 z5) (v := B8 z6) (a := o) (by simp only [List.length_append, B8_length]; omega)
  simp only [List.length_append, B8_length, Nat.reduceAdd] at s1 s2 s3 s4 s5 s6
  rw [s1, s2, s3, s4, s5, s6, B8_words l0 l1 l2 l3 l4 l5 l6, EE_set hk ho]
  simp only [List.set_set]
end Go.Proofs.YtjlhhcdefcofkaaGreatDoor
