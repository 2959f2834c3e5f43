/- Plain: points of x^2 + y^2 = 1 + d x^2 y^2 sent to the curve -u^2 + v^2 = 1 + (d - 1) u^2 v^2: sums there are those of the points sent, and what comes back is four times the point. -/
import Derived.Test.YtjlhhcdefcofkaaGreatDoorGold
namespace Go.Proofs.YtjlhhcdefcofkaaGreatDoor
open Go
section
variable {n : Nat} [NeZero n]
/-- A field where also 1 - d is no square. -/
structure Cw (n : Nat) [NeZero n] (d : Fin n) : Prop extends Cv n d where
  nsq1 : ∀ s : Fin n, s * s ≠ 1 - d
theorem g_ne {d : Fin n} (C : Cw n d) {x y : Fin n} (h : On d x y) : y * y - x * x ≠ 0 := by
  intro h0
  apply C.nsq1 (d * (x * x) - 1)
  unfold On at h
  have h1 : y * y = x * x := by clear h; grind
  rw [h1] at h
  generalize x * x = a at *
  clear h0 h1
  grind
theorem h_on {d x y : Fin n} (h : On d x y) : x * x + y * y = 1 + d * (x * y) * (x * y) := by unfold On at h; rw [h]; clear h; grind
theorem f_on {d x y : Fin n} (h : On d x y) : 2 - x * x - y * y = 1 - d * (x * y) * (x * y) := by
  have := h_on h
  have e : 2 - x * x - y * y = 2 - (x * x + y * y) := by clear h this; grind
  rw [e, this]; clear h this e; grind
theorem f_ne {d : Fin n} (C : Cw n d) {x y : Fin n} (h : On d x y) : 2 - x * x - y * y ≠ 0 := by
  have := den_minus C.toCv h h
  rw [f_on h]
  intro h0
  apply this
  rw [← h0]; clear h0 this h; grind
theorem h_ne {d : Fin n} (C : Cw n d) {x y : Fin n} (h : On d x y) : x * x + y * y ≠ 0 := by
  have := den_plus C.toCv h h
  rw [h_on h]
  intro h0
  apply this
  rw [← h0]; clear h0 this h; grind
/-- The four numbers of a point. -/
def eT (x y : Fin n) : Fin n := 2 * (x * y)
def fT (x y : Fin n) : Fin n := 2 - x * x - y * y
def gT (x y : Fin n) : Fin n := y * y - x * x
def hT (x y : Fin n) : Fin n := x * x + y * y
/-- X : Y : Z with A B = X Y / Z stands for the point that (x, y) is sent to. -/
structure TRep (x y X Y Z A B : Fin n) : Prop where
  nz : Z ≠ 0
  hx : X * gT x y = eT x y * Z
  hy : Y * fT x y = hT x y * Z
  ht : A * B * Z = X * Y
theorem g_sq {d x y : Fin n} (h : On d x y) : gT x y * gT x y = (1 + d * (x * y) * (x * y)) * (1 + d * (x * y) * (x * y)) - 4 * ((x * y) * (x * y)) := by
  rw [← h_on h]; unfold gT; clear h; grind
/-- The numbers of the sum: with s1, s2 and the g's alone. -/
theorem tw_L2 {d s1 s2 G : Fin n} (hG : G * G = ((1 + d * s1 * s1) * (1 + d * s1 * s1) - 4 * (s1 * s1)) * ((1 + d * s2 * s2) * (1 + d * s2 * s2) - 4 * (s2 * s2))) :
    ((G - 4 * (s1 * s2)) * (1 + d * s1 * s2 * (d * s1 * s2)) + 2 * (d * s1 * s2) * ((1 + d * s1 * s1) * (1 + d * s2 * s2))) * (2 * ((1 - d * s1 * s2 * (d * s1 * s2)) * (1 - d * s1 * s2 * (d * s1 * s2))) - ((1 + d * s1 * s1) * (1 + d * s2 * s2)) * (1 + d * s1 * s2 * (d * s1 * s2)) + 2 * (d * s1 * s2) * (G + 4 * (s1 * s2)))
      = (1 - d * s1 * s2 * (d * s1 * s2)) * (1 - d * s1 * s2 * (d * s1 * s2)) * (G * ((1 - d * s1 * s1) * (1 - d * s2 * s2)) + 4 * (d - 1) * (s1 * s2) * ((1 + d * s1 * s1) * (1 + d * s2 * s2))) := by
  have e : ∀ a0 a1 b0 b1 : Fin n, (a0 + a1 * G) * (b0 + b1 * G) = a0 * b0 + (a0 * b1 + a1 * b0) * G + a1 * b1 * (G * G) := by intro a0 a1 b0 b1; clear hG; grind
  have k := e (-(4 * (s1 * s2)) * (1 + d * s1 * s2 * (d * s1 * s2)) + 2 * (d * s1 * s2) * ((1 + d * s1 * s1) * (1 + d * s2 * s2))) (1 + d * s1 * s2 * (d * s1 * s2)) (2 * ((1 - d * s1 * s2 * (d * s1 * s2)) * (1 - d * s1 * s2 * (d * s1 * s2))) - ((1 + d * s1 * s1) * (1 + d * s2 * s2)) * (1 + d * s1 * s2 * (d * s1 * s2)) + 2 * (d * s1 * s2) * (4 * (s1 * s2))) (2 * (d * s1 * s2))
  rw [hG] at k
  clear hG e
  grind
/-- What the sum's numbers are, by s1, s2 and the product of the g's. -/
def tS1 (d s1 s2 G : Fin n) : Fin n := ((1 + d * s1 * s1) * (1 + d * s2 * s2) * (1 + d * s1 * s2 * (d * s1 * s2)) + 2 * (d * s1 * s2) * (G - 4 * (s1 * s2)))
def tR2 (d s1 s2 G : Fin n) : Fin n := ((G - 4 * (s1 * s2)) * (1 + d * s1 * s2 * (d * s1 * s2)) + 2 * (d * s1 * s2) * ((1 + d * s1 * s1) * (1 + d * s2 * s2)))
def tM1 (d s1 s2 G : Fin n) : Fin n := (G * ((1 + d * s1 * s1) * (1 + d * s2 * s2)) + 4 * (s1 * s2) * ((1 - d * s1 * s1) * (1 - d * s2 * s2)))
def tM2 (d s1 s2 G : Fin n) : Fin n := (G * ((1 - d * s1 * s1) * (1 - d * s2 * s2)) - 4 * (d - 1) * (s1 * s2) * ((1 + d * s1 * s1) * (1 + d * s2 * s2)))
def tL2 (d s1 s2 G : Fin n) : Fin n := (G * ((1 - d * s1 * s1) * (1 - d * s2 * s2)) + 4 * (d - 1) * (s1 * s2) * ((1 + d * s1 * s1) * (1 + d * s2 * s2)))
def tBD (d s1 s2 : Fin n) : Fin n := (1 - d * s1 * s2 * (d * s1 * s2))
def tgm (d s1 s2 G : Fin n) : Fin n := ((G + 4 * (s1 * s2)) * (1 + d * s1 * s2 * (d * s1 * s2)) - 2 * (d * s1 * s2) * ((1 + d * s1 * s1) * (1 + d * s2 * s2)))
theorem tw_M2 {d s1 s2 G : Fin n} (hG : G * G = ((1 + d * s1 * s1) * (1 + d * s1 * s1) - 4 * (s1 * s1)) * ((1 + d * s2 * s2) * (1 + d * s2 * s2) - 4 * (s2 * s2))) : (2 * (tBD d s1 s2 * tBD d s1 s2) - tS1 d s1 s2 G) * tgm d s1 s2 G = tBD d s1 s2 * tBD d s1 s2 * tM2 d s1 s2 G := by
  unfold tBD tS1 tgm tM2
  grind
theorem tw_M1 {d s1 s2 G : Fin n} (hG : G * G = ((1 + d * s1 * s1) * (1 + d * s1 * s1) - 4 * (s1 * s1)) * ((1 + d * s2 * s2) * (1 + d * s2 * s2) - 4 * (s2 * s2))) : tM1 d s1 s2 G * (2 * (tBD d s1 s2 * tBD d s1 s2) - tS1 d s1 s2 G) = tM2 d s1 s2 G * tS1 d s1 s2 G := by
  unfold tBD tS1 tM1 tM2
  grind
theorem tw_L1 {d s1 s2 g1 g2 : Fin n} (e1 : g1 * g1 = (1 + d * s1 * s1) * (1 + d * s1 * s1) - 4 * (s1 * s1)) (e2 : g2 * g2 = (1 + d * s2 * s2) * (1 + d * s2 * s2) - 4 * (s2 * s2)) : (2 * (s1 * g2 * (1 + d * s2 * s2) * (1 - d * s1 * s1) + s2 * g1 * (1 + d * s1 * s1) * (1 - d * s2 * s2))) * tR2 d s1 s2 (g1 * g2) = tL2 d s1 s2 (g1 * g2) * (2 * (s1 * g2 + s2 * g1) * tBD d s1 s2) := by
  unfold tBD tR2 tL2
  grind
theorem s_ne {a b c : Fin n} (h : a * c = b) (hb : b ≠ 0) : a ≠ 0 := by
  intro h0
  apply hb
  rw [← h, h0]
  clear h hb h0
  grind
/-- The numbers of a sum. -/
theorem sum_gS {d x1 y1 x2 y2 x3 y3 : Fin n} (s : Sum d x1 y1 x2 y2 x3 y3) :
    gT x3 y3 * (tBD d (x1 * y1) (x2 * y2) * tBD d (x1 * y1) (x2 * y2)) = (y1 * y2 - x1 * x2) * (y1 * y2 - x1 * x2) * ((1 + d * x1 * x2 * y1 * y2) * (1 + d * x1 * x2 * y1 * y2)) - (x1 * y2 + y1 * x2) * (x1 * y2 + y1 * x2) * ((1 - d * x1 * x2 * y1 * y2) * (1 - d * x1 * x2 * y1 * y2)) := by
  rw [← s.hx, ← s.hy]
  unfold gT tBD
  clear s
  grind
theorem sum_hS {d x1 y1 x2 y2 x3 y3 : Fin n} (s : Sum d x1 y1 x2 y2 x3 y3) :
    hT x3 y3 * (tBD d (x1 * y1) (x2 * y2) * tBD d (x1 * y1) (x2 * y2)) = (y1 * y2 - x1 * x2) * (y1 * y2 - x1 * x2) * ((1 + d * x1 * x2 * y1 * y2) * (1 + d * x1 * x2 * y1 * y2)) + (x1 * y2 + y1 * x2) * (x1 * y2 + y1 * x2) * ((1 - d * x1 * x2 * y1 * y2) * (1 - d * x1 * x2 * y1 * y2)) := by
  rw [← s.hx, ← s.hy]
  unfold hT tBD
  clear s
  grind
theorem sum_eS {d x1 y1 x2 y2 x3 y3 : Fin n} (s : Sum d x1 y1 x2 y2 x3 y3) :
    eT x3 y3 * tBD d (x1 * y1) (x2 * y2) = 2 * ((x1 * y2 + y1 * x2) * (y1 * y2 - x1 * x2)) := by
  rw [← s.hx, ← s.hy]
  unfold eT tBD
  clear s
  grind
theorem num_g {d x1 y1 x2 y2 h1 h2 g1 g2 : Fin n} (e1 : h1 = x1 * x1 + y1 * y1) (e2 : h2 = x2 * x2 + y2 * y2) (k1 : g1 = y1 * y1 - x1 * x1) (k2 : g2 = y2 * y2 - x2 * x2) :
    (y1 * y2 - x1 * x2) * (y1 * y2 - x1 * x2) * ((1 + d * x1 * x2 * y1 * y2) * (1 + d * x1 * x2 * y1 * y2)) - (x1 * y2 + y1 * x2) * (x1 * y2 + y1 * x2) * ((1 - d * x1 * x2 * y1 * y2) * (1 - d * x1 * x2 * y1 * y2))
      = (g1 * g2 - 4 * ((x1 * y1) * (x2 * y2))) * (1 + d * (x1 * y1) * (x2 * y2) * (d * (x1 * y1) * (x2 * y2))) + 2 * (d * (x1 * y1) * (x2 * y2)) * (h1 * h2) := by
  rw [e1, e2, k1, k2]
  clear e1 e2 k1 k2
  grind
theorem num_h {d x1 y1 x2 y2 h1 h2 g1 g2 : Fin n} (e1 : h1 = x1 * x1 + y1 * y1) (e2 : h2 = x2 * x2 + y2 * y2) (k1 : g1 = y1 * y1 - x1 * x1) (k2 : g2 = y2 * y2 - x2 * x2) :
    (y1 * y2 - x1 * x2) * (y1 * y2 - x1 * x2) * ((1 + d * x1 * x2 * y1 * y2) * (1 + d * x1 * x2 * y1 * y2)) + (x1 * y2 + y1 * x2) * (x1 * y2 + y1 * x2) * ((1 - d * x1 * x2 * y1 * y2) * (1 - d * x1 * x2 * y1 * y2))
      = h1 * h2 * (1 + d * (x1 * y1) * (x2 * y2) * (d * (x1 * y1) * (x2 * y2))) + 2 * (d * (x1 * y1) * (x2 * y2)) * (g1 * g2 - 4 * ((x1 * y1) * (x2 * y2))) := by
  rw [e1, e2, k1, k2]
  clear e1 e2 k1 k2
  grind
theorem num_e {x1 y1 x2 y2 g1 g2 : Fin n} (k1 : g1 = y1 * y1 - x1 * x1) (k2 : g2 = y2 * y2 - x2 * x2) :
    (x1 * y2 + y1 * x2) * (y1 * y2 - x1 * x2) = (x1 * y1) * g2 + (x2 * y2) * g1 := by
  rw [k1, k2]
  clear k1 k2
  grind
theorem sum_g {d x1 y1 x2 y2 x3 y3 : Fin n} (h1 : On d x1 y1) (h2 : On d x2 y2) (s : Sum d x1 y1 x2 y2 x3 y3) : gT x3 y3 * (tBD d (x1 * y1) (x2 * y2) * tBD d (x1 * y1) (x2 * y2)) = tR2 d (x1 * y1) (x2 * y2) (gT x1 y1 * gT x2 y2) := by
  rw [sum_gS s, num_g (h1 := 1 + d * (x1 * y1) * (x1 * y1)) (h2 := 1 + d * (x2 * y2) * (x2 * y2)) (h_on h1).symm (h_on h2).symm rfl rfl]
  rfl
theorem sum_h {d x1 y1 x2 y2 x3 y3 : Fin n} (h1 : On d x1 y1) (h2 : On d x2 y2) (s : Sum d x1 y1 x2 y2 x3 y3) : hT x3 y3 * (tBD d (x1 * y1) (x2 * y2) * tBD d (x1 * y1) (x2 * y2)) = tS1 d (x1 * y1) (x2 * y2) (gT x1 y1 * gT x2 y2) := by
  rw [sum_hS s, num_h (h1 := 1 + d * (x1 * y1) * (x1 * y1)) (h2 := 1 + d * (x2 * y2) * (x2 * y2)) (h_on h1).symm (h_on h2).symm rfl rfl]
  rfl
theorem sum_e {d x1 y1 x2 y2 x3 y3 : Fin n} (s : Sum d x1 y1 x2 y2 x3 y3) : eT x3 y3 * tBD d (x1 * y1) (x2 * y2) = 2 * ((x1 * y1) * gT x2 y2 + (x2 * y2) * gT x1 y1) := by
  rw [sum_eS s, num_e rfl rfl]; rfl
theorem f_of (x y : Fin n) : fT x y = 2 - hT x y := by unfold fT hT; grind
theorem sum_f {d x1 y1 x2 y2 x3 y3 : Fin n} (h1 : On d x1 y1) (h2 : On d x2 y2) (s : Sum d x1 y1 x2 y2 x3 y3) : fT x3 y3 * (tBD d (x1 * y1) (x2 * y2) * tBD d (x1 * y1) (x2 * y2)) = 2 * (tBD d (x1 * y1) (x2 * y2) * tBD d (x1 * y1) (x2 * y2)) - tS1 d (x1 * y1) (x2 * y2) (gT x1 y1 * gT x2 y2) := by
  rw [← sum_h h1 h2 s, f_of]
  generalize tBD d (x1 * y1) (x2 * y2) = b
  generalize hT x3 y3 = h
  clear h1 h2 s
  grind
theorem on_neg1 {d x y : Fin n} (h : On d x y) : On d (-x) y := by
  unfold On at *
  have e : (-x) * (-x) = x * x := by clear h; grind
  rw [e]; exact h
/-- The difference's number. -/
theorem diff_g {d : Fin n} (C : Cw n d) {x1 y1 x2 y2 : Fin n} (h1 : On d x1 y1) (h2 : On d x2 y2) : tgm d (x1 * y1) (x2 * y2) (gT x1 y1 * gT x2 y2) ≠ 0 := by
  have h2' := on_neg1 h2
  obtain ⟨x4, y4, s⟩ := Sum.ex C.toCv h1 h2'
  have g4 := g_ne C (s.on C.toCv h1 h2')
  have k := sum_g h1 h2' s
  have eg : gT (-x2) y2 = gT x2 y2 := by unfold gT; clear k g4 s h1 h2 h2' C; grind
  have es : -x2 * y2 = -(x2 * y2) := by clear k g4 s h1 h2 h2' C eg; grind
  rw [eg, es] at k
  have er : tR2 d (x1 * y1) (-(x2 * y2)) (gT x1 y1 * gT x2 y2) = tgm d (x1 * y1) (x2 * y2) (gT x1 y1 * gT x2 y2) := by
    unfold tR2 tgm
    generalize x1 * y1 = s1
    generalize x2 * y2 = s2
    generalize gT x1 y1 * gT x2 y2 = G
    clear k g4 s h1 h2 h2' C eg es
    grind
  rw [er] at k
  rw [← k]
  have e3 : tBD d (x1 * y1) (-(x2 * y2)) = (1 + d * x1 * (-x2) * y1 * y2) * (1 - d * x1 * (-x2) * y1 * y2) := by
    unfold tBD
    clear k g4 s h1 h2 h2' C eg es er
    grind
  have hb := C.F.mul_ne (den_plus C.toCv h1 h2') (den_minus C.toCv h1 h2')
  rw [← e3] at hb
  exact C.F.mul_ne g4 (C.F.mul_ne hb hb)
theorem bd_ne {d : Fin n} (C : Cw n d) {x1 y1 x2 y2 : Fin n} (h1 : On d x1 y1) (h2 : On d x2 y2) : tBD d (x1 * y1) (x2 * y2) ≠ 0 := by
  have e3 : tBD d (x1 * y1) (x2 * y2) = (1 + d * x1 * x2 * y1 * y2) * (1 - d * x1 * x2 * y1 * y2) := by
    unfold tBD
    clear h1 h2 C
    grind
  rw [e3]
  exact C.F.mul_ne (den_plus C.toCv h1 h2) (den_minus C.toCv h1 h2)
def tfm (d s1 s2 G : Fin n) : Fin n := 2 * (tBD d s1 s2 * tBD d s1 s2) - ((1 + d * s1 * s1) * (1 + d * s2 * s2)) * (1 + d * s1 * s2 * (d * s1 * s2)) + 2 * (d * s1 * s2) * (G + 4 * (s1 * s2))
theorem tw_L2' {d s1 s2 G : Fin n} (hG : G * G = ((1 + d * s1 * s1) * (1 + d * s1 * s1) - 4 * (s1 * s1)) * ((1 + d * s2 * s2) * (1 + d * s2 * s2) - 4 * (s2 * s2))) : tR2 d s1 s2 G * tfm d s1 s2 G = tBD d s1 s2 * tBD d s1 s2 * tL2 d s1 s2 G := by
  have k := tw_L2 hG
  unfold tR2 tfm tBD tL2
  exact k
theorem cross (K : IsF n) {E g e G N b L R L2 S q : Fin n} (hN : N ≠ 0) (hb : b ≠ 0) (kE : E * N = q * L) (kG : G * N = q * L2) (sg : g * (b * b) = R) (se : e * (b * b) = S) (i : L * R = L2 * S) : E * g = e * G := by
  apply K.cancel (K.mul_ne hN (K.mul_ne hb hb))
  have l : N * (b * b) * (E * g) = (E * N) * (g * (b * b)) := by clear kE kG sg se i hN hb K; grind
  have m : N * (b * b) * (e * G) = (G * N) * (e * (b * b)) := by clear kE kG sg se i hN hb K l; grind
  rw [l, m, kE, kG, sg, se]
  have o : q * L * R = q * (L * R) := by clear kE kG sg se i hN hb K l m; grind
  rw [o, i]
  clear kE kG sg se i hN hb K l m o
  grind
theorem diff_f {d : Fin n} (C : Cw n d) {x1 y1 x2 y2 : Fin n} (h1 : On d x1 y1) (h2 : On d x2 y2) : tfm d (x1 * y1) (x2 * y2) (gT x1 y1 * gT x2 y2) ≠ 0 := by
  have h2' := on_neg1 h2
  obtain ⟨x4, y4, s⟩ := Sum.ex C.toCv h1 h2'
  have f4 : fT x4 y4 ≠ 0 := f_ne C (s.on C.toCv h1 h2')
  have k := sum_f h1 h2' s
  have eg : gT (-x2) y2 = gT x2 y2 := by unfold gT; clear k f4 s h1 h2 h2' C; grind
  have es : -x2 * y2 = -(x2 * y2) := by clear k f4 s h1 h2 h2' C eg; grind
  rw [eg, es] at k
  have er : 2 * (tBD d (x1 * y1) (-(x2 * y2)) * tBD d (x1 * y1) (-(x2 * y2))) - tS1 d (x1 * y1) (-(x2 * y2)) (gT x1 y1 * gT x2 y2) = tfm d (x1 * y1) (x2 * y2) (gT x1 y1 * gT x2 y2) := by
    unfold tS1 tfm tBD
    generalize x1 * y1 = s1
    generalize x2 * y2 = s2
    generalize gT x1 y1 * gT x2 y2 = G
    clear k f4 s h1 h2 h2' C eg es
    grind
  rw [er] at k
  rw [← k]
  have e3 : tBD d (x1 * y1) (-(x2 * y2)) = (1 + d * x1 * (-x2) * y1 * y2) * (1 - d * x1 * (-x2) * y1 * y2) := by
    unfold tBD
    clear k f4 s h1 h2 h2' C eg es er
    grind
  have hb := C.F.mul_ne (den_plus C.toCv h1 h2') (den_minus C.toCv h1 h2')
  rw [← e3] at hb
  exact C.F.mul_ne f4 (C.F.mul_ne hb hb)
/-- What the package's mixed sum makes, times the denominators. -/
theorem mix_E {g1 g2 f1 f2 e1 e2 h1 h2 X1 Y1 Z1 X2 Y2 Z2 : Fin n} (a1 : X1 * g1 = e1 * Z1) (b1 : Y1 * f1 = h1 * Z1) (a2 : X2 * g2 = e2 * Z2) (b2 : Y2 * f2 = h2 * Z2) :
    ((Y1 + X1) * (Y2 + X2) - (Y1 - X1) * (Y2 - X2)) * (g1 * g2 * (f1 * f2)) = 2 * (Z1 * Z2) * (e1 * h2 * (g2 * f1) + h1 * e2 * (g1 * f2)) := by
  have l : ((Y1 + X1) * (Y2 + X2) - (Y1 - X1) * (Y2 - X2)) * (g1 * g2 * (f1 * f2)) = 2 * ((X1 * g1) * (Y2 * f2) * (g2 * f1) + (Y1 * f1) * (X2 * g2) * (g1 * f2)) := by clear a1 b1 a2 b2; grind
  rw [l, a1, b1, a2, b2]
  clear l a1 b1 a2 b2
  grind
theorem mix_H {g1 g2 f1 f2 e1 e2 h1 h2 X1 Y1 Z1 X2 Y2 Z2 : Fin n} (a1 : X1 * g1 = e1 * Z1) (b1 : Y1 * f1 = h1 * Z1) (a2 : X2 * g2 = e2 * Z2) (b2 : Y2 * f2 = h2 * Z2) :
    ((Y1 + X1) * (Y2 + X2) + (Y1 - X1) * (Y2 - X2)) * (g1 * g2 * (f1 * f2)) = 2 * (Z1 * Z2) * (h1 * h2 * (g1 * g2) + e1 * e2 * (f1 * f2)) := by
  have l : ((Y1 + X1) * (Y2 + X2) + (Y1 - X1) * (Y2 - X2)) * (g1 * g2 * (f1 * f2)) = 2 * ((Y1 * f1) * (Y2 * f2) * (g1 * g2) + (X1 * g1) * (X2 * g2) * (f1 * f2)) := by clear a1 b1 a2 b2; grind
  rw [l, a1, b1, a2, b2]
  clear l a1 b1 a2 b2
  grind
theorem mix_G {c g1 g2 f1 f2 e1 e2 h1 h2 X1 Y1 Z1 T1 X2 Y2 Z2 T2 : Fin n} (a1 : X1 * g1 = e1 * Z1) (b1 : Y1 * f1 = h1 * Z1) (a2 : X2 * g2 = e2 * Z2) (b2 : Y2 * f2 = h2 * Z2) (t1 : T1 * Z1 = X1 * Y1) (t2 : T2 * Z2 = X2 * Y2) :
    (Z1 * Z2) * ((Z1 * (2 * Z2) + T1 * (2 * c * T2)) * (g1 * g2 * (f1 * f2))) = (Z1 * Z2) * (2 * (Z1 * Z2) * (g1 * g2 * (f1 * f2) + c * (e1 * e2) * (h1 * h2))) := by
  have l : (Z1 * Z2) * ((Z1 * (2 * Z2) + T1 * (2 * c * T2)) * (g1 * g2 * (f1 * f2))) = 2 * ((Z1 * Z2) * (Z1 * Z2)) * (g1 * g2 * (f1 * f2)) + 2 * c * ((T1 * Z1) * (T2 * Z2)) * (g1 * g2 * (f1 * f2)) := by clear a1 b1 a2 b2 t1 t2; grind
  have m : 2 * c * ((X1 * Y1) * (X2 * Y2)) * (g1 * g2 * (f1 * f2)) = 2 * c * ((X1 * g1) * (Y1 * f1) * ((X2 * g2) * (Y2 * f2))) := by clear a1 b1 a2 b2 t1 t2 l; grind
  rw [l, t1, t2, m, a1, b1, a2, b2]
  clear l m a1 b1 a2 b2 t1 t2
  grind
theorem fin_x {E F G a b : Fin n} (h : E * a = b * G) : E * F * a = b * (F * G) := by
  have l : E * F * a = E * a * F := by clear h; grind
  rw [l, h]
  clear l h
  grind
theorem fin_y {H F G a b : Fin n} (h : H * a = b * F) : G * H * a = b * (F * G) := by
  have l : G * H * a = H * a * G := by clear h; grind
  rw [l, h]
  clear l h
  grind
theorem fin_t {E F G H : Fin n} : E * H * (F * G) = E * F * (G * H) := by grind
/-- A sum on the other curve is the sum's point sent. -/
theorem tw_add {d : Fin n} (C : Cw n d) {x1 y1 x2 y2 x3 y3 X1 Y1 Z1 A1 B1 X2 Y2 Z2 A2 B2 E H F G : Fin n} (h1 : On d x1 y1) (h2 : On d x2 y2) (s : Sum d x1 y1 x2 y2 x3 y3) (r1 : TRep x1 y1 X1 Y1 Z1 A1 B1) (r2 : TRep x2 y2 X2 Y2 Z2 A2 B2)
    (hE : E = (Y1 + X1) * (Y2 + X2) - (Y1 - X1) * (Y2 - X2)) (hH : H = (Y1 + X1) * (Y2 + X2) + (Y1 - X1) * (Y2 - X2))
    (hF : F = Z1 * (2 * Z2) - A1 * B1 * (2 * (d - 1) * (A2 * B2))) (hG : G = Z1 * (2 * Z2) + A1 * B1 * (2 * (d - 1) * (A2 * B2))) : TRep x3 y3 (E * F) (G * H) (F * G) E H := by
  have gs1 := g_sq h1
  have gs2 := g_sq h2
  have hh1 := h_on h1
  have hh2 := h_on h2
  have ff1 := f_on h1
  have ff2 := f_on h2
  have zz := C.F.mul_ne r1.nz r2.nz
  have gn1 : gT x1 y1 ≠ 0 := g_ne C h1
  have gn2 : gT x2 y2 ≠ 0 := g_ne C h2
  have fn1 : fT x1 y1 ≠ 0 := f_ne C h1
  have fn2 : fT x2 y2 ≠ 0 := f_ne C h2
  have bd := bd_ne C h1 h2
  have h3 := s.on C.toCv h1 h2
  have gn3 : gT x3 y3 ≠ 0 := g_ne C h3
  have fn3 : fT x3 y3 ≠ 0 := f_ne C h3
  have nn := C.F.mul_ne (C.F.mul_ne gn1 gn2) (C.F.mul_ne fn1 fn2)
  have kE := mix_E r1.hx r1.hy r2.hx r2.hy
  have kH := mix_H r1.hx r1.hy r2.hx r2.hy
  have kG := C.F.cancel zz (mix_G (c := d - 1) r1.hx r1.hy r2.hx r2.hy r1.ht r2.ht)
  have kF := C.F.cancel zz (mix_G (c := -(d - 1)) r1.hx r1.hy r2.hx r2.hy r1.ht r2.ht)
  rw [← hE] at kE
  rw [← hH] at kH
  rw [← hG] at kG
  rw [show Z1 * (2 * Z2) + A1 * B1 * (2 * -(d - 1) * (A2 * B2)) = F by rw [hF]; clear hE hH hF hG kE kH kG kF s r1 r2 C h1 h2 gs1 gs2 hh1 hh2 ff1 ff2 zz gn1 gn2 fn1 fn2 bd h3 gn3 fn3 nn; grind] at kF
  have sg := sum_g h1 h2 s
  have se := sum_e s
  have sh := sum_h h1 h2 s
  have sf := sum_f h1 h2 s
  have i1 := tw_L1 gs1 gs2
  have gg : (gT x1 y1 * gT x2 y2) * (gT x1 y1 * gT x2 y2) = (gT x1 y1 * gT x1 y1) * (gT x2 y2 * gT x2 y2) := by generalize gT x1 y1 = a; generalize gT x2 y2 = b; clear hE hH hF hG kE kH kG kF s r1 r2 C h1 h2 gs1 gs2 hh1 hh2 ff1 ff2 zz gn1 gn2 fn1 fn2 bd h3 gn3 fn3 nn sg se sh sf i1; grind
  rw [gs1, gs2] at gg
  have i2 := tw_M1 gg
  have i3 := tw_M2 gg
  have dg := diff_g C h1 h2
  have df := diff_f C h1 h2
  have i4 := tw_L2' gg
  have he1 : eT x1 y1 = 2 * (x1 * y1) := rfl
  have he2 : eT x2 y2 = 2 * (x2 * y2) := rfl
  have hH1 : hT x1 y1 = 1 + d * (x1 * y1) * (x1 * y1) := hh1
  have hH2 : hT x2 y2 = 1 + d * (x2 * y2) * (x2 * y2) := hh2
  have hF1 : fT x1 y1 = 1 - d * (x1 * y1) * (x1 * y1) := ff1
  have hF2 : fT x2 y2 = 1 - d * (x2 * y2) * (x2 * y2) := ff2
  rw [he1, he2, hH1, hH2] at kE kH kG kF
  have qq2 : 2 * (Z1 * Z2) ≠ 0 := C.F.mul_ne C.two zz
  -- the four numbers' texts
  generalize hN : gT x1 y1 * gT x2 y2 * (fT x1 y1 * fT x2 y2) = N at kE kH kG kF nn
  have jE : E * N = 2 * (Z1 * Z2) * (2 * (x1 * y1 * gT x2 y2 * (1 + d * (x2 * y2) * (x2 * y2)) * (1 - d * (x1 * y1) * (x1 * y1)) + x2 * y2 * gT x1 y1 * (1 + d * (x1 * y1) * (x1 * y1)) * (1 - d * (x2 * y2) * (x2 * y2)))) := by
    rw [kE, hF1, hF2]
    generalize gT x1 y1 = a
    generalize gT x2 y2 = b
    clear nn hE hH hF hG kE kH kG kF s r1 r2 C h1 h2 gs1 gs2 hh1 hh2 ff1 ff2 zz gn1 gn2 fn1 fn2 bd h3 gn3 fn3 sg se sh sf i1 gg i2 i3 dg df i4 he1 he2 hH1 hH2 hF1 hF2 hN qq2
    grind
  have jH : H * N = 2 * (Z1 * Z2) * tM1 d (x1 * y1) (x2 * y2) (gT x1 y1 * gT x2 y2) := by
    rw [kH, hF1, hF2]
    unfold tM1
    generalize gT x1 y1 = a
    generalize gT x2 y2 = b
    clear nn hE hH hF hG kE kH kG kF s r1 r2 C h1 h2 gs1 gs2 hh1 hh2 ff1 ff2 zz gn1 gn2 fn1 fn2 bd h3 gn3 fn3 sg se sh sf i1 gg i2 i3 dg df i4 he1 he2 hH1 hH2 hF1 hF2 hN qq2 jE
    grind
  have jG : G * N = 2 * (Z1 * Z2) * tL2 d (x1 * y1) (x2 * y2) (gT x1 y1 * gT x2 y2) := by
    rw [kG, ← hN, hF1, hF2]
    unfold tL2
    generalize gT x1 y1 = a
    generalize gT x2 y2 = b
    clear nn hE hH hF hG kE kH kG kF s r1 r2 C h1 h2 gs1 gs2 hh1 hh2 ff1 ff2 zz gn1 gn2 fn1 fn2 bd h3 gn3 fn3 sg se sh sf i1 gg i2 i3 dg df i4 he1 he2 hH1 hH2 hF1 hF2 hN qq2 jE jH
    grind
  have jF : F * N = 2 * (Z1 * Z2) * tM2 d (x1 * y1) (x2 * y2) (gT x1 y1 * gT x2 y2) := by
    rw [kF, ← hN, hF1, hF2]
    unfold tM2
    generalize gT x1 y1 = a
    generalize gT x2 y2 = b
    clear nn hE hH hF hG kE kH kG kF s r1 r2 C h1 h2 gs1 gs2 hh1 hh2 ff1 ff2 zz gn1 gn2 fn1 fn2 bd h3 gn3 fn3 sg se sh sf i1 gg i2 i3 dg df i4 he1 he2 hH1 hH2 hF1 hF2 hN qq2 jE jH jG
    grind
  have se2 : eT x3 y3 * (tBD d (x1 * y1) (x2 * y2) * tBD d (x1 * y1) (x2 * y2)) = 2 * (x1 * y1 * gT x2 y2 + x2 * y2 * gT x1 y1) * tBD d (x1 * y1) (x2 * y2) := by
    rw [← se]
    generalize tBD d (x1 * y1) (x2 * y2) = b
    generalize eT x3 y3 = e
    clear nn hE hH hF hG kE kH kG kF s r1 r2 C h1 h2 gs1 gs2 hh1 hh2 ff1 ff2 zz gn1 gn2 fn1 fn2 bd h3 gn3 fn3 sg se sh sf i1 gg i2 i3 dg df i4 he1 he2 hH1 hH2 hF1 hF2 hN qq2 jE jH jG jF
    grind
  have c1 := cross C.F nn bd jE jG sg se2 i1
  have c2 := cross C.F nn bd jH jF sf sh i2
  have bb := C.F.mul_ne bd bd
  have hM2 : tM2 d (x1 * y1) (x2 * y2) (gT x1 y1 * gT x2 y2) ≠ 0 := by
    intro h0
    rw [h0, mul_zero', ← sf] at i3
    exact C.F.mul_ne (C.F.mul_ne fn3 bb) dg i3
  have hL2 : tL2 d (x1 * y1) (x2 * y2) (gT x1 y1 * gT x2 y2) ≠ 0 := by
    intro h0
    rw [h0, mul_zero', ← sg] at i4
    exact C.F.mul_ne (C.F.mul_ne gn3 bb) df i4
  have nF : F ≠ 0 := s_ne jF (C.F.mul_ne qq2 hM2)
  have nG : G ≠ 0 := s_ne jG (C.F.mul_ne qq2 hL2)
  exact ⟨C.F.mul_ne nF nG, fin_x c1, fin_y c2, fin_t⟩
/-- The double on the other curve. -/
theorem tw_dbl {d : Fin n} (C : Cw n d) {x1 y1 x3 y3 X Y Z A B E H F G : Fin n} (h1 : On d x1 y1) (s : Sum d x1 y1 x1 y1 x3 y3) (r : TRep x1 y1 X Y Z A B)
    (hE : E = 2 * (X * Y)) (hH : H = X * X + Y * Y) (hG : G = Y * Y - X * X) (hF : F = 2 * (Z * Z) - G) : TRep x3 y3 (E * F) (G * H) (F * G) E H := by
  have gn1 : gT x1 y1 ≠ 0 := g_ne C h1
  have fn1 : fT x1 y1 ≠ 0 := f_ne C h1
  have hn1 : hT x1 y1 ≠ 0 := h_ne C h1
  have h3 := s.on C.toCv h1 h1
  have gn3 : gT x3 y3 ≠ 0 := g_ne C h3
  have fn3 : fT x3 y3 ≠ 0 := f_ne C h3
  have hH1 : hT x1 y1 = 1 + d * x1 * x1 * y1 * y1 := by
    have := h_on h1
    show x1 * x1 + y1 * y1 = _
    rw [this]; clear this hE hH hG hF r s h1 h3 gn1 fn1 hn1 gn3 fn3 C; grind
  have hF1 : fT x1 y1 = 1 - d * x1 * x1 * y1 * y1 := by
    have := f_on h1
    show 2 - x1 * x1 - y1 * y1 = _
    rw [this]; clear this hE hH hG hF r s h1 h3 gn1 fn1 hn1 gn3 fn3 C hH1; grind
  have sx := s.hx
  have sy := s.hy
  rw [← hH1] at sx
  rw [← hF1] at sy
  have ee : eT x1 y1 = x1 * y1 + y1 * x1 := by unfold eT; clear hE hH hG hF r s h1 h3 gn1 fn1 hn1 gn3 fn3 C hH1 hF1 sx sy; grind
  have sx' : x3 * hT x1 y1 = eT x1 y1 := sx.trans ee.symm
  have sy' : y3 * fT x1 y1 = gT x1 y1 := sy
  have sq : gT x1 y1 * gT x1 y1 + eT x1 y1 * eT x1 y1 = hT x1 y1 * hT x1 y1 := by unfold gT eT hT; clear hE hH hG hF r s h1 h3 gn1 fn1 hn1 gn3 fn3 C hH1 hF1 sx sy ee sx' sy'; grind
  obtain ⟨nz, hx, hy, ht⟩ := r
  have ff : fT x3 y3 = 2 - hT x3 y3 := f_of _ _
  have kz : Z * Z ≠ 0 := C.F.mul_ne nz nz
  have hn : hT x1 y1 * fT x1 y1 ≠ 0 := C.F.mul_ne hn1 fn1
  have gn : gT x1 y1 * fT x1 y1 ≠ 0 := C.F.mul_ne gn1 fn1
  -- the doubled point's numbers
  have g3 : gT x3 y3 * ((hT x1 y1 * fT x1 y1) * (hT x1 y1 * fT x1 y1)) = (gT x1 y1 * hT x1 y1) * (gT x1 y1 * hT x1 y1) - (eT x1 y1 * fT x1 y1) * (eT x1 y1 * fT x1 y1) := by
    have l : gT x3 y3 * ((hT x1 y1 * fT x1 y1) * (hT x1 y1 * fT x1 y1)) = ((y3 * fT x1 y1) * hT x1 y1) * ((y3 * fT x1 y1) * hT x1 y1) - ((x3 * hT x1 y1) * fT x1 y1) * ((x3 * hT x1 y1) * fT x1 y1) := by
      rw [show gT x3 y3 = y3 * y3 - x3 * x3 from rfl]
      generalize hT x1 y1 = p
      generalize fT x1 y1 = q
      clear hE hH hG hF s h1 h3 gn1 fn1 hn1 gn3 fn3 C hH1 hF1 sx sy ee sx' sy' sq ff nz hx hy ht kz hn gn; grind
    rw [l, sx', sy']
  have q3 : hT x3 y3 * ((hT x1 y1 * fT x1 y1) * (hT x1 y1 * fT x1 y1)) = (gT x1 y1 * hT x1 y1) * (gT x1 y1 * hT x1 y1) + (eT x1 y1 * fT x1 y1) * (eT x1 y1 * fT x1 y1) := by
    have l : hT x3 y3 * ((hT x1 y1 * fT x1 y1) * (hT x1 y1 * fT x1 y1)) = ((y3 * fT x1 y1) * hT x1 y1) * ((y3 * fT x1 y1) * hT x1 y1) + ((x3 * hT x1 y1) * fT x1 y1) * ((x3 * hT x1 y1) * fT x1 y1) := by
      rw [show hT x3 y3 = x3 * x3 + y3 * y3 from rfl]
      generalize hT x1 y1 = p
      generalize fT x1 y1 = q
      clear hE hH hG hF s h1 h3 gn1 fn1 hn1 gn3 fn3 C hH1 hF1 sx sy ee sx' sy' sq ff nz hx hy ht kz hn gn g3; grind
    rw [l, sx', sy']
  have e3 : eT x3 y3 * ((hT x1 y1 * fT x1 y1) * (hT x1 y1 * fT x1 y1)) = 2 * ((eT x1 y1 * gT x1 y1) * (hT x1 y1 * fT x1 y1)) := by
    have l : eT x3 y3 * ((hT x1 y1 * fT x1 y1) * (hT x1 y1 * fT x1 y1)) = 2 * (((x3 * hT x1 y1) * (y3 * fT x1 y1)) * (hT x1 y1 * fT x1 y1)) := by
      rw [show eT x3 y3 = 2 * (x3 * y3) from rfl]
      generalize hT x1 y1 = p
      generalize fT x1 y1 = q
      clear hE hH hG hF s h1 h3 gn1 fn1 hn1 gn3 fn3 C hH1 hF1 sx sy ee sx' sy' sq ff nz hx hy ht kz hn gn g3 q3; grind
    rw [l, sx', sy']
  have f3 : fT x3 y3 * ((hT x1 y1 * fT x1 y1) * (hT x1 y1 * fT x1 y1)) = 2 * ((hT x1 y1 * fT x1 y1) * (hT x1 y1 * fT x1 y1)) - ((gT x1 y1 * hT x1 y1) * (gT x1 y1 * hT x1 y1) + (eT x1 y1 * fT x1 y1) * (eT x1 y1 * fT x1 y1)) := by
    rw [← q3, ff]
    generalize hT x3 y3 = w
    generalize hT x1 y1 * fT x1 y1 = v
    clear hE hH hG hF s h1 h3 gn1 fn1 hn1 gn3 fn3 C hH1 hF1 sx sy ee sx' sy' sq ff nz hx hy ht kz hn gn g3 q3 e3; grind
  -- what is made, times the denominators
  generalize hT x1 y1 = h at *
  generalize fT x1 y1 = f at *
  generalize gT x1 y1 = g at *
  generalize eT x1 y1 = e at *
  have kE : E * ((g * f) * (g * f)) = (Z * Z) * (2 * ((e * g) * (h * f))) := by
    have l : E * ((g * f) * (g * f)) = 2 * ((X * g) * (Y * f)) * (g * f) := by rw [hE]; clear hE hH hG hF s h1 h3 gn1 fn1 hn1 gn3 fn3 C hH1 hF1 sx sy ee sx' sy' sq ff nz hx hy ht kz hn gn g3 q3 e3 f3; grind
    rw [l, hx, hy]; clear hE hH hG hF s h1 h3 gn1 fn1 hn1 gn3 fn3 C hH1 hF1 sx sy ee sx' sy' sq ff nz hx hy ht kz hn gn g3 q3 e3 f3 l; grind
  have kG : G * ((g * f) * (g * f)) = (Z * Z) * ((g * h) * (g * h) - (e * f) * (e * f)) := by
    have l : G * ((g * f) * (g * f)) = ((Y * f) * g) * ((Y * f) * g) - ((X * g) * f) * ((X * g) * f) := by rw [hG]; clear hE hH hG hF s h1 h3 gn1 fn1 hn1 gn3 fn3 C hH1 hF1 sx sy ee sx' sy' sq ff nz hx hy ht kz hn gn g3 q3 e3 f3 kE; grind
    rw [l, hx, hy]; clear hE hH hG hF s h1 h3 gn1 fn1 hn1 gn3 fn3 C hH1 hF1 sx sy ee sx' sy' sq ff nz hx hy ht kz hn gn g3 q3 e3 f3 l kE; grind
  have kH : H * ((g * f) * (g * f)) = (Z * Z) * ((g * h) * (g * h) + (e * f) * (e * f)) := by
    have l : H * ((g * f) * (g * f)) = ((Y * f) * g) * ((Y * f) * g) + ((X * g) * f) * ((X * g) * f) := by rw [hH]; clear hE hH hG hF s h1 h3 gn1 fn1 hn1 gn3 fn3 C hH1 hF1 sx sy ee sx' sy' sq ff nz hx hy ht kz hn gn g3 q3 e3 f3 kE kG; grind
    rw [l, hx, hy]; clear hE hH hG hF s h1 h3 gn1 fn1 hn1 gn3 fn3 C hH1 hF1 sx sy ee sx' sy' sq ff nz hx hy ht kz hn gn g3 q3 e3 f3 l kE kG; grind
  have kF : F * ((g * f) * (g * f)) = (Z * Z) * (2 * ((h * f) * (h * f)) - ((g * h) * (g * h) + (e * f) * (e * f))) := by
    have l : F * ((g * f) * (g * f)) = 2 * (Z * Z) * ((g * f) * (g * f)) - G * ((g * f) * (g * f)) := by rw [hF]; clear hE hH hG hF s h1 h3 gn1 fn1 hn1 gn3 fn3 C hH1 hF1 sx sy ee sx' sy' sq ff nz hx hy ht kz hn gn g3 q3 e3 f3 kE kG kH; grind
    have m : (g * f) * (g * f) = (h * h - e * e) * (f * f) := by rw [← sq]; clear hE hH hG hF s h1 h3 gn1 fn1 hn1 gn3 fn3 C hH1 hF1 sx sy ee sx' sy' sq ff nz hx hy ht kz hn gn g3 q3 e3 f3 kE kG kH l; grind
    rw [l, kG]
    have o : 2 * (Z * Z) * ((g * f) * (g * f)) = 2 * (Z * Z) * ((h * h - e * e) * (f * f)) := by rw [m]
    rw [o]
    clear hE hH hG hF s h1 h3 gn1 fn1 hn1 gn3 fn3 C hH1 hF1 sx sy ee sx' sy' sq ff nz hx hy ht kz hn gn g3 q3 e3 f3 kE kG kH l m o; grind
  have gn2 := C.F.mul_ne gn gn
  have one : (1 : Fin n) * ((h * f) * (h * f)) = (h * f) * (h * f) := by clear hE hH hG hF s h1 h3 gn1 fn1 hn1 gn3 fn3 C hH1 hF1 sx sy ee sx' sy' sq ff nz hx hy ht kz hn gn g3 q3 e3 f3 kE kG kH kF gn2; grind
  have c1 := cross C.F gn2 hn kE kG g3 e3 (by clear hE hH hG hF s h1 h3 gn1 fn1 hn1 gn3 fn3 C hH1 hF1 sx sy ee sx' sy' sq ff nz hx hy ht kz hn gn g3 q3 e3 f3 kE kG kH kF gn2 one; grind)
  have c2 := cross C.F gn2 hn kH kF f3 q3 (by clear hE hH hG hF s h1 h3 gn1 fn1 hn1 gn3 fn3 C hH1 hF1 sx sy ee sx' sy' sq ff nz hx hy ht kz hn gn g3 q3 e3 f3 kE kG kH kF gn2 one c1; grind)
  have hn2 := C.F.mul_ne hn hn
  have nF : F ≠ 0 := s_ne kF (by rw [← f3]; exact C.F.mul_ne kz (C.F.mul_ne fn3 hn2))
  have nG : G ≠ 0 := s_ne kG (by rw [← g3]; exact C.F.mul_ne kz (C.F.mul_ne gn3 hn2))
  exact ⟨C.F.mul_ne nF nG, fin_x c1, fin_y c2, fin_t⟩
theorem dbl_nums {d x1 y1 x3 y3 : Fin n} (h1 : On d x1 y1) (s : Sum d x1 y1 x1 y1 x3 y3) : x3 * hT x1 y1 = eT x1 y1 ∧ y3 * fT x1 y1 = gT x1 y1 := by
  have hH1 : hT x1 y1 = 1 + d * x1 * x1 * y1 * y1 := by
    have := h_on h1
    show x1 * x1 + y1 * y1 = _
    rw [this]; clear this s h1; grind
  have hF1 : fT x1 y1 = 1 - d * x1 * x1 * y1 * y1 := by
    have := f_on h1
    show 2 - x1 * x1 - y1 * y1 = _
    rw [this]; clear this s h1 hH1; grind
  have ee : eT x1 y1 = x1 * y1 + y1 * x1 := by unfold eT; clear s h1 hH1 hF1; grind
  rw [hH1, hF1, ee]
  exact ⟨s.hx, s.hy⟩
/-- What comes back is four times the point. -/
theorem tw_pull {d : Fin n} (C : Cw n d) {x1 y1 x3 y3 x4 y4 X Y Z A B E H F G : Fin n} (h1 : On d x1 y1) (s : Sum d x1 y1 x1 y1 x3 y3) (s4 : Sum d x3 y3 x3 y3 x4 y4) (r : TRep x1 y1 X Y Z A B)
    (hE : E = 2 * (X * Y)) (hH : H = Y * Y - X * X) (hG : G = Y * Y + X * X) (hF : F = 2 * (Z * Z) - H) : F * G ≠ 0 ∧ E * F = x4 * (F * G) ∧ G * H = y4 * (F * G) := by
  have h3' := s.on C.toCv h1 h1
  have s4x := (dbl_nums h3' s4).1
  have s4y := (dbl_nums h3' s4).2
  have hn3 : hT x3 y3 ≠ 0 := h_ne C h3'
  have gn1 : gT x1 y1 ≠ 0 := g_ne C h1
  have fn1 : fT x1 y1 ≠ 0 := f_ne C h1
  have hn1 : hT x1 y1 ≠ 0 := h_ne C h1
  have h3 := s.on C.toCv h1 h1
  have gn3 : gT x3 y3 ≠ 0 := g_ne C h3
  have fn3 : fT x3 y3 ≠ 0 := f_ne C h3
  have hH1 : hT x1 y1 = 1 + d * x1 * x1 * y1 * y1 := by
    have := h_on h1
    show x1 * x1 + y1 * y1 = _
    rw [this]; clear this s4x s4y s4 hn3 h3' hE hH hG hF r s h1 h3 gn1 fn1 hn1 gn3 fn3 C; grind
  have hF1 : fT x1 y1 = 1 - d * x1 * x1 * y1 * y1 := by
    have := f_on h1
    show 2 - x1 * x1 - y1 * y1 = _
    rw [this]; clear this s4x s4y s4 hn3 h3' hE hH hG hF r s h1 h3 gn1 fn1 hn1 gn3 fn3 C hH1; grind
  have sx := s.hx
  have sy := s.hy
  rw [← hH1] at sx
  rw [← hF1] at sy
  have ee : eT x1 y1 = x1 * y1 + y1 * x1 := by unfold eT; clear s4x s4y s4 hn3 h3' hE hH hG hF r s h1 h3 gn1 fn1 hn1 gn3 fn3 C hH1 hF1 sx sy; grind
  have sx' : x3 * hT x1 y1 = eT x1 y1 := sx.trans ee.symm
  have sy' : y3 * fT x1 y1 = gT x1 y1 := sy
  have sq : gT x1 y1 * gT x1 y1 + eT x1 y1 * eT x1 y1 = hT x1 y1 * hT x1 y1 := by unfold gT eT hT; clear s4x s4y s4 hn3 h3' hE hH hG hF r s h1 h3 gn1 fn1 hn1 gn3 fn3 C hH1 hF1 sx sy ee sx' sy'; grind
  obtain ⟨nz, hx, hy, ht⟩ := r
  have ff : fT x3 y3 = 2 - hT x3 y3 := f_of _ _
  have kz : Z * Z ≠ 0 := C.F.mul_ne nz nz
  have hn : hT x1 y1 * fT x1 y1 ≠ 0 := C.F.mul_ne hn1 fn1
  have gn : gT x1 y1 * fT x1 y1 ≠ 0 := C.F.mul_ne gn1 fn1
  -- the doubled point's numbers
  have g3 : gT x3 y3 * ((hT x1 y1 * fT x1 y1) * (hT x1 y1 * fT x1 y1)) = (gT x1 y1 * hT x1 y1) * (gT x1 y1 * hT x1 y1) - (eT x1 y1 * fT x1 y1) * (eT x1 y1 * fT x1 y1) := by
    have l : gT x3 y3 * ((hT x1 y1 * fT x1 y1) * (hT x1 y1 * fT x1 y1)) = ((y3 * fT x1 y1) * hT x1 y1) * ((y3 * fT x1 y1) * hT x1 y1) - ((x3 * hT x1 y1) * fT x1 y1) * ((x3 * hT x1 y1) * fT x1 y1) := by
      rw [show gT x3 y3 = y3 * y3 - x3 * x3 from rfl]
      generalize hT x1 y1 = p
      generalize fT x1 y1 = q
      clear s4x s4y s4 hn3 h3' hE hH hG hF s h1 h3 gn1 fn1 hn1 gn3 fn3 C hH1 hF1 sx sy ee sx' sy' sq ff nz hx hy ht kz hn gn; grind
    rw [l, sx', sy']
  have q3 : hT x3 y3 * ((hT x1 y1 * fT x1 y1) * (hT x1 y1 * fT x1 y1)) = (gT x1 y1 * hT x1 y1) * (gT x1 y1 * hT x1 y1) + (eT x1 y1 * fT x1 y1) * (eT x1 y1 * fT x1 y1) := by
    have l : hT x3 y3 * ((hT x1 y1 * fT x1 y1) * (hT x1 y1 * fT x1 y1)) = ((y3 * fT x1 y1) * hT x1 y1) * ((y3 * fT x1 y1) * hT x1 y1) + ((x3 * hT x1 y1) * fT x1 y1) * ((x3 * hT x1 y1) * fT x1 y1) := by
      rw [show hT x3 y3 = x3 * x3 + y3 * y3 from rfl]
      generalize hT x1 y1 = p
      generalize fT x1 y1 = q
      clear s4x s4y s4 hn3 h3' hE hH hG hF s h1 h3 gn1 fn1 hn1 gn3 fn3 C hH1 hF1 sx sy ee sx' sy' sq ff nz hx hy ht kz hn gn g3; grind
    rw [l, sx', sy']
  have e3 : eT x3 y3 * ((hT x1 y1 * fT x1 y1) * (hT x1 y1 * fT x1 y1)) = 2 * ((eT x1 y1 * gT x1 y1) * (hT x1 y1 * fT x1 y1)) := by
    have l : eT x3 y3 * ((hT x1 y1 * fT x1 y1) * (hT x1 y1 * fT x1 y1)) = 2 * (((x3 * hT x1 y1) * (y3 * fT x1 y1)) * (hT x1 y1 * fT x1 y1)) := by
      rw [show eT x3 y3 = 2 * (x3 * y3) from rfl]
      generalize hT x1 y1 = p
      generalize fT x1 y1 = q
      clear s4x s4y s4 hn3 h3' hE hH hG hF s h1 h3 gn1 fn1 hn1 gn3 fn3 C hH1 hF1 sx sy ee sx' sy' sq ff nz hx hy ht kz hn gn g3 q3; grind
    rw [l, sx', sy']
  have f3 : fT x3 y3 * ((hT x1 y1 * fT x1 y1) * (hT x1 y1 * fT x1 y1)) = 2 * ((hT x1 y1 * fT x1 y1) * (hT x1 y1 * fT x1 y1)) - ((gT x1 y1 * hT x1 y1) * (gT x1 y1 * hT x1 y1) + (eT x1 y1 * fT x1 y1) * (eT x1 y1 * fT x1 y1)) := by
    rw [← q3, ff]
    generalize hT x3 y3 = w
    generalize hT x1 y1 * fT x1 y1 = v
    clear s4x s4y s4 hn3 h3' hE hH hG hF s h1 h3 gn1 fn1 hn1 gn3 fn3 C hH1 hF1 sx sy ee sx' sy' sq ff nz hx hy ht kz hn gn g3 q3 e3; grind
  generalize hT x3 y3 = h3v at *
  generalize fT x3 y3 = f3v at *
  generalize gT x3 y3 = g3v at *
  generalize eT x3 y3 = e3v at *
  generalize hT x1 y1 = h at *
  generalize fT x1 y1 = f at *
  generalize gT x1 y1 = g at *
  generalize eT x1 y1 = e at *
  have kE : E * ((g * f) * (g * f)) = (Z * Z) * (2 * ((e * g) * (h * f))) := by
    have l : E * ((g * f) * (g * f)) = 2 * ((X * g) * (Y * f)) * (g * f) := by rw [hE]; clear s4x s4y s4 hn3 h3' hE hH hG hF s h1 h3 gn1 fn1 hn1 gn3 fn3 C hH1 hF1 sx sy ee sx' sy' sq ff nz hx hy ht kz hn gn g3 q3 e3 f3; grind
    rw [l, hx, hy]; clear s4x s4y s4 hn3 h3' hE hH hG hF s h1 h3 gn1 fn1 hn1 gn3 fn3 C hH1 hF1 sx sy ee sx' sy' sq ff nz hx hy ht kz hn gn g3 q3 e3 f3 l; grind
  have kH : H * ((g * f) * (g * f)) = (Z * Z) * ((g * h) * (g * h) - (e * f) * (e * f)) := by
    have l : H * ((g * f) * (g * f)) = ((Y * f) * g) * ((Y * f) * g) - ((X * g) * f) * ((X * g) * f) := by rw [hH]; clear s4x s4y s4 hn3 h3' hE hH hG hF s h1 h3 gn1 fn1 hn1 gn3 fn3 C hH1 hF1 sx sy ee sx' sy' sq ff nz hx hy ht kz hn gn g3 q3 e3 f3 kE; grind
    rw [l, hx, hy]; clear s4x s4y s4 hn3 h3' hE hH hG hF s h1 h3 gn1 fn1 hn1 gn3 fn3 C hH1 hF1 sx sy ee sx' sy' sq ff nz hx hy ht kz hn gn g3 q3 e3 f3 l kE; grind
  have kG : G * ((g * f) * (g * f)) = (Z * Z) * ((g * h) * (g * h) + (e * f) * (e * f)) := by
    have l : G * ((g * f) * (g * f)) = ((Y * f) * g) * ((Y * f) * g) + ((X * g) * f) * ((X * g) * f) := by rw [hG]; clear s4x s4y s4 hn3 h3' hE hH hG hF s h1 h3 gn1 fn1 hn1 gn3 fn3 C hH1 hF1 sx sy ee sx' sy' sq ff nz hx hy ht kz hn gn g3 q3 e3 f3 kE kH; grind
    rw [l, hx, hy]; clear s4x s4y s4 hn3 h3' hE hH hG hF s h1 h3 gn1 fn1 hn1 gn3 fn3 C hH1 hF1 sx sy ee sx' sy' sq ff nz hx hy ht kz hn gn g3 q3 e3 f3 l kE kH; grind
  have kF : F * ((g * f) * (g * f)) = (Z * Z) * (2 * ((h * f) * (h * f)) - ((g * h) * (g * h) + (e * f) * (e * f))) := by
    have l : F * ((g * f) * (g * f)) = 2 * (Z * Z) * ((g * f) * (g * f)) - H * ((g * f) * (g * f)) := by rw [hF]; clear s4x s4y s4 hn3 h3' hE hH hG hF s h1 h3 gn1 fn1 hn1 gn3 fn3 C hH1 hF1 sx sy ee sx' sy' sq ff nz hx hy ht kz hn gn g3 q3 e3 f3 kE kG kH; grind
    have m : (g * f) * (g * f) = (h * h - e * e) * (f * f) := by rw [← sq]; clear s4x s4y s4 hn3 h3' hE hH hG hF s h1 h3 gn1 fn1 hn1 gn3 fn3 C hH1 hF1 sx sy ee sx' sy' sq ff nz hx hy ht kz hn gn g3 q3 e3 f3 kE kG kH l; grind
    rw [l, kH]
    have o : 2 * (Z * Z) * ((g * f) * (g * f)) = 2 * (Z * Z) * ((h * h - e * e) * (f * f)) := by rw [m]
    rw [o]
    clear s4x s4y s4 hn3 h3' hE hH hG hF s h1 h3 gn1 fn1 hn1 gn3 fn3 C hH1 hF1 sx sy ee sx' sy' sq ff nz hx hy ht kz hn gn g3 q3 e3 f3 kE kG kH l m o; grind
  rw [← e3] at kE
  rw [← g3] at kH
  rw [← q3] at kG
  rw [← f3] at kF
  have gn2 := C.F.mul_ne gn gn
  have hn2 := C.F.mul_ne hn hn
  have nF : F ≠ 0 := s_ne kF (C.F.mul_ne kz (C.F.mul_ne fn3 hn2))
  have nG : G ≠ 0 := s_ne kG (C.F.mul_ne kz (C.F.mul_ne hn3 hn2))
  have c1 : E = x4 * G := by
    apply C.F.cancel gn2
    have l : (g * f) * (g * f) * E = E * ((g * f) * (g * f)) := by clear s4x s4y s4 hn3 h3' hE hH hG hF s h1 h3 gn1 fn1 hn1 gn3 fn3 C hH1 hF1 sx sy ee sx' sy' sq ff nz hx hy ht kz hn gn g3 q3 e3 f3 kE kG kH kF gn2 hn2 nF nG; grind
    have m : (g * f) * (g * f) * (x4 * G) = x4 * (G * ((g * f) * (g * f))) := by clear s4x s4y s4 hn3 h3' hE hH hG hF s h1 h3 gn1 fn1 hn1 gn3 fn3 C hH1 hF1 sx sy ee sx' sy' sq ff nz hx hy ht kz hn gn g3 q3 e3 f3 kE kG kH kF gn2 hn2 nF nG l; grind
    rw [l, m, kE, kG, ← s4x]
    clear s4x s4y s4 hn3 h3' hE hH hG hF s h1 h3 gn1 fn1 hn1 gn3 fn3 C hH1 hF1 sx sy ee sx' sy' sq ff nz hx hy ht kz hn gn g3 q3 e3 f3 kE kG kH kF gn2 hn2 nF nG l m; grind
  have c2 : H = y4 * F := by
    apply C.F.cancel gn2
    have l : (g * f) * (g * f) * H = H * ((g * f) * (g * f)) := by clear s4x s4y s4 hn3 h3' hE hH hG hF s h1 h3 gn1 fn1 hn1 gn3 fn3 C hH1 hF1 sx sy ee sx' sy' sq ff nz hx hy ht kz hn gn g3 q3 e3 f3 kE kG kH kF gn2 hn2 nF nG c1; grind
    have m : (g * f) * (g * f) * (y4 * F) = y4 * (F * ((g * f) * (g * f))) := by clear s4x s4y s4 hn3 h3' hE hH hG hF s h1 h3 gn1 fn1 hn1 gn3 fn3 C hH1 hF1 sx sy ee sx' sy' sq ff nz hx hy ht kz hn gn g3 q3 e3 f3 kE kG kH kF gn2 hn2 nF nG l c1; grind
    rw [l, m, kH, kF, ← s4y]
    clear s4x s4y s4 hn3 h3' hE hH hG hF s h1 h3 gn1 fn1 hn1 gn3 fn3 C hH1 hF1 sx sy ee sx' sy' sq ff nz hx hy ht kz hn gn g3 q3 e3 f3 kE kG kH kF gn2 hn2 nF nG l m c1; grind
  refine ⟨C.F.mul_ne nF nG, ?_, ?_⟩
  · rw [c1]; clear s4x s4y s4 hn3 h3' hE hH hG hF s h1 h3 gn1 fn1 hn1 gn3 fn3 C hH1 hF1 sx sy ee sx' sy' sq ff nz hx hy ht kz hn gn g3 q3 e3 f3 kE kG kH kF gn2 hn2 nF nG c1 c2; grind
  · rw [c2]; clear s4x s4y s4 hn3 h3' hE hH hG hF s h1 h3 gn1 fn1 hn1 gn3 fn3 C hH1 hF1 sx sy ee sx' sy' sq ff nz hx hy ht kz hn gn g3 q3 e3 f3 kE kG kH kF gn2 hn2 nF nG c1 c2; grind
/-- A point is sent. -/
theorem tw_push {d : Fin n} (C : Cw n d) {x y X Y Z E H F G : Fin n} (h : On d x y) (nz : Z ≠ 0) (hx : X = x * Z) (hy : Y = y * Z)
    (hE : E = 2 * (X * Y)) (hH : H = Y * Y + X * X) (hG : G = Y * Y - X * X) (hF : F = 2 * (Z * Z) - H) : TRep x y (E * F) (G * H) (F * G) E H := by
  have gn1 : gT x y ≠ 0 := g_ne C h
  have fn1 : fT x y ≠ 0 := f_ne C h
  have kz := C.F.mul_ne nz nz
  subst hx hy
  have kE : E = eT x y * (Z * Z) := by rw [hE]; unfold eT; clear hE hH hG hF h gn1 fn1 kz nz C; grind
  have kH : H = hT x y * (Z * Z) := by rw [hH]; unfold hT; clear hE hH hG hF h gn1 fn1 kz nz C kE; grind
  have kG : G = gT x y * (Z * Z) := by rw [hG]; unfold gT; clear hE hH hG hF h gn1 fn1 kz nz C kE kH; grind
  have kF : F = fT x y * (Z * Z) := by rw [hF, kH]; unfold fT hT; clear hE hH hG hF h gn1 fn1 kz nz C kE kH kG; grind
  have nF : F ≠ 0 := by rw [kF]; exact C.F.mul_ne fn1 kz
  have nG : G ≠ 0 := by rw [kG]; exact C.F.mul_ne gn1 kz
  have c1 : E * gT x y = eT x y * G := by rw [kE, kG]; generalize gT x y = a; generalize eT x y = b; clear hE hH hG hF h gn1 fn1 kz nz C kE kH kG kF nF nG; grind
  have c2 : H * fT x y = hT x y * F := by rw [kH, kF]; generalize fT x y = a; generalize hT x y = b; clear hE hH hG hF h gn1 fn1 kz nz C kE kH kG kF nF nG c1; grind
  exact ⟨C.F.mul_ne nF nG, fin_x c1, fin_y c2, fin_t⟩
/-- The opposite. -/
theorem TRep.neg {x y X Y Z A B : Fin n} (r : TRep x y X Y Z A B) : TRep (-x) y (-X) Y Z (-A) B := by
  obtain ⟨nz, hx, hy, ht⟩ := r
  have eg : gT (-x) y = gT x y := by unfold gT; clear nz hx hy ht; grind
  have ef : fT (-x) y = fT x y := by unfold fT; clear nz hx hy ht eg; grind
  have eh : hT (-x) y = hT x y := by unfold hT; clear nz hx hy ht eg ef; grind
  have ee : eT (-x) y = -eT x y := by unfold eT; clear nz hx hy ht eg ef eh; grind
  refine ⟨nz, ?_, ?_, ?_⟩
  · rw [eg, ee]
    generalize gT x y = a at *
    generalize eT x y = b at *
    clear nz hy ht eg ef eh ee; grind
  · rw [ef, eh]; exact hy
  · clear nz hx hy eg ef eh ee; grind
/-- The point that adds nothing. -/
theorem tw_zero (K : IsF n) : TRep (0 : Fin n) 1 0 1 1 0 0 := by
  refine ⟨K.one, ?_, ?_, ?_⟩
  · unfold gT eT; clear K; grind
  · unfold fT hT; clear K; grind
  · clear K; grind
/-- A point is ready to be added. -/
structure PRep (d x y a s t z : Fin n) : Prop where
  ex : ∃ X Y Z A B, TRep x y X Y Z A B ∧ a = Y + X ∧ s = Y - X ∧ t = 2 * (d - 1) * (A * B) ∧ z = 2 * Z
theorem PRep.neg {d x y a s t z : Fin n} (p : PRep d x y a s t z) : PRep d (-x) y s a (-t) z := by
  obtain ⟨X, Y, Z, A, B, r, ha, hs, ht, hz⟩ := p.ex
  refine ⟨_, _, _, _, _, r.neg, ?_, ?_, ?_, hz⟩
  · rw [hs]; clear r ha hs ht hz p; grind
  · rw [ha]; clear r ha hs ht hz p; grind
  · rw [ht]; clear r ha hs ht hz p; grind
theorem tw_mix {d : Fin n} (C : Cw n d) {x1 y1 x2 y2 x3 y3 X1 Y1 Z1 A1 B1 a s t z E H F G : Fin n} (h1 : On d x1 y1) (h2 : On d x2 y2) (sm : Sum d x1 y1 x2 y2 x3 y3) (r1 : TRep x1 y1 X1 Y1 Z1 A1 B1) (p : PRep d x2 y2 a s t z)
    (hE : E = (Y1 + X1) * a - (Y1 - X1) * s) (hH : H = (Y1 + X1) * a + (Y1 - X1) * s) (hF : F = Z1 * z - A1 * B1 * t) (hG : G = Z1 * z + A1 * B1 * t) : TRep x3 y3 (E * F) (G * H) (F * G) E H := by
  obtain ⟨X, Y, Z, A, B, r, ha, hs, ht, hz⟩ := p.ex
  subst ha hs ht hz
  exact tw_add C h1 h2 sm r1 r hE hH hF hG
end
end Go.Proofs.YtjlhhcdefcofkaaGreatDoor
