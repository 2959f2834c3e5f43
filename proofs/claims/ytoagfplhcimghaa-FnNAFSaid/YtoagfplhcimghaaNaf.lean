/- Plain: the digits of the non-adjacent form, what they stand for; eight words of 64 bits. -/
import Derived.Test.YtoagfplhcimghaaNafP
namespace Go.Proofs.Ytoagfplhcimghaa
open Go
set_option maxRecDepth 100000
/-! ### Signed digits -/
def pw2 (n : Nat) : Nat := 2 ^ n
/-- What signed digits stand for, the lowest first. -/
def sval : List Int → Int
  | [] => 0
  | d :: l => d + 2 * sval l
theorem sval_append (l : List Int) (d : Int) : sval (l ++ [d]) = sval l + 2 ^ l.length * d := by
  induction l with
  | nil => simp [sval]
  | cons a l ih =>
    rw [List.cons_append, sval, ih, sval, List.length_cons, Int.pow_succ]
    generalize (2 : Int) ^ l.length = t
    grind
/-- The digit of a round, and the number behind it. -/
def nd (w k : Nat) : Int := if k % 2 = 1 then (if 2 ^ (w - 1) ≤ k % 2 ^ w then ((k % 2 ^ w : Nat) : Int) - ((2 ^ w : Nat) : Int) else ((k % 2 ^ w : Nat) : Int)) else 0
def nk1 (w k : Nat) : Nat := if k % 2 = 1 then (if 2 ^ (w - 1) ≤ k % 2 ^ w then k + (2 ^ w - k % 2 ^ w) else k - k % 2 ^ w) else k
theorem pw_two {w : Nat} (h : 2 ≤ w) : 2 ^ w = 2 * 2 ^ (w - 1) ∧ 2 ^ (w - 1) = 2 * 2 ^ (w - 2) ∧ 0 < 2 ^ (w - 2) := by
  obtain ⟨v, rfl⟩ : ∃ v, w = v + 2 := ⟨w - 2, by omega⟩
  refine ⟨?_, ?_, Nat.pow_pos (by decide)⟩
  · rw [Nat.pow_succ, Nat.mul_comm]; rfl
  · show 2 ^ (v + 1) = _
    rw [Nat.pow_succ, Nat.mul_comm]; rfl
theorem odd_mod {w k : Nat} (h : 2 ≤ w) (hk : k % 2 = 1) : k % 2 ^ w % 2 = 1 := by
  rw [(pw_two h).1, Nat.mod_mul_right_mod, hk]
theorem nd_nk (w k : Nat) : nd w k + (nk1 w k : Int) = k := by
  unfold nd nk1
  have h2 := Nat.mod_le k (2 ^ w)
  have h1 := Nat.mod_lt k (Nat.pow_pos (n := w) (show 0 < 2 by decide))
  generalize k % 2 ^ w = r at *
  generalize 2 ^ w = t at *
  split
  · split <;> omega
  · omega
theorem nk1_odd {w k : Nat} (hk : k % 2 = 1) : 2 ^ w ∣ nk1 w k := by
  unfold nk1
  rw [if_pos hk]
  have h1 := Nat.mod_lt k (Nat.pow_pos (n := w) (show 0 < 2 by decide))
  have h3 := Nat.mod_add_div k (2 ^ w)
  split
  · refine ⟨k / 2 ^ w + 1, ?_⟩
    rw [Nat.mul_add]; omega
  · exact ⟨k / 2 ^ w, by omega⟩
theorem nk1_even (w k : Nat) (hw : 2 ≤ w) : nk1 w k % 2 = 0 := by
  by_cases hk : k % 2 = 1
  · obtain ⟨c, hc⟩ := nk1_odd (w := w) hk
    rw [hc, (pw_two hw).1, Nat.mul_assoc, Nat.mul_mod_right]
  · unfold nk1; rw [if_neg hk]; omega
theorem nk1_le {w k : Nat} (hw : 2 ≤ w) : nk1 w k ≤ k + 2 ^ (w - 1) := by
  have h := pw_two hw
  unfold nk1
  split
  · split <;> omega
  · omega
theorem nk_lt {w k : Nat} (hw : 2 ≤ w) (hk : 0 < k) : nk1 w k / 2 < k := by
  by_cases ho : k % 2 = 1
  · unfold nk1
    have h := pw_two hw
    have h0 := odd_mod hw ho
    have h3 := Nat.mod_le k (2 ^ w)
    rw [if_pos ho]
    generalize k % 2 ^ w = r at *
    split
    · omega
    · omega
  · unfold nk1; rw [if_neg ho]; omega
theorem nd_zero {w k : Nat} (hk : k % 2 = 0) : nd w k = 0 := by unfold nd; rw [if_neg (by omega)]
theorem nd_good {w k : Nat} (hw : 2 ≤ w) (hk : k % 2 = 1) : nd w k % 2 = 1 ∧ -((2 ^ (w - 1) : Nat) : Int) < nd w k ∧ nd w k < ((2 ^ (w - 1) : Nat) : Int) := by
  have h := pw_two hw
  have h0 := odd_mod hw hk
  have h1 := Nat.mod_lt k (Nat.pow_pos (n := w) (show 0 < 2 by decide))
  unfold nd
  rw [if_pos hk]
  generalize k % 2 ^ w = r at *
  split <;> omega
/-- What holds of the digits that are there, and of the number that is left. -/
structure NafI (L w k0 : Nat) (ds : List Int) (k : Nat) : Prop where
  val : sval ds + 2 ^ ds.length * (k : Int) = k0
  dig : ∀ d ∈ ds, d = 0 ∨ (d % 2 = 1 ∧ -((2 ^ (w - 1) : Nat) : Int) < d ∧ d < ((2 ^ (w - 1) : Nat) : Int))
  gap : ∀ (i j : Nat) x y, i < j → ds[i]? = some x → ds[j]? = some y → x ≠ 0 → y ≠ 0 → w ≤ j - i
  dvd : ∀ (i : Nat) x, ds[i]? = some x → x ≠ 0 → 2 ^ (i + w - ds.length) ∣ k
  lo : ds.length ≤ L → k * 2 ^ ds.length ≤ k0 + 2 ^ (w - 1) * 2 ^ ds.length
  hi : L < ds.length → k + (ds.length - L) ≤ 2 ^ (w - 1) + 1
theorem NafI.start (L w k0 : Nat) : NafI L w k0 [] k0 := by
  refine ⟨by simp [sval], by simp, by simp, by simp, fun _ => by simp, fun h => by simp at h⟩
theorem NafI.step {L w k0 k : Nat} {ds : List Int} (hw : 2 ≤ w) (hk0' : k0 < pw2 L) (h : NafI L w k0 ds k) (hk : 0 < k) : NafI L w k0 (ds ++ [nd w k]) (nk1 w k / 2) := by
  have hk0 : k0 < 2 ^ L := hk0'
  have hev := nk1_even w k hw
  have hlen : (ds ++ [nd w k]).length = ds.length + 1 := by simp
  have key : ∀ i x, ds[i]? = some x → x ≠ 0 → k % 2 = 1 → i + w - ds.length = 0 := by
    intro i x hx hx0 ho
    have := h.dvd i x hx hx0
    cases he : i + w - ds.length with
    | zero => rfl
    | succ e =>
      rw [he] at this
      have h2 : 2 ∣ k := Nat.dvd_trans ⟨2 ^ e, by rw [Nat.pow_succ, Nat.mul_comm]⟩ this
      omega
  have get : ∀ (i : Nat) (x : Int), (ds ++ [nd w k])[i]? = some x → (ds[i]? = some x ∧ i < ds.length) ∨ (i = ds.length ∧ x = nd w k) := by
    intro i x hx
    by_cases hi : i < ds.length
    · rw [List.getElem?_append_left hi] at hx; exact .inl ⟨hx, hi⟩
    · rw [List.getElem?_append_right (by omega)] at hx
      have h1 := (List.getElem?_eq_some_iff.1 hx).1
      simp at h1
      have : i - ds.length = 0 := by omega
      rw [this] at hx
      simp at hx
      exact .inr ⟨by omega, hx.symm⟩
  refine ⟨?_, ?_, ?_, ?_, ?_, ?_⟩
  · rw [sval_append, hlen, Int.pow_succ]
    have e : ((nk1 w k / 2 : Nat) : Int) * 2 = (nk1 w k : Int) := by omega
    have e2 := nd_nk w k
    have e3 := h.val
    generalize (2 : Int) ^ ds.length = t at *
    generalize ((nk1 w k / 2 : Nat) : Int) = a at *
    generalize (nk1 w k : Int) = b at *
    generalize nd w k = d at *
    generalize sval ds = s at *
    generalize (k : Int) = kk at *
    grind
  · intro d hd
    rcases List.mem_append.1 hd with hd | hd
    · exact h.dig d hd
    · rw [List.mem_singleton] at hd
      subst hd
      by_cases ho : k % 2 = 1
      · exact .inr (nd_good hw ho)
      · exact .inl (nd_zero (by omega))
  · intro i j x y hij hx hy hx0 hy0
    rcases get j y hy with ⟨hy', hj⟩ | ⟨hj, hy'⟩
    · rcases get i x hx with ⟨hx', hi⟩ | ⟨hi, _⟩
      · exact h.gap i j x y hij hx' hy' hx0 hy0
      · omega
    · rcases get i x hx with ⟨hx', hi⟩ | ⟨hi, _⟩
      · have ho : k % 2 = 1 := by
          by_cases ho : k % 2 = 1
          · exact ho
          · rw [nd_zero (by omega)] at hy'; exact absurd hy' hy0
        have := key i x hx' hx0 ho
        omega
      · omega
  · intro i x hx hx0
    rw [hlen]
    rcases get i x hx with ⟨hx', hi⟩ | ⟨hi, hx'⟩
    · by_cases ho : k % 2 = 1
      · have := key i x hx' hx0 ho
        rw [show i + w - (ds.length + 1) = 0 by omega]
        exact Nat.one_dvd _
      · have hd := h.dvd i x hx' hx0
        have e : nk1 w k = k := by unfold nk1; rw [if_neg ho]
        rw [e]
        cases he : i + w - ds.length with
        | zero => rw [show i + w - (ds.length + 1) = 0 by omega]; exact Nat.one_dvd _
        | succ e' =>
          rw [show i + w - (ds.length + 1) = e' by omega]
          rw [he] at hd
          obtain ⟨c, hc⟩ := hd
          refine ⟨c, ?_⟩
          rw [hc, Nat.pow_succ, Nat.mul_right_comm, Nat.mul_div_cancel _ (by decide)]
    · by_cases ho : k % 2 = 1
      · obtain ⟨c, hc⟩ := nk1_odd (w := w) ho
        rw [show i + w - (ds.length + 1) = w - 1 by omega]
        refine ⟨c, ?_⟩
        rw [hc, (pw_two hw).1, Nat.mul_assoc, Nat.mul_div_cancel_left _ (by decide)]
      · rw [nd_zero (by omega)] at hx'; exact absurd hx' hx0
  · intro hl
    rw [hlen] at hl ⊢
    have h1 := h.lo (by omega)
    have h2 := nk1_le (k := k) hw
    have h3 : nk1 w k / 2 * 2 ^ (ds.length + 1) = nk1 w k * 2 ^ ds.length := by
      rw [Nat.pow_succ, Nat.mul_comm (2 ^ ds.length), ← Nat.mul_assoc]
      congr 1
      omega
    have h4 := Nat.mul_le_mul_right (2 ^ ds.length) h2
    rw [h3, Nat.pow_succ]
    rw [Nat.add_mul] at h4
    generalize 2 ^ ds.length = t at *
    have h5 : 2 ^ (w - 1) * (t * 2) = 2 ^ (w - 1) * t + 2 ^ (w - 1) * t := by rw [← Nat.mul_assoc, Nat.mul_two]
    omega
  · intro hl
    rw [hlen] at hl ⊢
    by_cases hl2 : ds.length = L
    · have h1 := h.lo (by omega)
      rw [hl2] at h1
      have h2 : k ≤ 2 ^ (w - 1) := by
        have : k * 2 ^ L < (2 ^ (w - 1) + 1) * 2 ^ L := by rw [Nat.add_mul, Nat.one_mul]; omega
        have := Nat.lt_of_mul_lt_mul_right this
        omega
      have := nk_lt hw hk
      omega
    · have h1 := h.hi (by omega)
      have := nk_lt hw hk
      omega
theorem NafI.len {L w k0 k : Nat} {ds : List Int} (hw16 : w ≤ 16) (h : NafI L w k0 ds k) : ds.length ≤ L + 32770 := by
  by_cases hl : L < ds.length
  · have := h.hi hl
    have h2 : 2 ^ (w - 1) ≤ 2 ^ 15 := Nat.pow_le_pow_right (by decide) (by omega)
    omega
  · omega
theorem NafI.small {L w k0 k : Nat} {ds : List Int} (hw : 2 ≤ w) (hw16 : w ≤ 16) (hk0' : k0 < pw2 L) (h : NafI L w k0 ds k) : k ≤ pw2 L + 2 ^ 15 := by
  have hk0 : k0 < 2 ^ L := hk0'
  show k ≤ 2 ^ L + 2 ^ 15
  have h2 : 2 ^ (w - 1) ≤ 2 ^ 15 := Nat.pow_le_pow_right (by decide) (by omega)
  by_cases hl : L < ds.length
  · have := h.hi hl; omega
  · have h1 := h.lo (by omega)
    have ht : 0 < 2 ^ ds.length := Nat.pow_pos (by decide)
    have : k ≤ k0 + 2 ^ (w - 1) := by
      apply Nat.le_of_mul_le_mul_right (c := 2 ^ ds.length) _ ht
      rw [Nat.add_mul]
      have := Nat.le_mul_of_pos_right k0 ht
      omega
    omega

/-- The number that a sum of digits is, modulo the order. -/
def smod (l : List Int) : Nat := (sval l % (qq : Int)).toNat
theorem qq_pos : (0 : Int) < (qq : Int) := by decide
theorem smod_cast (l : List Int) : (smod l : Int) = sval l % (qq : Int) := by
  unfold smod
  exact Int.toNat_of_nonneg (Int.emod_nonneg _ (Int.ne_of_gt qq_pos))
theorem smod_lt (l : List Int) : smod l < qq := by
  have h := smod_cast l
  have := Int.emod_lt_of_pos (sval l) qq_pos
  omega
theorem smod_nil : smod [] = 0 := by decide
theorem twice_mod (n s q : Int) : (n + 2 * (s % q)) % q = (n + 2 * s) % q := by
  rw [Int.emod_def s q, show n + 2 * (s - q * (s / q)) = (n + 2 * s) + q * (-(2 * (s / q))) by rw [Int.mul_sub, Int.mul_left_comm, Int.mul_neg]; omega, Int.add_mul_emod_self_left]
theorem smod_dbl (l : List Int) (n : Nat) : ((((smod l + smod l) % qq + n) % qq : Nat) : Int) = ((n : Int) + 2 * sval l) % (qq : Int) := by
  simp only [Int.natCast_emod, Int.natCast_add, smod_cast]
  generalize (qq : Int) = q
  rw [Int.emod_add_emod, ← Int.two_mul, Int.add_comm, twice_mod]
theorem smod_pos {d : Int} {n : Nat} (l : List Int) (h : d = (n : Int)) : ((smod l + smod l) % qq + n) % qq = smod (d :: l) := by
  apply Int.ofNat.inj
  show ((((smod l + smod l) % qq + n) % qq : Nat) : Int) = (smod (d :: l) : Int)
  rw [smod_cast, sval, h, smod_dbl]
theorem smod_neg {d : Int} {n : Nat} (l : List Int) (h : d = -(n : Int)) : ((smod l + smod l) % qq + ssub qq (n % qq)) % qq = smod (d :: l) := by
  apply Int.ofNat.inj
  show ((((smod l + smod l) % qq + ssub qq (n % qq)) % qq : Nat) : Int) = (smod (d :: l) : Int)
  have e : ((ssub qq (n % qq) : Nat) : Int) = (-(n : Int)) % (qq : Int) := by
    have h1 := Nat.mod_lt n (show 0 < qq by decide)
    rw [ssub, Int.natCast_emod, Int.natCast_sub (by omega), Int.natCast_add, Int.natCast_emod]
    generalize (qq : Int) = q
    rw [Int.emod_def (n : Int) q, show q + q - ((n : Int) - q * ((n : Int) / q)) = -(n : Int) + q * (2 + (n : Int) / q) by rw [Int.mul_add]; omega, Int.add_mul_emod_self_left]
  rw [smod_cast, sval, h, smod_dbl, e, Int.emod_add_emod]
theorem smod_end {l : List Int} {k : Nat} (h : sval l = (k : Int)) (hk : k < qq) : smod l = k := by
  have := smod_cast l
  rw [h, Int.emod_eq_of_lt (by omega) (by omega)] at this
  omega

/-! ### Eight words of 64 bits -/
abbrev BB : Nat := 18446744073709551616
theorem digs_put {n j A c : Nat} (hj : j < n) (h : A / BB ^ j + c < BB) : (digs BB n A).set j (A / BB ^ j % BB + c) = digs BB n (A + BB ^ j * c) := by
  have hp : ∀ i, 0 < BB ^ i := fun i => Nat.pow_pos (by decide)
  apply List.ext_getElem?
  intro i
  by_cases hi : i < n
  · rw [digs_get n _ i hi]
    by_cases e : j = i
    · subst e
      rw [List.getElem?_set_self (by rw [digs_length]; exact hj), Nat.add_mul_div_left _ _ (hp j), Nat.mod_eq_of_lt h, Nat.mod_eq_of_lt (Nat.lt_of_le_of_lt (Nat.le_add_right _ _) h)]
    · rw [List.getElem?_set_ne e, digs_get n _ i hi]
      congr 1
      rcases Nat.lt_or_gt_of_ne e with hlt | hlt
      · have h1 : ∀ x, x / BB ^ j < BB → x / BB ^ i = 0 := by
          intro x hx
          obtain ⟨d, rfl⟩ : ∃ d, i = j + 1 + d := ⟨i - j - 1, by omega⟩
          rw [Nat.pow_add, Nat.pow_succ, ← Nat.div_div_eq_div_mul, ← Nat.div_div_eq_div_mul, Nat.div_eq_of_lt hx, Nat.zero_div]
        rw [h1 A (Nat.lt_of_le_of_lt (Nat.le_add_right _ _) h), h1 (A + BB ^ j * c) (by rw [Nat.add_mul_div_left _ _ (hp j)]; exact h)]
      · obtain ⟨d, rfl⟩ : ∃ d, j = i + (d + 1) := ⟨j - i - 1, by omega⟩
        rw [Nat.pow_add, Nat.mul_assoc, Nat.add_mul_div_left _ _ (hp i), Nat.pow_succ, Nat.mul_right_comm, Nat.add_mul_mod_self_right]
  · rw [List.getElem?_eq_none (by rw [List.length_set, digs_length]; omega), List.getElem?_eq_none (by rw [digs_length]; omega)]
/-- The x lowest bytes, and one more. -/
theorem byte_put {K x : Nat} (hx : x < 56) : (digs BB 8 (K % 256 ^ x)).set (x / 8) ((K % 256 ^ x / BB ^ (x / 8) % BB) ||| (K / 256 ^ x % 256 * 2 ^ (8 * (x % 8)) % BB)) = digs BB 8 (K % 256 ^ (x + 1)) := by
  have hr : x % 8 < 8 := Nat.mod_lt _ (by decide)
  have hB : BB ^ (x / 8) * 256 ^ (x % 8) = 256 ^ x := by
    rw [show BB = 256 ^ 8 by decide, ← Nat.pow_mul, ← Nat.pow_add, Nat.div_add_mod]
  have h256 : 256 ^ (x % 8) = 2 ^ (8 * (x % 8)) := by rw [show 256 = 2 ^ 8 by decide, ← Nat.pow_mul]
  have hA : K % 256 ^ x / BB ^ (x / 8) < 2 ^ (8 * (x % 8)) := by
    rw [Nat.div_lt_iff_lt_mul (Nat.pow_pos (by decide)), ← h256, Nat.mul_comm, hB]
    exact Nat.mod_lt _ (Nat.pow_pos (by decide))
  have hb : K / 256 ^ x % 256 < 256 := Nat.mod_lt _ (by decide)
  have hle : 2 ^ (8 * (x % 8)) ≤ 2 ^ 56 := Nat.pow_le_pow_right (by decide) (by omega)
  have hlB : 2 ^ (8 * (x % 8)) < BB := Nat.lt_of_le_of_lt hle (by decide)
  have hs : K % 256 ^ x / BB ^ (x / 8) + 2 ^ (8 * (x % 8)) * (K / 256 ^ x % 256) < BB := by
    have h1 : 2 ^ (8 * (x % 8)) * (K / 256 ^ x % 256) ≤ 2 ^ (8 * (x % 8)) * 255 := Nat.mul_le_mul_left _ (by omega)
    have : BB = 2 ^ 56 * 256 := by decide
    omega
  rw [Nat.mod_eq_of_lt (Nat.lt_trans hA hlB), Nat.mul_comm, Nat.mod_eq_of_lt (Nat.lt_of_le_of_lt (Nat.le_add_left _ _) hs), Nat.or_comm, ← Nat.two_pow_add_eq_or_of_lt hA, Nat.add_comm]
  have := digs_put (n := 8) (j := x / 8) (A := K % 256 ^ x) (c := 2 ^ (8 * (x % 8)) * (K / 256 ^ x % 256)) (by omega) hs
  rw [Nat.mod_eq_of_lt (Nat.lt_trans hA hlB)] at this
  rw [this, ← h256, ← Nat.mul_assoc, hB]
  congr 1
  rw [Nat.pow_succ, Nat.mod_mul]
/-- What is carried into word k when v is added. -/
def vcar (K v k : Nat) : Nat := (K % BB ^ k + v) / BB ^ k
theorem vcar_zero (K v : Nat) : vcar K v 0 = v := by rw [vcar, Nat.pow_zero, Nat.mod_one, Nat.div_one, Nat.zero_add]
theorem vcar_lt {K v k : Nat} (hv : v < BB) : vcar K v k < BB := by
  have hp : 0 < BB ^ k := Nat.pow_pos (by decide)
  rw [vcar, Nat.div_lt_iff_lt_mul hp]
  cases k with
  | zero => rw [Nat.pow_zero, Nat.mod_one]; omega
  | succ k =>
    have h1 := Nat.mod_lt K hp
    have h2 : BB ≤ BB ^ (k + 1) := by rw [Nat.pow_succ]; exact Nat.le_mul_of_pos_left _ (Nat.pow_pos (by decide))
    have h3 : BB = 2 + 18446744073709551614 := rfl
    rw [show BB * BB ^ (k + 1) = 2 * BB ^ (k + 1) + 18446744073709551614 * BB ^ (k + 1) by rw [← Nat.add_mul]]
    omega
theorem vcar_next (K v k : Nat) : vcar K v (k + 1) = (K / BB ^ k % BB + vcar K v k) / BB := by
  have hp : 0 < BB ^ k := Nat.pow_pos (by decide)
  rw [vcar, vcar, Nat.pow_succ, Nat.mod_mul, ← Nat.div_div_eq_div_mul, Nat.add_right_comm, Nat.add_mul_div_left _ _ hp, Nat.add_comm]
theorem vcar_dig (K v k : Nat) : (K + v) / BB ^ k % BB = (K / BB ^ k % BB + vcar K v k) % BB := by
  have hp : 0 < BB ^ k := Nat.pow_pos (by decide)
  have e : (K + v) / BB ^ k = K / BB ^ k + vcar K v k := by
    have h := Nat.mod_add_div K (BB ^ k)
    rw [vcar]
    conv => lhs; rw [← h, Nat.add_right_comm, Nat.add_mul_div_left _ _ hp]
    omega
  rw [e, Nat.mod_add_mod]
theorem vcar_if {K v k : Nat} (hv : v < BB) : vcar K v (k + 1) = if (K + v) / BB ^ k % BB < vcar K v k then 1 else 0 := by
  rw [vcar_next, vcar_dig]
  have h1 : K / BB ^ k % BB < BB := Nat.mod_lt _ (by decide)
  have h2 := vcar_lt (K := K) (k := k) hv
  generalize K / BB ^ k % BB = a at *
  generalize vcar K v k = c at *
  simp only [BB] at *
  split <;> omega
theorem vcar_tail {K v k : Nat} (h : vcar K v k = 0) : (digs BB 8 (K + v)).drop k = (digs BB 8 K).drop k := by
  have hp : 0 < BB ^ k := Nat.pow_pos (by decide)
  by_cases hk : k ≤ 8
  · rw [digs_drop _ hk, digs_drop _ hk]
    congr 1
    have h2 := Nat.mod_add_div K (BB ^ k)
    rw [vcar] at h
    conv => lhs; rw [← h2, Nat.add_right_comm, Nat.add_mul_div_left _ _ hp, h, Nat.zero_add]
  · rw [List.drop_of_length_le (by rw [digs_length]; omega), List.drop_of_length_le (by rw [digs_length]; omega)]
/-- Words shifted by a bit. -/
theorem half64 (K k : Nat) : K / 2 / BB ^ k % BB = K / BB ^ k % BB / 2 ||| (K / BB ^ (k + 1) % BB * 2 ^ 63 % BB) := by
  have e : K / BB ^ (k + 1) % BB * 2 ^ 63 % BB = 2 ^ 63 * (K / BB ^ (k + 1) % BB % 2) := by simp only [BB]; omega
  rw [e, Nat.or_comm, ← Nat.two_pow_add_eq_or_of_lt (by simp only [BB]; omega), Nat.div_div_eq_div_mul, Nat.mul_comm 2, ← Nat.div_div_eq_div_mul, show BB ^ (k + 1) = BB ^ k * BB from Nat.pow_succ _ _, ← Nat.div_div_eq_div_mul]
  generalize K / BB ^ k = A
  simp only [BB]
  omega
theorem half64_top {K : Nat} (h : K < BB ^ 8) : K / 2 / BB ^ 7 % BB = K / BB ^ 7 % BB / 2 := by
  rw [half64, show K / BB ^ (7 + 1) = 0 from Nat.div_eq_of_lt h]
  simp
theorem and_w {K w : Nat} (hw : w ≤ 16) : (K / BB ^ 0 % BB) &&& (2 ^ w - 1) = K % 2 ^ w := by
  rw [Nat.and_two_pow_sub_one_eq_mod, Nat.pow_zero, Nat.div_one]
  apply Nat.mod_mod_of_dvd
  exact Nat.pow_dvd_pow 2 (show w ≤ 64 by omega)
theorem and_1 (K : Nat) : (K / BB ^ 0 % BB) &&& 1 = K % 2 := by
  have := and_w (K := K) (w := 1) (by decide)
  simpa using this
/-- A digit below the word is taken away. -/
theorem sub_low {K r : Nat} (h : r ≤ K % BB) : (digs BB 8 K).set 0 (K / BB ^ 0 % BB - r) = digs BB 8 (K - r) := by
  have h1 := digs_put (n := 8) (j := 0) (A := K - r) (c := 0)
  have hd : digs BB 8 K = (K % BB) :: digs BB 7 (K / BB) := rfl
  have hd2 : digs BB 8 (K - r) = ((K - r) % BB) :: digs BB 7 ((K - r) / BB) := rfl
  rw [hd, hd2, List.set_cons_zero, Nat.pow_zero, Nat.div_one]
  have e1 : (K - r) % BB = K % BB - r := by simp only [BB] at *; omega
  have e2 : (K - r) / BB = K / BB := by simp only [BB] at *; omega
  rw [e1, e2]
theorem zero8 {K : Nat} (hK : K < BB ^ 8) (h : K % BB ^ 8 = 0) : K = 0 := by rwa [Nat.mod_eq_of_lt hK] at h
theorem pos_dig {K k : Nat} (h0 : K % BB ^ k = 0) (h : K / BB ^ k % BB = 0) : K % BB ^ (k + 1) = 0 := by rw [Nat.pow_succ, Nat.mod_mul, h0, h, Nat.mul_zero]
end Go.Proofs.Ytoagfplhcimghaa
