/- Plain number theory: prime numbers, Fermat's little theorem, Pocklington's test, powers by squaring. -/
import Derived.Test.YtjlhhcdefcofkaaGreatDoorEngA
namespace Go.Proofs.YtjlhhcdefcofkaaGreatDoor
open Go

def IsP (n : Nat) : Prop := 2 ≤ n ∧ ∀ d, d ∣ n → d = 1 ∨ d = n
theorem IsP.coprime {r k : Nat} (hr : IsP r) (h : ¬ r ∣ k) : Nat.Coprime r k := by
  rcases hr.2 _ (Nat.gcd_dvd_left r k) with h1 | h1
  · exact h1
  · exact absurd (h1 ▸ Nat.gcd_dvd_right r k) h
theorem IsP.dvd_mul {r a b : Nat} (hr : IsP r) (h : r ∣ a * b) : r ∣ a ∨ r ∣ b := by
  by_cases ha : r ∣ a
  · exact .inl ha
  · exact .inr ((hr.coprime ha).dvd_of_dvd_mul_left h)

/-! ### Binomials -/
def bin : Nat → Nat → Nat
  | _, 0 => 1
  | 0, _ + 1 => 0
  | n + 1, k + 1 => bin n k + bin n (k + 1)
theorem bin_zero (n : Nat) : bin n 0 = 1 := by cases n <;> rfl
theorem bin_over : ∀ (n k : Nat), n < k → bin n k = 0
  | 0, k + 1, _ => rfl
  | n + 1, k + 1, h => by rw [bin, bin_over n k (by omega), bin_over n (k + 1) (by omega)]
theorem bin_self : ∀ n : Nat, bin n n = 1
  | 0 => rfl
  | n + 1 => by rw [bin, bin_self n, bin_over n (n + 1) (by omega)]
theorem bin_absorb : ∀ (n k : Nat), (k + 1) * bin (n + 1) (k + 1) = (n + 1) * bin n k
  | 0, 0 => rfl
  | 0, k + 1 => by rw [bin_over 1 (k + 2) (by omega), bin_over 0 (k + 1) (by omega)]; simp
  | n + 1, 0 => by
    have h := bin_absorb n 0
    rw [bin_zero] at h ⊢
    rw [bin, bin_zero]
    omega
  | n + 1, k + 1 => by
    have h1 := bin_absorb n k
    have h2 := bin_absorb n (k + 1)
    have e : bin (n + 2) (k + 2) = bin (n + 1) (k + 1) + bin (n + 1) (k + 2) := rfl
    have e2 : bin (n + 1) (k + 1) = bin n k + bin n (k + 1) := rfl
    rw [e, Nat.mul_add, h2]
    have e3 : (k + 1 + 1) * bin (n + 1) (k + 1) = (n + 1) * bin n k + bin (n + 1) (k + 1) := by rw [Nat.add_mul, h1, Nat.one_mul]
    rw [e3]
    generalize bin n k = x at *
    generalize bin n (k + 1) = y at *
    generalize bin (n + 1) (k + 1) = z at *
    subst e2
    simp only [Nat.add_mul, Nat.mul_add, Nat.one_mul]
    omega
def bs (n a : Nat) : Nat → Nat
  | 0 => 0
  | m + 1 => bs n a m + bin n m * a ^ m
theorem bs_succ (n a : Nat) : ∀ m : Nat, bs (n + 1) a (m + 1) = bs n a (m + 1) + a * bs n a m
  | 0 => by simp [bs, bin_zero]
  | m + 1 => by
    have ih := bs_succ n a m
    rw [bs, ih]
    have e : bs n a (m + 2) = bs n a (m + 1) + bin n (m + 1) * a ^ (m + 1) := rfl
    have e2 : bs n a (m + 1) = bs n a m + bin n m * a ^ m := rfl
    rw [e, bin, Nat.add_mul, Nat.pow_succ]
    have e4 : a * bs n a (m + 1) = a * bs n a m + bin n m * (a ^ m * a) := by rw [e2, Nat.mul_add, Nat.mul_left_comm, Nat.mul_comm a (a ^ m)]
    rw [e4]
    generalize bin n m * (a ^ m * a) = x, bin n (m + 1) * (a ^ m * a) = y, a * bs n a m = z, bs n a (m + 1) = w
    omega
theorem bs_pow (a : Nat) : ∀ n : Nat, (a + 1) ^ n = bs n a (n + 1)
  | 0 => by simp [bs, bin]
  | n + 1 => by
    have e : bs n a (n + 2) = bs n a (n + 1) + bin n (n + 1) * a ^ (n + 1) := rfl
    rw [bs_succ, e, bin_over n (n + 1) (by omega), Nat.zero_mul, Nat.pow_succ, bs_pow a n, Nat.mul_add, Nat.mul_one, Nat.add_zero (bs n a (n + 1)), Nat.add_comm, Nat.mul_comm a]
theorem bin_dvd {r : Nat} (hr : IsP r) {k : Nat} (h0 : 0 < k) (hk : k < r) : r ∣ bin r k := by
  obtain ⟨j, rfl⟩ : ∃ j, k = j + 1 := ⟨k - 1, by omega⟩
  obtain ⟨n, rfl⟩ : ∃ n, r = n + 1 := ⟨r - 1, by omega⟩
  have h := bin_absorb n j
  have hd : n + 1 ∣ (j + 1) * bin (n + 1) (j + 1) := ⟨bin n j, h⟩
  rcases hr.dvd_mul hd with h1 | h1
  · exact absurd (Nat.le_of_dvd (by omega) h1) (by omega)
  · exact h1
theorem bs_mod {r : Nat} (hr : IsP r) (a : Nat) : ∀ m : Nat, m < r → bs r a (m + 1) % r = 1 % r
  | 0, _ => by simp [bs, bin_zero]
  | m + 1, h => by
    have ih := bs_mod hr a m (by omega)
    obtain ⟨c, hc⟩ := bin_dvd hr (k := m + 1) (by omega) h
    rw [bs, hc, Nat.mul_assoc, Nat.add_mul_mod_self_left, ih]
theorem fermat {r : Nat} (hr : IsP r) : ∀ a : Nat, a ^ r % r = a % r
  | 0 => by rw [Nat.zero_pow (by have := hr.1; omega)]
  | a + 1 => by
    obtain ⟨n, rfl⟩ : ∃ n, r = n + 1 := ⟨r - 1, by have := hr.1; omega⟩
    have e : bs (n + 1) a (n + 1 + 1) = bs (n + 1) a (n + 1) + bin (n + 1) (n + 1) * a ^ (n + 1) := rfl
    rw [bs_pow, e, bin_self, Nat.one_mul, Nat.add_mod, bs_mod hr a n (by omega), fermat hr a, ← Nat.add_mod, Nat.add_comm]
theorem dvd_of_mod_eq {r a b : Nat} (h : a % r = b % r) (_hle : b ≤ a) : r ∣ a - b := by
  have := Nat.sub_mod_eq_zero_of_mod_eq h
  exact Nat.dvd_of_mod_eq_zero this
theorem mod_eq_of_dvd {r a b : Nat} (hle : b ≤ a) (h : r ∣ a - b) : a % r = b % r := by
  obtain ⟨c, hc⟩ := h
  have : a = b + r * c := by omega
  rw [this, Nat.add_mul_mod_self_left]
theorem cancel_mod {r a b c : Nat} (hr : IsP r) (hc : ¬ r ∣ c) (h : c * a % r = c * b % r) : a % r = b % r := by
  rcases Nat.le_total b a with hle | hle
  · have := dvd_of_mod_eq h (Nat.mul_le_mul_left _ hle)
    rw [← Nat.mul_sub] at this
    exact mod_eq_of_dvd hle ((hr.coprime hc).dvd_of_dvd_mul_left this)
  · have := dvd_of_mod_eq h.symm (Nat.mul_le_mul_left _ hle)
    rw [← Nat.mul_sub] at this
    exact (mod_eq_of_dvd hle ((hr.coprime hc).dvd_of_dvd_mul_left this)).symm
theorem fermat1 {r : Nat} (hr : IsP r) {a : Nat} (h : ¬ r ∣ a) : a ^ (r - 1) % r = 1 % r := by
  apply cancel_mod hr h
  have e : a * a ^ (r - 1) = a ^ r := by
    obtain ⟨n, rfl⟩ : ∃ n, r = n + 1 := ⟨r - 1, by have := hr.1; omega⟩
    rw [Nat.add_sub_cancel, Nat.pow_succ, Nat.mul_comm]
  rw [e, fermat hr, Nat.mul_one]

/-! ### Powers by squaring -/
def pmod (n : Nat) : Nat → Nat → Nat → Nat
  | 0, _, _ => 1 % n
  | f + 1, b, e => if e % 2 = 1 then b * pmod n f (b * b % n) (e / 2) % n else pmod n f (b * b % n) (e / 2)
theorem pmod_eq (n : Nat) : ∀ (f b e : Nat), e < 2 ^ f → pmod n f b e = b ^ e % n
  | 0, b, e, h => by
    have : e = 0 := by omega
    subst this
    rfl
  | f + 1, b, e, h => by
    have ih := pmod_eq n f (b * b % n) (e / 2) (by rw [Nat.pow_succ] at h; omega)
    have hp : (b * b % n) ^ (e / 2) % n = b ^ (2 * (e / 2)) % n := by
      rw [← Nat.pow_mod, Nat.pow_mul, Nat.pow_two]
    rw [pmod, ih, hp]
    split
    · rename_i h1
      have e1 : e = 2 * (e / 2) + 1 := by omega
      conv => rhs; rw [e1, Nat.pow_succ, Nat.mul_comm]
      rw [Nat.mul_mod, Nat.mod_mod, ← Nat.mul_mod]
    · rename_i h1
      have e1 : e = 2 * (e / 2) := by omega
      conv => rhs; rw [e1]

/-! ### Factors -/
theorem exists_prime : ∀ n : Nat, 2 ≤ n → ∃ r, IsP r ∧ r ∣ n := by
  intro n
  induction n using Nat.strongRecOn with
  | _ n ih =>
    intro h
    by_cases hp : IsP n
    · exact ⟨n, hp, Nat.dvd_refl n⟩
    · have : ∃ d, d ∣ n ∧ d ≠ 1 ∧ d ≠ n := by
        apply Classical.byContradiction
        intro hne
        apply hp
        refine ⟨h, fun d hd => ?_⟩
        apply Classical.byContradiction
        intro hc
        exact hne ⟨d, hd, fun e => hc (.inl e), fun e => hc (.inr e)⟩
      obtain ⟨d, hd, h1, h2⟩ := this
      have hle := Nat.le_of_dvd (by omega) hd
      have h0 : d ≠ 0 := by
        rintro rfl
        have := Nat.eq_zero_of_zero_dvd hd
        omega
      obtain ⟨r, hr, hrd⟩ := ih d (by omega) (by omega)
      exact ⟨r, hr, Nat.dvd_trans hrd hd⟩
/-- A number is prime if each of its prime factors is greater than its root. -/
theorem prime_of_factors {n B : Nat} (h2 : 2 ≤ n) (hB : n < B * B) (h : ∀ r, IsP r → r ∣ n → B ≤ r) : IsP n := by
  refine ⟨h2, fun d hd => ?_⟩
  apply Classical.byContradiction
  intro hc
  obtain ⟨e, he⟩ := hd
  have d1 : d ≠ 1 := fun x => hc (.inl x)
  have dn : d ≠ n := fun x => hc (.inr x)
  have d0 : d ≠ 0 := by rintro rfl; simp at he; omega
  have e0 : e ≠ 0 := by rintro rfl; simp at he; omega
  have e1 : e ≠ 1 := by rintro rfl; simp at he; exact dn he.symm
  obtain ⟨r, hr, hrd⟩ := exists_prime d (by omega)
  obtain ⟨s, hs, hse⟩ := exists_prime e (by omega)
  have hr2 := h r hr (Nat.dvd_trans hrd ⟨e, he⟩)
  have hs2 := h s hs (Nat.dvd_trans hse ⟨d, by rw [he, Nat.mul_comm]⟩)
  have h3 := Nat.le_trans hr2 (Nat.le_of_dvd (by omega) hrd)
  have h4 := Nat.le_trans hs2 (Nat.le_of_dvd (by omega) hse)
  have := Nat.mul_le_mul h3 h4
  omega
/-- Trial division. -/
def trial (n : Nat) : Nat → Nat → Bool
  | 0, _ => true
  | f + 1, d => n % d != 0 && trial n f (d + 2)
theorem trial_sound {n : Nat} : ∀ (f d : Nat), trial n f d = true → ∀ k, k < f → n % (d + 2 * k) ≠ 0
  | 0, _, _, k, h => by omega
  | f + 1, d, h, k, hk => by
    simp only [trial, Bool.and_eq_true, bne_iff_ne] at h
    cases k with
    | zero => exact h.1
    | succ k =>
      have := trial_sound f (d + 2) h.2 k (by omega)
      have e : d + 2 * (k + 1) = d + 2 + 2 * k := by omega
      rw [e]; exact this
theorem prime_trial {n f : Nat} (h2 : 2 ≤ n) (hodd : n % 2 = 1) (hf : n < (3 + 2 * f) * (3 + 2 * f)) (h : trial n f 3 = true) : IsP n := by
  refine prime_of_factors h2 hf fun r hr hrn => ?_
  apply Classical.byContradiction
  intro hlt
  have hm : n % r = 0 := Nat.mod_eq_zero_of_dvd hrn
  have hr2 := hr.1
  by_cases h2r : r % 2 = 1
  · have := trial_sound f 3 h ((r - 3) / 2) (by omega)
    rw [show 3 + 2 * ((r - 3) / 2) = r by omega] at this
    exact this hm
  · obtain ⟨c, hc⟩ := hrn
    have : 2 ∣ n := Nat.dvd_trans (Nat.dvd_of_mod_eq_zero (by omega)) ⟨c, hc⟩
    omega
theorem pow_one_mod {r b : Nat} (h : b % r = 1 % r) (k : Nat) : b ^ k % r = 1 % r := by
  rw [Nat.pow_mod, h, ← Nat.pow_mod, Nat.one_pow]
theorem bez (q k : Nat) (h : Nat.gcd q k = 1) : ∃ x y, q * x = k * y + 1 ∨ k * y = q * x + 1 := by
  have all : ∀ a b : Nat, ∃ x y, a * x = b * y + Nat.gcd a b ∨ b * y = a * x + Nat.gcd a b := by
    intro a
    induction a using Nat.strongRecOn with
    | _ a ih =>
      intro b
      by_cases ha : a = 0
      · subst ha
        exact ⟨0, 1, .inr (by simp)⟩
      · obtain ⟨x, y, e⟩ := ih (b % a) (Nat.mod_lt _ (by omega)) a
        have hg : Nat.gcd a b = Nat.gcd (b % a) a := Nat.gcd_rec a b
        have hb : b = b % a + a * (b / a) := (Nat.mod_add_div b a).symm
        have hx : b * x = b % a * x + a * (b / a * x) := by
          conv => lhs; rw [hb]
          rw [Nat.add_mul, Nat.mul_assoc]
        rcases e with e | e
        · exact ⟨y + b / a * x, x, .inr (by rw [hg, hx, e, Nat.mul_add]; omega)⟩
        · exact ⟨y + b / a * x, x, .inl (by rw [hg, hx, Nat.mul_add, e]; omega)⟩
  have := all q k
  rwa [h] at this
/-- Pocklington: a prime factor r of n is 1 modulo the prime q. -/
theorem poc {n q b f : Nat} (hq : IsP q) (hb : 1 ≤ b) (hf : Nat.log2 q < f) (h0 : pmod n f b q = 1) (h2 : Nat.gcd (b - 1) n = 1) : ∀ r, IsP r → r ∣ n → q ∣ r - 1 := by
  intro r hr hrn
  have h1 : b ^ q % n = 1 := (pmod_eq n f b q ((Nat.log2_lt (by have := hq.1; omega)).1 hf)).symm.trans h0
  have hr2 := hr.1
  have h1r : b ^ q % r = 1 % r := by
    have e : b ^ q = 1 + n * (b ^ q / n) := by have := Nat.mod_add_div (b ^ q) n; omega
    obtain ⟨c, hc⟩ := hrn
    rw [e, hc, Nat.mul_assoc, Nat.add_mul_mod_self_left]
  have hbr : ¬ r ∣ b := by
    intro hd
    have : b ^ q % r = 0 := by
      obtain ⟨c, rfl⟩ := hd
      have hq0 := hq.1
      obtain ⟨k, rfl⟩ : ∃ k, q = k + 1 := ⟨q - 1, by omega⟩
      rw [Nat.pow_succ, ← Nat.mul_assoc, Nat.mul_comm _ r, Nat.mul_assoc, Nat.mul_mod_right]
    rw [this, Nat.mod_eq_of_lt (by omega)] at h1r
    omega
  have hf := fermat1 hr hbr
  apply Classical.byContradiction
  intro hnd
  have hg : Nat.gcd q (r - 1) = 1 := hq.coprime hnd
  have hb1 : b % r = 1 % r := by
    -- u q = v (r - 1) + 1 or v (r - 1) = u q + 1
    have key : ∀ k, Nat.gcd q k = 1 → (∀ m, b ^ (k * m) % r = 1 % r) → b % r = 1 % r := by
      intro k hk hm
      obtain ⟨x, y, hxy⟩ : ∃ x y, q * x = k * y + 1 ∨ k * y = q * x + 1 := bez q k hk
      have hqx : b ^ (q * x) % r = 1 % r := by rw [Nat.pow_mul]; exact pow_one_mod h1r x
      have hky := hm y
      rcases hxy with e | e
      · rw [e, Nat.pow_succ, Nat.mul_mod, hky, ← Nat.mul_mod, Nat.one_mul] at hqx
        exact hqx
      · rw [e, Nat.pow_succ, Nat.mul_mod, hqx, ← Nat.mul_mod, Nat.one_mul] at hky
        exact hky
    exact key (r - 1) hg fun m => by rw [Nat.pow_mul]; exact pow_one_mod hf m
  have hd := dvd_of_mod_eq hb1 hb
  have : r ∣ Nat.gcd (b - 1) n := Nat.dvd_gcd hd hrn
  rw [h2] at this
  have := Nat.le_of_dvd (by omega) this
  omega
theorem le_of_dvd_pred {F B r : Nat} (hr : IsP r) (h : F ∣ r - 1) (hB : B = F + 1) : B ≤ r := by
  have h2 := hr.1
  have := Nat.le_of_dvd (by omega) h
  omega
end Go.Proofs.YtjlhhcdefcofkaaGreatDoor
