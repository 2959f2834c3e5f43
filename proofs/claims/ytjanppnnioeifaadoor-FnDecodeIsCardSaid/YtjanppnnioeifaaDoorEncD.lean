/- Points from bytes. -/
import Derived.Test.YtjanppnnioeifaaDoorEncE
import Derived.Test.YtjanppnnioeifaaDoorIsq
namespace Go.Proofs.YtjanppnnioeifaaDoor
open Go
set_option maxRecDepth 100000

theorem run_sliceNil {P : Program} {w : World} {t e : TypeId} {a : Option Addr} {l c : Nat} (h : P.underlying t = some (.slice e)) : (binOp .eql t (.slice a l c) (.slice none 0 0)).run P w = .ok (.bool a.isNone) w := by
  have h0 : ∀ d, (Op.equalIn (d + 1) t (.slice a l c) (.slice none 0 0)).run P w = .ok a.isNone w := fun d => by cases a <;> simp [Op.equalIn, run_underlying h]
  have h1 : (Op.equal t (.slice a l c) (.slice none 0 0)).run P w = .ok a.isNone w := h0 9999
  simp only [binOp]
  simp [h1]
theorem opr_sliceNil {P : Program} {St : Slots} {M : Mem} {o : Oper} {T T' e : Nat} {x : Operand} {a : Option Addr} {n c : Nat} {t : Bool} (ho : o.op = .binOp .eql T x (.const (.slice none 0 0)) T') (hx : evalS St x = some (.slice a n c)) (hu : P.underlying T = some (.slice e)) (ht : a.isNone = t) : OpR P St M o (Det (.bool t) M) :=
  opr_value fun ρ w0 S w hρ hw => by
    have hy : ρ (.const (.slice none 0 0)) = .slice none 0 0 := hρ _ _ rfl
    have hg : (eqGuard .eql T x (.const (.slice none 0 0)) (.slice a n c) (.slice none 0 0)).run P w = .ok () w := rfl
    have hb : (binOp .eql T (.slice a n c) (.slice none 0 0)).run P w = .ok (.bool t) w := ht ▸ run_sliceNil hu
    simp only [execOp, ho, hρ _ _ hx, hy, Sem.run_bind, hg, hb, Result.andThen_ok, Sem.run_pure]
theorem lt_digit {a b i : Nat} {t : Bool} (h : a / 256 ^ (i + 1) = b / 256 ^ (i + 1)) (hd : a / 256 ^ i % 256 ≠ b / 256 ^ i % 256 ∨ i = 0) (ht : decide (a < b) = t) : decide (a / 256 ^ i % 256 < b / 256 ^ i % 256) = t := by
  rw [← ht, decide_eq_decide]
  rw [Nat.pow_succ, ← Nat.div_div_eq_div_mul, ← Nat.div_div_eq_div_mul] at h
  have key : ∀ A B : Nat, A / 256 = B / 256 → (A % 256 < B % 256 ↔ A < B) := by intro A B hAB; omega
  rw [key _ _ h]
  rcases hd with hd | rfl
  · have hp : 0 < 256 ^ i := Nat.pow_pos (by decide)
    constructor
    · intro hlt
      exact Nat.lt_of_not_le fun hle => absurd (Nat.div_le_div_right (c := 256 ^ i) hle) (Nat.not_le_of_lt hlt)
    · intro hlt
      have h1 := Nat.div_le_div_right (c := 256 ^ i) (Nat.le_of_lt hlt)
      exact Nat.lt_of_le_of_ne h1 fun he => hd (by rw [he])
  · rw [Nat.pow_zero, Nat.div_one, Nat.div_one]
theorem top_eq {a b k : Nat} (hk : k < 55) (h : a / 256 ^ (56 - k) = b / 256 ^ (56 - k)) (hd : a / 256 ^ (55 - k) % 256 = b / 256 ^ (55 - k) % 256) : a / 256 ^ (56 - (k + 1)) = b / 256 ^ (56 - (k + 1)) := by
  rw [show 56 - k = (55 - k) + 1 by omega, Nat.pow_succ, ← Nat.div_div_eq_div_mul, ← Nat.div_div_eq_div_mul] at h
  rw [show 56 - (k + 1) = 55 - k by omega]
  generalize a / 256 ^ (55 - k) = A at *
  generalize b / 256 ^ (55 - k) = B at *
  omega
theorem top_zero {a : Nat} (h : a < RR) : a / 256 ^ 56 = 0 := Nat.div_eq_of_lt h
theorem cs_last {cs : List Value} {y s : Nat} (h : cs.take 57 = EB y s) : cs[56]? = some (.int .u8 (s : Int)) := by
  rw [← EB_last y s, ← h, List.getElem?_take_of_lt (by decide)]
theorem cs_head {cs : List Value} {y s : Nat} (h : cs.take 57 = EB y s) : (cs.drop 0).take 56 = E y := by
  rw [List.drop_zero, ← EB_head y s, ← h, List.take_take]; rfl
theorem and127 {s : Nat} (hs : s < 2) : s * 128 &&& 127 = 0 := by
  obtain rfl | rfl : s = 0 ∨ s = 1 := by omega
  · rfl
  · rfl
theorem m1_power : (pp - 1) ^ ((pp - 1) / 2) % pp = pp - 1 := pmod_of (f := 448) (by decide +kernel) (by decide +kernel) (by decide +kernel)
theorem m1_nsq (s : Fin pp) : s * s ≠ -1 := by
  intro h
  have h0 : el (pp - 1) = -1 := by
    have h1 : el (pp - 1) + el 1 = 0 := by rw [← el_add, el_eq_zero]; decide +kernel
    rw [el_one] at h1
    generalize el (pp - 1) = x at h1
    clear h; grind
  have := euler (e := (pp - 1) / 2) (by decide +kernel) (by decide +kernel) (h.trans h0.symm)
  rw [m1_power] at this
  exact absurd this (by decide +kernel)
theorem curve_key {d X Y A B : Fin pp} (ha : A = Y * Y - 1) (hb : B = Y * Y * d - 1) (ho : On d X Y) : X * X * B = A := by
  unfold On at ho
  subst ha hb
  grind
theorem curve_ne {X Y B : Fin pp} (hb : B = Y * Y * el dP - 1) (ho : On (el dP) X Y) : B ≠ 0 := by
  intro h0
  have k := curve_key rfl hb ho
  have n1 := dP_nsq 1
  generalize el dP = d at *
  have n2 : (1 : Fin pp) * 1 = 1 := by clear k n1 ho hb h0; grind
  rw [n2] at n1
  apply n1
  rw [h0] at k
  have hb' : Y * Y * d = 1 := by rw [h0] at hb; clear k n1 ho h0 n2; grind
  have hy : Y * Y = 1 := by clear n1 ho hb hb' h0 n2; grind
  rw [hy] at hb'
  clear k n1 ho hb h0 n2 hy
  grind
theorem isqOk_true {a b x : Nat} {Y : Fin pp} (ha : el a = Y * Y - 1) (hb : el b = Y * Y * el dP - 1) (ho : On (el dP) (el x) Y) (hx : ¬ x % pp = 0) : isqOk a b = true ∧ (el (isq a b) = el x ∨ el (isq a b) = -el x) := by
  have k := curve_key ha hb ho
  have nb := curve_ne hb ho
  have nx : el x ≠ 0 := fun h => hx (el_eq_zero.1 h)
  have na : el a ≠ 0 := by rw [← k]; exact isF_pp.mul_ne (isF_pp.mul_ne nx nx) nb
  have hR : el (isq a b) * el (isq a b) * el b = el a := by
    refine (isq_or (fun h => na (el_eq_zero.2 h)) (fun h => nb (el_eq_zero.2 h))).resolve_right fun hn => ?_
    obtain ⟨i, hi⟩ := isF_pp.inv _ nx
    refine m1_nsq (el (isq a b) * i) ?_
    rw [← k] at hn
    generalize el (isq a b) = r at *
    generalize el x = X at *
    generalize el b = B at *
    clear ha hb ho hx k na nx
    have h1 : B * (r * r) = B * (-(X * X)) := by clear nb hi; grind
    have h2 := isF_pp.cancel nb h1
    clear h1 nb hn
    grind
  refine ⟨?_, ?_⟩
  · unfold isqOk
    refine decide_eq_true ?_
    rw [← el_eq, el_mul, el_mul]; exact hR
  · rw [← k] at hR
    generalize el (isq a b) = r at *
    generalize el x = X at *
    generalize el b = B at *
    have h1 : B * (r * r) = B * (X * X) := by clear ha hb ho k nb nx na hx; grind
    have h2 := isF_pp.cancel nb h1
    clear ha hb ho k nb nx na hx hR h1
    have h3 : (r - X) * (r + X) = 0 := by grind
    rcases isF_pp.zero h3 with h | h
    · left; clear h2 h3; grind
    · right; clear h2 h3; grind
theorem isqOk_false {a b : Nat} {Y : Fin pp} (ha : el a = Y * Y - 1) (hb : el b = Y * Y * el dP - 1) (hno : ∀ X : Fin pp, X * X * (Y * Y * el dP - 1) ≠ Y * Y - 1) : isqOk a b = false := by
  cases h : isqOk a b
  · rfl
  · have k := of_decide_eq_true h
    rw [← el_eq, el_mul, el_mul, ha, hb] at k
    exact absurd k (hno _)
theorem sign_pick {r x : Nat} (hr : r < pp) (hx0 : ¬ x % pp = 0) (h : el r = el x ∨ el r = -el x) : (x % pp % 2 = r % 2 → el r = el x) ∧ (¬ x % pp % 2 = r % 2 → -el r = el x) := by
  have hodd : pp % 2 = 1 := by decide +kernel
  rcases h with h | h
  · have e := el_eq.1 h
    rw [Nat.mod_eq_of_lt hr] at e
    exact ⟨fun _ => h, fun hn => absurd (by rw [e]) hn⟩
  · have h0 : el (r + x) = 0 := by
      rw [el_add, h]
      generalize el x = X
      clear h; grind
    have h1 := el_eq_zero.1 h0
    rw [Nat.add_mod, Nat.mod_eq_of_lt hr] at h1
    have hxl : x % pp < pp := Nat.mod_lt _ (by decide)
    have h2 : r + x % pp = pp := by
      rcases Nat.lt_or_ge (r + x % pp) pp with hlt | hge
      · rw [Nat.mod_eq_of_lt hlt] at h1; omega
      · rw [Nat.mod_eq_sub_mod hge, Nat.mod_eq_of_lt (by omega)] at h1; omega
    refine ⟨fun hp => by omega, fun _ => ?_⟩
    rw [h]
    generalize el x = X
    clear h h0; grind
theorem root_ne {r x : Nat} (hx0 : ¬ x % pp = 0) (h : el r = el x ∨ el r = -el x) : ¬ r % pp = 0 := by
  intro h0
  rw [el_eq_zero.2 h0] at h
  have nx : el x ≠ 0 := fun h => hx0 (el_eq_zero.1 h)
  generalize el x = X at *
  rcases h with h | h
  · exact nx h.symm
  · apply nx; clear nx hx0 h0; grind
theorem flip {p q : Prop} [Decidable p] [Decidable q] (h : p ↔ q) : decide p = decide q := decide_eq_decide.2 h
theorem isLess_ct {M : Mem} {ix iy gx gy Tx Ty kx ky ox oy a b : Nat} {lx ly : List Nat} (hx : M[ix]? = some ⟨gx, Tx, EE lx⟩) (hkx : lx[kx]? = some a) (hox : 56 * kx = ox) (hy : M[iy]? = some ⟨gy, Ty, EE ly⟩) (hky : ly[ky]? = some b) (hoy : 56 * ky = oy) (ha : a < RR) (hb : b < RR) {t : Bool} (ht0 : decide (a < b) = t) : Ct Tryd.prog 82 #[.slice (some ⟨gx, ox, none⟩) 56 56, .slice (some ⟨gy, oy, none⟩) 56 56] M (Det (.bool t) M) := by
  refine ct_of (vs := [.slice (some ⟨gx, ox, none⟩) 56 56, .slice (some ⟨gy, oy, none⟩) 56 56]) Tryd.func82 rfl Tryd.ntmps82 rfl fun w0 => ?_
  refine at_seq ?_
  refine at_region ?_
  refine at_d rfl rfl (opr_assign rfl rfl) ?_
  refine at_nil ?_
  refine at_then ?_
  refine at_seq ?_
  refine at_region ?_
  refine at_d rfl rfl (opr_move rfl rfl) ?_
  refine at_d rfl rfl (opr_lenS (n := 56) rfl rfl Tryd.underlying38) ?_
  refine at_d rfl rfl (opr_subI (a := 56) (b := 1) rfl rfl rfl (by decide) (by decide)) ?_
  refine at_d rfl rfl (opr_assign rfl rfl) ?_
  refine at_nil ?_
  refine at_then ?_
  refine at_seq ?_
  refine at_block ?_
  refine at_loop (fun (x : Nat) => [(0, .slice (some ⟨gx, ox, none⟩) 56 56), (1, .slice (some ⟨gy, oy, none⟩) 56 56), (5, .int .i64 ((55 - x : Nat) : Int))]) (fun (x : Nat) => M) (fun (x : Nat) => 56 - x) (fun (x : Nat) => x ≤ 55 ∧ a / 256 ^ (56 - x) = b / 256 ^ (56 - x)) 0 ⟨Nat.zero_le _, by rw [Nat.sub_zero, top_zero ha, top_zero hb]⟩ (allIn ⟨rfl, rfl, rfl, trivial⟩) (List.Sublist.refl _) ?_
  rintro k ⟨hk0, hk⟩
  dsimp only
  refine at_seq ?_
  refine at_seq ?_
  rcases Nat.lt_or_ge k 55 with hk5 | hk5
  ·
    refine at_drawQ (by kernel_rfl) (by kernel_rfl) (List.cons_ne_nil _ _) ?_
    refine dr_op rfl rfl (opr_move rfl rfl) ?_
    refine dr_op rfl rfl (opr_eq' (opr_gtr (a := 55 - k) (b := 0) rfl rfl rfl) (congrArg Value.bool (decide_eq_true (by omega)))) ?_
    refine dr_op rfl rfl (opr_move rfl rfl) ?_
    refine dr_op rfl rfl (opr_move rfl rfl) ?_
    refine dr_op rfl rfl (opr_move rfl rfl) ?_
    refine dr_op rfl rfl (opr_indexAddrS (j := 55 - k) (off' := ox + (55 - k)) rfl rfl rfl Tryd.underlying38 (by omega) size5 (by omega)) ?_
    refine dr_op rfl rfl (opr_load1 (i := ix) rfl rfl hx Tryd.underlying5 rfl (EE_byte hkx hox (by omega))) ?_
    refine dr_op rfl rfl (opr_move rfl rfl) ?_
    refine dr_op rfl rfl (opr_move rfl rfl) ?_
    refine dr_op rfl rfl (opr_indexAddrS (j := 55 - k) (off' := oy + (55 - k)) rfl rfl rfl Tryd.underlying38 (by omega) size5 (by omega)) ?_
    refine dr_op rfl rfl (opr_load1 (i := iy) rfl rfl hy Tryd.underlying5 rfl (EE_byte hky hoy (by omega))) ?_
    refine dr_op rfl rfl (opr_eql (a := a / 256 ^ (55 - k) % 256) (b := b / 256 ^ (55 - k) % 256) rfl rfl rfl) ?_
    refine dr_last rfl rfl (opr_pickT rfl rfl rfl) ?_
    refine ⟨rfl, ?_⟩
    refine at_then ?_
    refine at_cond rfl (fun ht => ?_) (fun ht => ?_)
    ·
      have ht' := of_decide_eq_true ht
      refine at_skip ?_
      refine at_then ?_
      refine at_block ?_
      refine at_region ?_
      refine at_d rfl rfl (opr_move rfl rfl) ?_
      refine at_d rfl rfl (opr_eq' (opr_subI (a := 55 - k) (b := 1) rfl rfl rfl (by omega) (by omega)) (i64_eq (b := 55 - (k + 1)) (by omega))) ?_
      refine at_d rfl rfl (opr_assign rfl rfl) ?_
      refine at_nil ?_
      refine at_inBlock_normal ?_
      exact at_round (k + 1) ⟨by omega, top_eq hk5 hk ht'⟩ (by omega) (allIn ⟨rfl, rfl, rfl, trivial⟩) (List.Sublist.refl _)
    ·
      have hkk : a / 256 ^ (55 - k + 1) = b / 256 ^ (55 - k + 1) := by rw [show 55 - k + 1 = 56 - k by omega]; exact hk
      have hdd : a / 256 ^ (55 - k) % 256 ≠ b / 256 ^ (55 - k) % 256 ∨ 55 - k = 0 := .inl (of_decide_eq_false ht)
      refine at_exit ?_
      refine at_then_exit ?_
      refine at_then_exit ?_
      refine at_inBlock_same ?_
      refine at_then ?_
      refine at_seq ?_
      refine at_drawQ (by kernel_rfl) (by kernel_rfl) (List.cons_ne_nil _ _) ?_
      refine dr_op rfl rfl (opr_move rfl rfl) ?_
      refine dr_op rfl rfl (opr_move rfl rfl) ?_
      refine dr_op rfl rfl (opr_indexAddrS (j := 55 - k) (off' := ox + (55 - k)) rfl rfl rfl Tryd.underlying38 (by omega) size5 (by omega)) ?_
      refine dr_op rfl rfl (opr_load1 (i := ix) rfl rfl hx Tryd.underlying5 rfl (EE_byte hkx hox (by omega))) ?_
      refine dr_op rfl rfl (opr_move rfl rfl) ?_
      refine dr_op rfl rfl (opr_move rfl rfl) ?_
      refine dr_op rfl rfl (opr_indexAddrS (j := 55 - k) (off' := oy + (55 - k)) rfl rfl rfl Tryd.underlying38 (by omega) size5 (by omega)) ?_
      refine dr_op rfl rfl (opr_load1 (i := iy) rfl rfl hy Tryd.underlying5 rfl (EE_byte hky hoy (by omega))) ?_
      refine dr_op rfl rfl (opr_eq' (opr_lss rfl rfl rfl) (congrArg Value.bool (lt_digit hkk hdd ht0))) ?_
      refine dr_last rfl rfl (opr_assign rfl rfl) ?_
      refine ⟨rfl, ?_⟩
      refine at_then ?_
      refine at_ret ?_
      refine done_of (res1 Tryd.results82 (res_tmp rfl)) ⟨rfl, rfl⟩ (by repeat (first | exact List.Sublist.refl _ | apply List.Sublist.cons))
  ·
    refine at_drawQ (by kernel_rfl) (by kernel_rfl) (List.cons_ne_nil _ _) ?_
    refine dr_op rfl rfl (opr_move rfl rfl) ?_
    refine dr_op rfl rfl (opr_eq' (opr_gtr (a := 55 - k) (b := 0) rfl rfl rfl) (congrArg Value.bool (decide_eq_false (by omega)))) ?_
    refine dr_op rfl rfl (opr_move rfl rfl) ?_
    refine dr_skip rfl rfl ?_
    refine dr_skip rfl rfl ?_
    refine dr_skip rfl rfl ?_
    refine dr_skip rfl rfl ?_
    refine dr_skip rfl rfl ?_
    refine dr_skip rfl rfl ?_
    refine dr_skip rfl rfl ?_
    refine dr_skip rfl rfl ?_
    refine dr_skip rfl rfl ?_
    refine dr_last rfl rfl (opr_pickN rfl rfl rfl) ?_
    refine ⟨rfl, ?_⟩
    refine at_then ?_
    refine at_cond_false rfl ?_
    have hkk : a / 256 ^ (55 - k + 1) = b / 256 ^ (55 - k + 1) := by rw [show 55 - k + 1 = 56 - k by omega]; exact hk
    have hdd : a / 256 ^ (55 - k) % 256 ≠ b / 256 ^ (55 - k) % 256 ∨ 55 - k = 0 := .inr (by omega)
    refine at_exit ?_
    refine at_then_exit ?_
    refine at_then_exit ?_
    refine at_inBlock_same ?_
    refine at_then ?_
    refine at_seq ?_
    refine at_drawQ (by kernel_rfl) (by kernel_rfl) (List.cons_ne_nil _ _) ?_
    refine dr_op rfl rfl (opr_move rfl rfl) ?_
    refine dr_op rfl rfl (opr_move rfl rfl) ?_
    refine dr_op rfl rfl (opr_indexAddrS (j := 55 - k) (off' := ox + (55 - k)) rfl rfl rfl Tryd.underlying38 (by omega) size5 (by omega)) ?_
    refine dr_op rfl rfl (opr_load1 (i := ix) rfl rfl hx Tryd.underlying5 rfl (EE_byte hkx hox (by omega))) ?_
    refine dr_op rfl rfl (opr_move rfl rfl) ?_
    refine dr_op rfl rfl (opr_move rfl rfl) ?_
    refine dr_op rfl rfl (opr_indexAddrS (j := 55 - k) (off' := oy + (55 - k)) rfl rfl rfl Tryd.underlying38 (by omega) size5 (by omega)) ?_
    refine dr_op rfl rfl (opr_load1 (i := iy) rfl rfl hy Tryd.underlying5 rfl (EE_byte hky hoy (by omega))) ?_
    refine dr_op rfl rfl (opr_eq' (opr_lss rfl rfl rfl) (congrArg Value.bool (lt_digit hkk hdd ht0))) ?_
    refine dr_last rfl rfl (opr_assign rfl rfl) ?_
    refine ⟨rfl, ?_⟩
    refine at_then ?_
    refine at_ret ?_
    refine done_of (res1 Tryd.results82 (res_tmp rfl)) ⟨rfl, rfl⟩ (by repeat (first | exact List.Sublist.refl _ | apply List.Sublist.cons))
theorem cloneB_ct {M : Mem} {ix gx Tx y s : Nat} (hX : M[ix]? = some ⟨gx, Tx, EB y s⟩) : Ct Tryd.prog 56 #[.slice (some ⟨gx, 0, none⟩) 57 57] M (fun v M' => ∃ q : Sl, v = .slice (some ⟨q.g, 0, none⟩) 57 q.cap ∧ q.cs.length = q.cap ∧ 57 ≤ q.cap ∧ q.cs.take 57 = EB y s ∧ M' = ⟨q.g, 5, q.cs⟩ :: M) := by
  refine ct_of (vs := [.slice (some ⟨gx, 0, none⟩) 57 57]) Tryd.func56 rfl Tryd.ntmps56 rfl fun w0 => ?_
  refine at_seq ?_
  refine at_region ?_
  refine at_d rfl rfl (opr_assign rfl rfl) ?_
  refine at_nil ?_
  refine at_then ?_
  refine at_seq ?_
  refine at_seq ?_
  refine at_region ?_
  refine at_d rfl rfl (opr_move rfl rfl) ?_
  refine at_d rfl rfl (opr_sliceNil rfl rfl Tryd.underlying38 rfl) ?_
  refine at_nil ?_
  refine at_then ?_
  refine at_cond_false rfl ?_
  refine at_skip ?_
  refine at_then ?_
  refine at_seq ?_
  refine at_region ?_
  refine at_c rfl rfl (opr_buildSlice0 rfl Tryd.underlying38 size5) ?_
  rintro _ _ ⟨g0, rfl, rfl⟩
  refine at_d rfl rfl (opr_move rfl rfl) ?_
  refine at_c rfl rfl (opr_append (e := 5) (i := 0) (j := ix + 1) (cs := []) (news := EB y s) (z := .int .u8 0) rfl rfl rfl rfl rfl (Nat.le_refl _) (by rw [List.getElem?_cons_succ]; exact hX) (EB_length _ _) (by rw [List.drop_zero, List.take_of_length_le (by rw [EB_length]; decide)]) (EB_flat _ _) Tryd.underlying38 (by kernel_rfl) (by decide) (by kernel_rfl) (by decide)) ?_
  rintro _ _ ⟨q, rfl, hs1, hs2, hs3, rfl⟩
  rw [List.take_zero, List.nil_append] at hs3
  rw [Nat.zero_add] at hs2 hs3 ⊢
  refine at_d rfl rfl (opr_assign rfl rfl) ?_
  refine at_nil ?_
  refine at_then ?_
  refine at_ret ?_
  refine done_of (res1 Tryd.results56 (res_tmp rfl)) ⟨q, rfl, hs1, hs2, hs3, rfl⟩ (by repeat (first | exact List.Sublist.refl _ | apply List.Sublist.cons))
theorem fromBytes_ct {M : Mem} {ig Tp jd Td : Nat} (hG : M[ig]? = some ⟨3, Tp, EE [pp]⟩) (hD : M[jd]? = some ⟨0, Td, EE [dP]⟩) {ix gx Tx c x y : Nat} {cs : List Value} (hX : M[ix]? = some ⟨gx, Tx, cs⟩) (hcs : cs.take 57 = EB y (x % pp % 2 * 128)) (hc : 57 ≤ c) (hy : y < pp) (hx0 : ¬ x % pp = 0) (hOn : On (el dP) (el x) (el y)) : Ct Tryd.prog 55 #[.slice (some ⟨gx, 0, none⟩) 57 c] M (fun v M' => ∃ g x1, x1 < RR ∧ el x1 = el x ∧ v = .tuple #[.pointer (some ⟨g, 0, none⟩), .nilIface] ∧ M' = ⟨g, 84, EE [x1, y, 1, x1, y]⟩ :: M) := by
  have hyR : y < RR := pp_lt_RR hy
  refine ct_of (vs := [.slice (some ⟨gx, 0, none⟩) 57 c]) Tryd.func55 rfl Tryd.ntmps55 rfl fun w0 => ?_
  refine at_seq ?_
  refine at_region ?_
  refine at_d rfl rfl (opr_assign rfl rfl) ?_
  refine at_d rfl rfl (opr_assign rfl rfl) ?_
  refine at_nil ?_
  refine at_then ?_
  refine at_seq ?_
  refine at_seq ?_
  refine at_region ?_
  refine at_d rfl rfl (opr_move rfl rfl) ?_
  refine at_d rfl rfl (opr_lenS (n := 57) rfl rfl Tryd.underlying38) ?_
  refine at_d rfl rfl (opr_binOp (v := .bool false) rfl rfl rfl (fun _ => rfl)) ?_
  refine at_nil ?_
  refine at_then ?_
  refine at_cond_false rfl ?_
  refine at_skip ?_
  refine at_then ?_
  refine at_seq ?_
  refine at_region ?_
  refine at_c rfl rfl (opr_call rfl rfl rfl Tryd.func80 (by kernel_rfl) rfl (errNew_ct)) ?_
  rintro _ _ ⟨⟨Xe, xe, rfl⟩, rfl⟩
  refine at_d rfl rfl (opr_assign rfl rfl) ?_
  refine at_nil ?_
  refine at_then ?_
  refine at_seq ?_
  refine at_region ?_
  refine at_d rfl rfl (opr_buildE (ds := EE [0, 0, 0, 0, 0]) rfl rfl (builtp84 [] rfl) rfl) ?_
  refine at_n rfl rfl (opr_box rfl rfl rfl) ?_
  intro g0
  refine at_d rfl rfl (opr_assign rfl rfl) ?_
  refine at_nil ?_
  refine at_then ?_
  refine at_seq ?_
  refine at_seq ?_
  refine at_region ?_
  refine at_d rfl rfl (opr_move rfl rfl) ?_
  refine at_d rfl rfl (opr_indexAddrS (j := 56) rfl rfl rfl Tryd.underlying38 (by decide) size5 rfl) ?_
  refine at_d rfl rfl (opr_load1 (i := ix + 1) rfl rfl hX Tryd.underlying5 rfl (cs_last hcs)) ?_
  refine at_d rfl rfl (opr_eq' (opr_and8 (a := x % pp % 2 * 128) (b := 127) rfl rfl rfl (by omega) (by decide)) (u8_eq' (b := 0) (and127 (Nat.mod_lt _ (by decide))))) ?_
  refine at_d rfl rfl (opr_eq' (opr_neq (a := 0) (b := 0) rfl rfl rfl) (congrArg Value.bool (decide_eq_false (fun h => h rfl)))) ?_
  refine at_nil ?_
  refine at_then ?_
  refine at_cond_false rfl ?_
  refine at_skip ?_
  refine at_then ?_
  refine at_seq ?_
  refine at_region ?_
  refine at_d rfl rfl (opr_move rfl rfl) ?_
  refine at_d rfl rfl (opr_indexAddrS (j := 56) rfl rfl rfl Tryd.underlying38 (by decide) size5 rfl) ?_
  refine at_d rfl rfl (opr_load1 (i := ix + 1) rfl rfl hX Tryd.underlying5 rfl (cs_last hcs)) ?_
  refine at_d rfl rfl (opr_eq' (opr_shr8 (a := x % pp % 2 * 128) (n := 7) rfl rfl rfl (by decide)) (u8_eq' (b := x % pp % 2) (by omega))) ?_
  refine at_d rfl rfl (opr_assign rfl rfl) ?_
  refine at_nil ?_
  refine at_then ?_
  refine at_seq ?_
  refine at_draw (by kernel_rfl) (by kernel_rfl) (by kernel_rfl) (List.cons_ne_nil _ _) ?_
  refine dr_op rfl rfl (opr_move rfl rfl) ?_
  refine dr_op rfl rfl (opr_nilCheck rfl rfl) ?_
  refine dr_op rfl rfl (opr_fieldAddr rfl rfl Tryd.underlying84 rfl size82 rfl rfl) ?_
  refine dr_op rfl rfl (opr_sliceAll rfl rfl Tryd.underlying82 rfl size5) ?_
  refine dr_op rfl rfl (opr_move rfl rfl) ?_
  refine dr_op rfl rfl (opr_sliceSHi (b := 56) rfl rfl rfl Tryd.underlying38 size5 (by omega) (by omega)) ?_
  refine dr_last rfl rfl (opr_copy (i := 0) (j := ix + 1) (n := 56) (vs := E y) rfl rfl rfl rfl hX Tryd.underlying38 size5 rfl (E_length _) (cs_head hcs) (by rw [EE_length]; decide) (E_flat _) (EE_set (k := 1) (Nat.le_of_ble_eq_true rfl) rfl)) ?_
  refine at_then ?_
  refine at_seq ?_
  refine at_region ?_
  refine at_d rfl rfl (opr_call rfl rfl rfl Tryd.func81 (by kernel_rfl) rfl (fP_ct (ig := ig + 1) hG)) ?_
  refine at_n rfl rfl (opr_alloc rfl zero82 rfl) ?_
  intro g1
  refine at_d rfl rfl (opr_store (i := 0) rfl rfl rfl rfl rfl size82 (E_length _) (by rw [EE_length]; exact Nat.le_of_ble_eq_true rfl) (E_flat _) (EE_set (k := 0) (Nat.le_of_ble_eq_true rfl) rfl)) ?_
  refine at_nil ?_
  refine at_then ?_
  refine at_seq ?_
  refine at_seq ?_
  refine at_drawQ (by kernel_rfl) (by kernel_rfl) (List.cons_ne_nil _ _) ?_
  refine dr_op rfl rfl (opr_move rfl rfl) ?_
  refine dr_op rfl rfl (opr_nilCheck rfl rfl) ?_
  refine dr_op rfl rfl (opr_fieldAddr rfl rfl Tryd.underlying84 rfl size82 rfl rfl) ?_
  refine dr_op rfl rfl (opr_sliceAll rfl rfl Tryd.underlying82 rfl size5) ?_
  refine dr_op rfl rfl (opr_sliceAll rfl rfl Tryd.underlying82 rfl size5) ?_
  refine dr_op rfl rfl (opr_call rfl rfl rfl Tryd.func82 (by kernel_rfl) rfl (isLess_ct (ix := 1) (iy := 0) (kx := 1) (ky := 0) rfl rfl rfl rfl rfl rfl hyR RR_pp (decide_eq_true hy))) ?_
  refine dr_last rfl rfl (opr_unOp (u := .bool false) rfl rfl (fun _ => rfl)) ?_
  refine ⟨rfl, ?_⟩
  refine at_then ?_
  refine at_cond_false rfl ?_
  refine at_skip ?_
  refine at_then ?_
  refine at_seq ?_
  refine at_region ?_
  refine at_d rfl rfl (opr_buildE (ds := E 0) rfl rfl builtz82 rfl) ?_
  refine at_n rfl rfl (opr_box (cs := EE [0]) rfl rfl (E_box _)) ?_
  intro g2
  refine at_d rfl rfl (opr_buildE (ds := E 0) rfl rfl builtz82 rfl) ?_
  refine at_n rfl rfl (opr_box (cs := EE [0]) rfl rfl (E_box _)) ?_
  intro g3
  refine at_d rfl rfl (opr_assign rfl rfl) ?_
  refine at_d rfl rfl (opr_assign rfl rfl) ?_
  refine at_nil ?_
  refine at_then ?_
  refine at_seq ?_
  refine at_region ?_
  refine at_d rfl rfl (opr_call rfl rfl rfl Tryd.func83 (by kernel_rfl) rfl (fOne_ct)) ?_
  refine at_n rfl rfl (opr_alloc rfl zero82 rfl) ?_
  intro g4
  refine at_d rfl rfl (opr_store (i := 0) rfl rfl rfl rfl rfl size82 (E_length _) (by rw [EE_length]; exact Nat.le_of_ble_eq_true rfl) (E_flat _) (EE_set (k := 0) (Nat.le_of_ble_eq_true rfl) rfl)) ?_
  refine at_nil ?_
  refine at_then ?_
  refine at_seq ?_
  refine at_region ?_
  refine at_d rfl rfl (opr_move rfl rfl) ?_
  refine at_d rfl rfl (opr_move rfl rfl) ?_
  refine at_d rfl rfl (opr_nilCheck rfl rfl) ?_
  refine at_d rfl rfl (opr_fieldAddr rfl rfl Tryd.underlying84 rfl size82 rfl rfl) ?_
  refine at_c rfl rfl (opr_call rfl rfl rfl Tryd.func84 (by kernel_rfl) rfl (Sqr_el (iz := 2) (ix := 4) (kz := 0) (kx := 1) rfl (Nat.le_of_ble_eq_true rfl) rfl rfl rfl rfl hyR)) ?_
  rintro _ _ ⟨r0, hr0, f0, rfl, rfl⟩
  refine at_nil ?_
  refine at_then ?_
  refine at_seq ?_
  refine at_region ?_
  refine at_d rfl rfl (opr_load (i := jd + 5) rfl rfl hD Tryd.underlying82 rfl size82 (E_length _) (EE_at (k := 0) rfl rfl rfl)) ?_
  refine at_n rfl rfl (opr_alloc rfl zero82 rfl) ?_
  intro g5
  refine at_d rfl rfl (opr_store (i := 0) rfl rfl rfl rfl rfl size82 (E_length _) (by rw [EE_length]; exact Nat.le_of_ble_eq_true rfl) (E_flat _) (EE_set (k := 0) (Nat.le_of_ble_eq_true rfl) rfl)) ?_
  refine at_nil ?_
  refine at_then ?_
  refine at_seq ?_
  refine at_region ?_
  refine at_d rfl rfl (opr_move rfl rfl) ?_
  refine at_d rfl rfl (opr_move rfl rfl) ?_
  refine at_c rfl rfl (opr_call rfl rfl rfl Tryd.func73 (by kernel_rfl) rfl (Mul_el (iz := 2) (ix := 3) (iy := 0) (kz := 0) (kx := 0) (ky := 0) rfl (Nat.le_of_ble_eq_true rfl) rfl rfl rfl rfl rfl rfl rfl hr0 (by decide))) ?_
  rintro _ _ ⟨r1, hr1, f1, rfl, rfl⟩
  refine at_nil ?_
  refine at_then ?_
  refine at_seq ?_
  refine at_region ?_
  refine at_d rfl rfl (opr_move rfl rfl) ?_
  refine at_d rfl rfl (opr_move rfl rfl) ?_
  refine at_c rfl rfl (opr_call rfl rfl rfl Tryd.func74 (by kernel_rfl) rfl (Sub_el (iz := 3) (ix := 3) (iy := 1) (kz := 0) (kx := 0) (ky := 0) rfl (Nat.le_of_ble_eq_true rfl) rfl rfl rfl rfl rfl rfl rfl hr0 RR_one)) ?_
  rintro _ _ ⟨r2, hr2, f2, rfl, rfl⟩
  refine at_nil ?_
  refine at_then ?_
  refine at_seq ?_
  refine at_region ?_
  refine at_d rfl rfl (opr_move rfl rfl) ?_
  refine at_d rfl rfl (opr_move rfl rfl) ?_
  refine at_c rfl rfl (opr_call rfl rfl rfl Tryd.func74 (by kernel_rfl) rfl (Sub_el (iz := 2) (ix := 2) (iy := 1) (kz := 0) (kx := 0) (ky := 0) rfl (Nat.le_of_ble_eq_true rfl) rfl rfl rfl rfl rfl rfl rfl hr1 RR_one)) ?_
  rintro _ _ ⟨r3, hr3, f3, rfl, rfl⟩
  refine at_nil ?_
  refine at_then ?_
  refine at_seq ?_
  refine at_region ?_
  refine at_d rfl rfl (opr_move rfl rfl) ?_
  refine at_d rfl rfl (opr_nilCheck rfl rfl) ?_
  refine at_d rfl rfl (opr_fieldAddr rfl rfl Tryd.underlying84 rfl size82 rfl rfl) ?_
  refine at_d rfl rfl (opr_move rfl rfl) ?_
  refine at_d rfl rfl (opr_move rfl rfl) ?_
  refine at_c rfl rfl (opr_call rfl rfl rfl Tryd.func85 (by kernel_rfl) rfl (InvSqrt_ct (ig := ig + 6) (iz := 5) (ix := 3) (iy := 2) (kz := 0) (kx := 0) (ky := 0) hG rfl (Nat.le_of_ble_eq_true rfl) rfl rfl rfl rfl rfl rfl rfl (by omega) (by omega) (by omega) hr2 hr3)) ?_
  rintro _ _ ⟨rr, hrr, hrm, rfl, rfl⟩
  obtain ⟨hok, hrt⟩ := isqOk_true (a := r2) (b := r3) (x := x) (Y := el y) (by rw [f2, f0, el_one]) (by rw [f3, f1, f0, el_one]) hOn hx0
  rw [hok]
  have hrp : rr % pp < pp := Nat.mod_lt _ (by decide)
  have hrt' : el (rr % pp) = el x ∨ el (rr % pp) = -el x := by rw [hrm]; exact hrt
  obtain ⟨hs1, hs2⟩ := sign_pick hrp hx0 hrt'
  have hr0 : ¬ rr % pp = 0 := by have h := root_ne hx0 hrt'; rwa [Nat.mod_mod] at h
  refine at_d rfl rfl (opr_assign rfl rfl) ?_
  refine at_nil ?_
  refine at_then ?_
  refine at_seq ?_
  refine at_seq ?_
  refine at_region ?_
  refine at_d rfl rfl (opr_move rfl rfl) ?_
  refine at_d rfl rfl (opr_unOp (u := .bool false) rfl rfl (fun _ => rfl)) ?_
  refine at_nil ?_
  refine at_then ?_
  refine at_cond_false rfl ?_
  refine at_skip ?_
  refine at_then ?_
  refine at_seq ?_
  refine at_region ?_
  refine at_d rfl rfl (opr_move rfl rfl) ?_
  refine at_d rfl rfl (opr_nilCheck rfl rfl) ?_
  refine at_d rfl rfl (opr_fieldAddr rfl rfl Tryd.underlying84 rfl size82 rfl rfl) ?_
  refine at_d rfl rfl (opr_call rfl rfl rfl Tryd.func86 (by kernel_rfl) rfl (modp_ct (ig := ig + 6) (iz := 5) (kz := 0) hG rfl rfl rfl hrr)) ?_
  refine at_nil ?_
  refine at_then ?_
  refine at_seq ?_
  refine at_seq ?_
  refine at_region ?_
  refine at_d rfl rfl (opr_move rfl rfl) ?_
  refine at_d rfl rfl (opr_nilCheck rfl rfl) ?_
  refine at_d rfl rfl (opr_fieldAddr rfl rfl Tryd.underlying84 rfl size82 rfl rfl) ?_
  refine at_d rfl rfl (opr_call rfl rfl rfl Tryd.func75 (by kernel_rfl) rfl (fIsZeroR_ct (ig := ig + 6) (iz := 5) (kz := 0) (t := false) hG rfl rfl rfl hrp (decide_eq_false hr0))) ?_
  refine at_d rfl rfl (opr_move rfl rfl) ?_
  refine at_op_skip rfl rfl ?_
  refine at_op_skip rfl rfl ?_
  refine at_d rfl rfl (opr_pickN rfl rfl rfl) ?_
  refine at_nil ?_
  refine at_then ?_
  refine at_cond_false rfl ?_
  refine at_skip ?_
  refine at_then ?_
  refine at_seq ?_
  refine at_seq ?_
  refine at_region ?_
  refine at_d rfl rfl (opr_move rfl rfl) ?_
  refine at_d rfl rfl (opr_move rfl rfl) ?_
  refine at_d rfl rfl (opr_nilCheck rfl rfl) ?_
  refine at_d rfl rfl (opr_fieldAddr rfl rfl Tryd.underlying84 rfl size82 rfl rfl) ?_
  refine at_d rfl rfl (opr_indexAddr (j := 0) rfl rfl rfl Tryd.underlying82 (by decide) size5 rfl) ?_
  refine at_d rfl rfl (opr_load1 (i := 5) rfl rfl rfl Tryd.underlying5 rfl (EE_byte (k := 0) (j := 0) rfl rfl (by decide))) ?_
  refine at_d rfl rfl (opr_eq' (opr_and8 (a := rr % pp / 256 ^ 0 % 256) (b := 1) rfl rfl rfl (Nat.mod_lt _ (by decide)) (by decide)) (u8_eq' (b := rr % pp % 2) (by rw [Nat.pow_zero, Nat.div_one, Nat.and_one_is_mod]; omega))) ?_
  refine at_d rfl rfl (opr_neq (a := x % pp % 2) (b := rr % pp % 2) rfl rfl rfl) ?_
  refine at_nil ?_
  refine at_then ?_
  refine at_cond rfl (fun ht => ?_) (fun ht => ?_)
  ·
    have hfin := hs2 (of_decide_eq_true ht)
    refine at_drawR (by kernel_rfl) (by kernel_rfl) (by kernel_rfl) (List.cons_ne_nil _ _) ?_
    refine drR_op rfl rfl (opr_move rfl rfl) ?_
    refine drR_op rfl rfl (opr_nilCheck rfl rfl) ?_
    refine drR_op rfl rfl (opr_fieldAddr rfl rfl Tryd.underlying84 rfl size82 rfl rfl) ?_
    refine drR_op rfl rfl (opr_move rfl rfl) ?_
    refine drR_op rfl rfl (opr_nilCheck rfl rfl) ?_
    refine drR_op rfl rfl (opr_fieldAddr rfl rfl Tryd.underlying84 rfl size82 rfl rfl) ?_
    refine drR_last (v := .tuple #[]) rfl rfl (opr_call rfl rfl rfl Tryd.func87 (by kernel_rfl) rfl (Neg_el (ig := ig + 6) (iz := 5) (ix := 5) (kz := 0) (kx := 0) hG rfl (Nat.le_of_ble_eq_true rfl) rfl rfl rfl rfl (modp_lt _))) ?_ ?_
    · rintro _ _ ⟨_, _, _, rfl, _⟩; rfl
    rintro _ _ ⟨r4, hr4, f4, rfl, rfl⟩
    refine at_then ?_
    refine at_seq ?_
    refine at_region ?_
    refine at_d rfl rfl (opr_move rfl rfl) ?_
    refine at_d rfl rfl (opr_move rfl rfl) ?_
    refine at_d rfl rfl (opr_nilCheck rfl rfl) ?_
    refine at_d rfl rfl (opr_fieldAddr rfl rfl Tryd.underlying84 rfl size82 rfl rfl) ?_
    refine at_d rfl rfl (opr_load (i := 5) rfl rfl rfl Tryd.underlying82 rfl size82 (E_length _) (EE_at (k := 0) rfl rfl rfl)) ?_
    refine at_d rfl rfl (opr_nilCheck rfl rfl) ?_
    refine at_d rfl rfl (opr_fieldAddr rfl rfl Tryd.underlying84 rfl size82 rfl rfl) ?_
    refine at_d rfl rfl (opr_store (i := 5) rfl rfl rfl rfl rfl size82 (E_length _) (by rw [EE_length]; exact Nat.le_of_ble_eq_true rfl) (E_flat _) (EE_set (k := 3) (Nat.le_of_ble_eq_true rfl) rfl)) ?_
    refine at_nil ?_
    refine at_then ?_
    refine at_seq ?_
    refine at_region ?_
    refine at_d rfl rfl (opr_move rfl rfl) ?_
    refine at_d rfl rfl (opr_move rfl rfl) ?_
    refine at_d rfl rfl (opr_nilCheck rfl rfl) ?_
    refine at_d rfl rfl (opr_fieldAddr rfl rfl Tryd.underlying84 rfl size82 rfl rfl) ?_
    refine at_d rfl rfl (opr_load (i := 5) rfl rfl rfl Tryd.underlying82 rfl size82 (E_length _) (EE_at (k := 1) rfl rfl rfl)) ?_
    refine at_d rfl rfl (opr_nilCheck rfl rfl) ?_
    refine at_d rfl rfl (opr_fieldAddr rfl rfl Tryd.underlying84 rfl size82 rfl rfl) ?_
    refine at_d rfl rfl (opr_store (i := 5) rfl rfl rfl rfl rfl size82 (E_length _) (by rw [EE_length]; exact Nat.le_of_ble_eq_true rfl) (E_flat _) (EE_set (k := 4) (Nat.le_of_ble_eq_true rfl) rfl)) ?_
    refine at_nil ?_
    refine at_then ?_
    refine at_seq ?_
    refine at_region ?_
    refine at_d rfl rfl (opr_move rfl rfl) ?_
    refine at_d rfl rfl (opr_call rfl rfl rfl Tryd.func83 (by kernel_rfl) rfl (fOne_ct)) ?_
    refine at_d rfl rfl (opr_nilCheck rfl rfl) ?_
    refine at_d rfl rfl (opr_fieldAddr rfl rfl Tryd.underlying84 rfl size82 rfl rfl) ?_
    refine at_d rfl rfl (opr_store (i := 5) rfl rfl rfl rfl rfl size82 (E_length _) (by rw [EE_length]; exact Nat.le_of_ble_eq_true rfl) (E_flat _) (EE_set (k := 2) (Nat.le_of_ble_eq_true rfl) rfl)) ?_
    refine at_nil ?_
    refine at_then ?_
    refine at_seq ?_
    refine at_region ?_
    refine at_d rfl rfl (opr_move rfl rfl) ?_
    refine at_d rfl rfl (opr_assign rfl rfl) ?_
    refine at_d rfl rfl (opr_assign rfl rfl) ?_
    refine at_nil ?_
    refine at_then ?_
    refine at_ret ?_
    exact done_of (res2 Tryd.results55 (res_tmp rfl) (res_tmp rfl)) ⟨_, r4, hr4, f4.trans hfin, rfl, rfl⟩ (by repeat (first | exact List.Sublist.refl _ | apply List.Sublist.cons_cons | apply List.Sublist.cons))
  ·
    have hfin := hs1 (Decidable.of_not_not (of_decide_eq_false ht))
    refine at_skip ?_
    refine at_then ?_
    refine at_seq ?_
    refine at_region ?_
    refine at_d rfl rfl (opr_move rfl rfl) ?_
    refine at_d rfl rfl (opr_move rfl rfl) ?_
    refine at_d rfl rfl (opr_nilCheck rfl rfl) ?_
    refine at_d rfl rfl (opr_fieldAddr rfl rfl Tryd.underlying84 rfl size82 rfl rfl) ?_
    refine at_d rfl rfl (opr_load (i := 5) rfl rfl rfl Tryd.underlying82 rfl size82 (E_length _) (EE_at (k := 0) rfl rfl rfl)) ?_
    refine at_d rfl rfl (opr_nilCheck rfl rfl) ?_
    refine at_d rfl rfl (opr_fieldAddr rfl rfl Tryd.underlying84 rfl size82 rfl rfl) ?_
    refine at_d rfl rfl (opr_store (i := 5) rfl rfl rfl rfl rfl size82 (E_length _) (by rw [EE_length]; exact Nat.le_of_ble_eq_true rfl) (E_flat _) (EE_set (k := 3) (Nat.le_of_ble_eq_true rfl) rfl)) ?_
    refine at_nil ?_
    refine at_then ?_
    refine at_seq ?_
    refine at_region ?_
    refine at_d rfl rfl (opr_move rfl rfl) ?_
    refine at_d rfl rfl (opr_move rfl rfl) ?_
    refine at_d rfl rfl (opr_nilCheck rfl rfl) ?_
    refine at_d rfl rfl (opr_fieldAddr rfl rfl Tryd.underlying84 rfl size82 rfl rfl) ?_
    refine at_d rfl rfl (opr_load (i := 5) rfl rfl rfl Tryd.underlying82 rfl size82 (E_length _) (EE_at (k := 1) rfl rfl rfl)) ?_
    refine at_d rfl rfl (opr_nilCheck rfl rfl) ?_
    refine at_d rfl rfl (opr_fieldAddr rfl rfl Tryd.underlying84 rfl size82 rfl rfl) ?_
    refine at_d rfl rfl (opr_store (i := 5) rfl rfl rfl rfl rfl size82 (E_length _) (by rw [EE_length]; exact Nat.le_of_ble_eq_true rfl) (E_flat _) (EE_set (k := 4) (Nat.le_of_ble_eq_true rfl) rfl)) ?_
    refine at_nil ?_
    refine at_then ?_
    refine at_seq ?_
    refine at_region ?_
    refine at_d rfl rfl (opr_move rfl rfl) ?_
    refine at_d rfl rfl (opr_call rfl rfl rfl Tryd.func83 (by kernel_rfl) rfl (fOne_ct)) ?_
    refine at_d rfl rfl (opr_nilCheck rfl rfl) ?_
    refine at_d rfl rfl (opr_fieldAddr rfl rfl Tryd.underlying84 rfl size82 rfl rfl) ?_
    refine at_d rfl rfl (opr_store (i := 5) rfl rfl rfl rfl rfl size82 (E_length _) (by rw [EE_length]; exact Nat.le_of_ble_eq_true rfl) (E_flat _) (EE_set (k := 2) (Nat.le_of_ble_eq_true rfl) rfl)) ?_
    refine at_nil ?_
    refine at_then ?_
    refine at_seq ?_
    refine at_region ?_
    refine at_d rfl rfl (opr_move rfl rfl) ?_
    refine at_d rfl rfl (opr_assign rfl rfl) ?_
    refine at_d rfl rfl (opr_assign rfl rfl) ?_
    refine at_nil ?_
    refine at_then ?_
    refine at_ret ?_
    exact done_of (res2 Tryd.results55 (res_tmp rfl) (res_tmp rfl)) ⟨_, rr % pp, modp_lt _, hfin, rfl, rfl⟩ (by repeat (first | exact List.Sublist.refl _ | apply List.Sublist.cons_cons | apply List.Sublist.cons))
theorem fromBytesF_ct {M : Mem} {ig Tp jd Td : Nat} (hG : M[ig]? = some ⟨3, Tp, EE [pp]⟩) (hD : M[jd]? = some ⟨0, Td, EE [dP]⟩) {ix gx Tx c y s : Nat} {cs : List Value} (hX : M[ix]? = some ⟨gx, Tx, cs⟩) (hcs : cs.take 57 = EB y (s * 128)) (hs : s < 2) (hc : 57 ≤ c) (hy : y < pp) (hno : ∀ X : Fin pp, X * X * (el y * el y * el dP - 1) ≠ el y * el y - 1) : Ct Tryd.prog 55 #[.slice (some ⟨gx, 0, none⟩) 57 c] M (fun v M' => ∃ X e, v = .tuple #[.pointer none, .iface X e] ∧ M' = M) := by
  have hyR : y < RR := pp_lt_RR hy
  refine ct_of (vs := [.slice (some ⟨gx, 0, none⟩) 57 c]) Tryd.func55 rfl Tryd.ntmps55 rfl fun w0 => ?_
  refine at_seq ?_
  refine at_region ?_
  refine at_d rfl rfl (opr_assign rfl rfl) ?_
  refine at_d rfl rfl (opr_assign rfl rfl) ?_
  refine at_nil ?_
  refine at_then ?_
  refine at_seq ?_
  refine at_seq ?_
  refine at_region ?_
  refine at_d rfl rfl (opr_move rfl rfl) ?_
  refine at_d rfl rfl (opr_lenS (n := 57) rfl rfl Tryd.underlying38) ?_
  refine at_d rfl rfl (opr_binOp (v := .bool false) rfl rfl rfl (fun _ => rfl)) ?_
  refine at_nil ?_
  refine at_then ?_
  refine at_cond_false rfl ?_
  refine at_skip ?_
  refine at_then ?_
  refine at_seq ?_
  refine at_region ?_
  refine at_c rfl rfl (opr_call rfl rfl rfl Tryd.func80 (by kernel_rfl) rfl (errNew_ct)) ?_
  rintro _ _ ⟨⟨Xe, xe, rfl⟩, rfl⟩
  refine at_d rfl rfl (opr_assign rfl rfl) ?_
  refine at_nil ?_
  refine at_then ?_
  refine at_seq ?_
  refine at_region ?_
  refine at_d rfl rfl (opr_buildE (ds := EE [0, 0, 0, 0, 0]) rfl rfl (builtp84 [] rfl) rfl) ?_
  refine at_n rfl rfl (opr_box rfl rfl rfl) ?_
  intro g0
  refine at_d rfl rfl (opr_assign rfl rfl) ?_
  refine at_nil ?_
  refine at_then ?_
  refine at_seq ?_
  refine at_seq ?_
  refine at_region ?_
  refine at_d rfl rfl (opr_move rfl rfl) ?_
  refine at_d rfl rfl (opr_indexAddrS (j := 56) rfl rfl rfl Tryd.underlying38 (by decide) size5 rfl) ?_
  refine at_d rfl rfl (opr_load1 (i := ix + 1) rfl rfl hX Tryd.underlying5 rfl (cs_last hcs)) ?_
  refine at_d rfl rfl (opr_eq' (opr_and8 (a := s * 128) (b := 127) rfl rfl rfl (by omega) (by decide)) (u8_eq' (b := 0) (and127 hs))) ?_
  refine at_d rfl rfl (opr_eq' (opr_neq (a := 0) (b := 0) rfl rfl rfl) (congrArg Value.bool (decide_eq_false (fun h => h rfl)))) ?_
  refine at_nil ?_
  refine at_then ?_
  refine at_cond_false rfl ?_
  refine at_skip ?_
  refine at_then ?_
  refine at_seq ?_
  refine at_region ?_
  refine at_d rfl rfl (opr_move rfl rfl) ?_
  refine at_d rfl rfl (opr_indexAddrS (j := 56) rfl rfl rfl Tryd.underlying38 (by decide) size5 rfl) ?_
  refine at_d rfl rfl (opr_load1 (i := ix + 1) rfl rfl hX Tryd.underlying5 rfl (cs_last hcs)) ?_
  refine at_d rfl rfl (opr_eq' (opr_shr8 (a := s * 128) (n := 7) rfl rfl rfl (by decide)) (u8_eq' (b := s) (by omega))) ?_
  refine at_d rfl rfl (opr_assign rfl rfl) ?_
  refine at_nil ?_
  refine at_then ?_
  refine at_seq ?_
  refine at_draw (by kernel_rfl) (by kernel_rfl) (by kernel_rfl) (List.cons_ne_nil _ _) ?_
  refine dr_op rfl rfl (opr_move rfl rfl) ?_
  refine dr_op rfl rfl (opr_nilCheck rfl rfl) ?_
  refine dr_op rfl rfl (opr_fieldAddr rfl rfl Tryd.underlying84 rfl size82 rfl rfl) ?_
  refine dr_op rfl rfl (opr_sliceAll rfl rfl Tryd.underlying82 rfl size5) ?_
  refine dr_op rfl rfl (opr_move rfl rfl) ?_
  refine dr_op rfl rfl (opr_sliceSHi (b := 56) rfl rfl rfl Tryd.underlying38 size5 (by omega) (by omega)) ?_
  refine dr_last rfl rfl (opr_copy (i := 0) (j := ix + 1) (n := 56) (vs := E y) rfl rfl rfl rfl hX Tryd.underlying38 size5 rfl (E_length _) (cs_head hcs) (by rw [EE_length]; decide) (E_flat _) (EE_set (k := 1) (Nat.le_of_ble_eq_true rfl) rfl)) ?_
  refine at_then ?_
  refine at_seq ?_
  refine at_region ?_
  refine at_d rfl rfl (opr_call rfl rfl rfl Tryd.func81 (by kernel_rfl) rfl (fP_ct (ig := ig + 1) hG)) ?_
  refine at_n rfl rfl (opr_alloc rfl zero82 rfl) ?_
  intro g1
  refine at_d rfl rfl (opr_store (i := 0) rfl rfl rfl rfl rfl size82 (E_length _) (by rw [EE_length]; exact Nat.le_of_ble_eq_true rfl) (E_flat _) (EE_set (k := 0) (Nat.le_of_ble_eq_true rfl) rfl)) ?_
  refine at_nil ?_
  refine at_then ?_
  refine at_seq ?_
  refine at_seq ?_
  refine at_drawQ (by kernel_rfl) (by kernel_rfl) (List.cons_ne_nil _ _) ?_
  refine dr_op rfl rfl (opr_move rfl rfl) ?_
  refine dr_op rfl rfl (opr_nilCheck rfl rfl) ?_
  refine dr_op rfl rfl (opr_fieldAddr rfl rfl Tryd.underlying84 rfl size82 rfl rfl) ?_
  refine dr_op rfl rfl (opr_sliceAll rfl rfl Tryd.underlying82 rfl size5) ?_
  refine dr_op rfl rfl (opr_sliceAll rfl rfl Tryd.underlying82 rfl size5) ?_
  refine dr_op rfl rfl (opr_call rfl rfl rfl Tryd.func82 (by kernel_rfl) rfl (isLess_ct (ix := 1) (iy := 0) (kx := 1) (ky := 0) rfl rfl rfl rfl rfl rfl hyR RR_pp (decide_eq_true hy))) ?_
  refine dr_last rfl rfl (opr_unOp (u := .bool false) rfl rfl (fun _ => rfl)) ?_
  refine ⟨rfl, ?_⟩
  refine at_then ?_
  refine at_cond_false rfl ?_
  refine at_skip ?_
  refine at_then ?_
  refine at_seq ?_
  refine at_region ?_
  refine at_d rfl rfl (opr_buildE (ds := E 0) rfl rfl builtz82 rfl) ?_
  refine at_n rfl rfl (opr_box (cs := EE [0]) rfl rfl (E_box _)) ?_
  intro g2
  refine at_d rfl rfl (opr_buildE (ds := E 0) rfl rfl builtz82 rfl) ?_
  refine at_n rfl rfl (opr_box (cs := EE [0]) rfl rfl (E_box _)) ?_
  intro g3
  refine at_d rfl rfl (opr_assign rfl rfl) ?_
  refine at_d rfl rfl (opr_assign rfl rfl) ?_
  refine at_nil ?_
  refine at_then ?_
  refine at_seq ?_
  refine at_region ?_
  refine at_d rfl rfl (opr_call rfl rfl rfl Tryd.func83 (by kernel_rfl) rfl (fOne_ct)) ?_
  refine at_n rfl rfl (opr_alloc rfl zero82 rfl) ?_
  intro g4
  refine at_d rfl rfl (opr_store (i := 0) rfl rfl rfl rfl rfl size82 (E_length _) (by rw [EE_length]; exact Nat.le_of_ble_eq_true rfl) (E_flat _) (EE_set (k := 0) (Nat.le_of_ble_eq_true rfl) rfl)) ?_
  refine at_nil ?_
  refine at_then ?_
  refine at_seq ?_
  refine at_region ?_
  refine at_d rfl rfl (opr_move rfl rfl) ?_
  refine at_d rfl rfl (opr_move rfl rfl) ?_
  refine at_d rfl rfl (opr_nilCheck rfl rfl) ?_
  refine at_d rfl rfl (opr_fieldAddr rfl rfl Tryd.underlying84 rfl size82 rfl rfl) ?_
  refine at_c rfl rfl (opr_call rfl rfl rfl Tryd.func84 (by kernel_rfl) rfl (Sqr_el (iz := 2) (ix := 4) (kz := 0) (kx := 1) rfl (Nat.le_of_ble_eq_true rfl) rfl rfl rfl rfl hyR)) ?_
  rintro _ _ ⟨r0, hr0, f0, rfl, rfl⟩
  refine at_nil ?_
  refine at_then ?_
  refine at_seq ?_
  refine at_region ?_
  refine at_d rfl rfl (opr_load (i := jd + 5) rfl rfl hD Tryd.underlying82 rfl size82 (E_length _) (EE_at (k := 0) rfl rfl rfl)) ?_
  refine at_n rfl rfl (opr_alloc rfl zero82 rfl) ?_
  intro g5
  refine at_d rfl rfl (opr_store (i := 0) rfl rfl rfl rfl rfl size82 (E_length _) (by rw [EE_length]; exact Nat.le_of_ble_eq_true rfl) (E_flat _) (EE_set (k := 0) (Nat.le_of_ble_eq_true rfl) rfl)) ?_
  refine at_nil ?_
  refine at_then ?_
  refine at_seq ?_
  refine at_region ?_
  refine at_d rfl rfl (opr_move rfl rfl) ?_
  refine at_d rfl rfl (opr_move rfl rfl) ?_
  refine at_c rfl rfl (opr_call rfl rfl rfl Tryd.func73 (by kernel_rfl) rfl (Mul_el (iz := 2) (ix := 3) (iy := 0) (kz := 0) (kx := 0) (ky := 0) rfl (Nat.le_of_ble_eq_true rfl) rfl rfl rfl rfl rfl rfl rfl hr0 (by decide))) ?_
  rintro _ _ ⟨r1, hr1, f1, rfl, rfl⟩
  refine at_nil ?_
  refine at_then ?_
  refine at_seq ?_
  refine at_region ?_
  refine at_d rfl rfl (opr_move rfl rfl) ?_
  refine at_d rfl rfl (opr_move rfl rfl) ?_
  refine at_c rfl rfl (opr_call rfl rfl rfl Tryd.func74 (by kernel_rfl) rfl (Sub_el (iz := 3) (ix := 3) (iy := 1) (kz := 0) (kx := 0) (ky := 0) rfl (Nat.le_of_ble_eq_true rfl) rfl rfl rfl rfl rfl rfl rfl hr0 RR_one)) ?_
  rintro _ _ ⟨r2, hr2, f2, rfl, rfl⟩
  refine at_nil ?_
  refine at_then ?_
  refine at_seq ?_
  refine at_region ?_
  refine at_d rfl rfl (opr_move rfl rfl) ?_
  refine at_d rfl rfl (opr_move rfl rfl) ?_
  refine at_c rfl rfl (opr_call rfl rfl rfl Tryd.func74 (by kernel_rfl) rfl (Sub_el (iz := 2) (ix := 2) (iy := 1) (kz := 0) (kx := 0) (ky := 0) rfl (Nat.le_of_ble_eq_true rfl) rfl rfl rfl rfl rfl rfl rfl hr1 RR_one)) ?_
  rintro _ _ ⟨r3, hr3, f3, rfl, rfl⟩
  refine at_nil ?_
  refine at_then ?_
  refine at_seq ?_
  refine at_region ?_
  refine at_d rfl rfl (opr_move rfl rfl) ?_
  refine at_d rfl rfl (opr_nilCheck rfl rfl) ?_
  refine at_d rfl rfl (opr_fieldAddr rfl rfl Tryd.underlying84 rfl size82 rfl rfl) ?_
  refine at_d rfl rfl (opr_move rfl rfl) ?_
  refine at_d rfl rfl (opr_move rfl rfl) ?_
  refine at_c rfl rfl (opr_call rfl rfl rfl Tryd.func85 (by kernel_rfl) rfl (InvSqrt_ct (ig := ig + 6) (iz := 5) (ix := 3) (iy := 2) (kz := 0) (kx := 0) (ky := 0) hG rfl (Nat.le_of_ble_eq_true rfl) rfl rfl rfl rfl rfl rfl rfl (by omega) (by omega) (by omega) hr2 hr3)) ?_
  rintro _ _ ⟨rr, hrr, hrm, rfl, rfl⟩
  have hok := isqOk_false (a := r2) (b := r3) (Y := el y) (by rw [f2, f0, el_one]) (by rw [f3, f1, f0, el_one]) hno
  rw [hok]
  refine at_d rfl rfl (opr_assign rfl rfl) ?_
  refine at_nil ?_
  refine at_then ?_
  refine at_seq ?_
  refine at_seq ?_
  refine at_region ?_
  refine at_d rfl rfl (opr_move rfl rfl) ?_
  refine at_d rfl rfl (opr_unOp (u := .bool true) rfl rfl (fun _ => rfl)) ?_
  refine at_nil ?_
  refine at_then ?_
  refine at_cond_true rfl ?_
  refine at_seq ?_
  refine at_region ?_
  refine at_d rfl rfl (opr_move rfl rfl) ?_
  refine at_d rfl rfl (opr_assign rfl rfl) ?_
  refine at_d rfl rfl (opr_assign rfl rfl) ?_
  refine at_nil ?_
  refine at_then ?_
  refine at_ret ?_
  refine at_then_ret ?_
  exact done_of (res2 Tryd.results55 (res_tmp rfl) (res_tmp rfl)) ⟨_, _, rfl, rfl⟩ (by repeat (first | exact List.Sublist.refl _ | apply List.Sublist.cons))
theorem iDecode_ct {M : Mem} {ig Tp jd Td : Nat} (hG : M[ig]? = some ⟨3, Tp, EE [pp]⟩) (hD : M[jd]? = some ⟨0, Td, EE [dP]⟩) {ix gx Tx x y : Nat} (hX : M[ix]? = some ⟨gx, Tx, EB y (x % pp % 2 * 128)⟩) (hy : y < pp) (hx0 : ¬ x % pp = 0) (hOn : On (el dP) (el x) (el y)) : Ct Tryd.prog 25 #[.slice (some ⟨gx, 0, none⟩) 57 57] M (Det (.tuple #[.agg (EE [x % pp, y]).toArray, .bool true]) M) := by
  refine ct_of (vs := [.slice (some ⟨gx, 0, none⟩) 57 57]) Tryd.func25 rfl Tryd.ntmps25 rfl fun w0 => ?_
  refine at_seq ?_
  refine at_region ?_
  refine at_n rfl rfl (opr_alloc rfl zero24 rfl) ?_
  intro g0
  refine at_d rfl rfl (opr_assign rfl rfl) ?_
  refine at_nil ?_
  refine at_then ?_
  refine at_seq ?_
  refine at_region ?_
  refine at_d rfl rfl (opr_move rfl rfl) ?_
  refine at_c rfl rfl (opr_call rfl rfl rfl Tryd.func56 (by kernel_rfl) rfl (cloneB_ct (ix := ix + 1) hX)) ?_
  rintro _ _ ⟨q, rfl, hs1, hs2, hs3, rfl⟩
  refine at_c rfl rfl (opr_call rfl rfl rfl Tryd.func55 (by kernel_rfl) rfl (fromBytes_ct (ig := ig + 2) (jd := jd + 2) (ix := 0) hG hD rfl hs3 hs2 hy hx0 hOn)) ?_
  rintro _ _ ⟨g, x1, hx1, hel, rfl, rfl⟩
  refine at_d rfl rfl (opr_move rfl rfl) ?_
  refine at_d rfl rfl (opr_extract rfl rfl rfl) ?_
  refine at_d rfl rfl (opr_extract rfl rfl rfl) ?_
  refine at_d rfl rfl (opr_assign rfl rfl) ?_
  refine at_d rfl rfl (opr_assign rfl rfl) ?_
  refine at_nil ?_
  refine at_then ?_
  refine at_seq ?_
  refine at_seq ?_
  refine at_region ?_
  refine at_d rfl rfl (opr_move rfl rfl) ?_
  refine at_d rfl rfl (opr_neqNil rfl rfl (by kernel_rfl)) ?_
  refine at_nil ?_
  refine at_then ?_
  refine at_cond_false rfl ?_
  refine at_skip ?_
  refine at_then ?_
  refine at_seq ?_
  refine at_region ?_
  refine at_d rfl rfl (opr_move rfl rfl) ?_
  refine at_d rfl rfl (opr_call rfl rfl rfl Tryd.func57 (by kernel_rfl) rfl (plain_ct (ig := ig + 3) (ip := 0) hG rfl (by omega) hx1 (pp_lt_RR hy) RR_one)) ?_
  refine at_d rfl rfl (opr_store (i := 2) rfl rfl rfl rfl rfl size24 (EE_length _) (by rw [EE_length]; exact Nat.le_of_ble_eq_true rfl) (EE_flat _) (EE_over rfl)) ?_
  refine at_d rfl rfl (opr_assign rfl rfl) ?_
  refine at_nil ?_
  refine at_then ?_
  refine at_ret ?_
  refine done_of (res2 Tryd.results25 (res_cell (i := 2) rfl rfl Tryd.underlying24 rfl size24 (EE_length _) (EE_all rfl)) (res_tmp rfl)) ⟨?_, rfl⟩ (by repeat (first | exact List.Sublist.refl _ | apply List.Sublist.cons))
  rw [aff_mod, aff_mod, Nat.mod_eq_of_lt hy, el_eq.1 hel]
end Go.Proofs.YtjanppnnioeifaaDoor
