/- The package's functions on scalars. -/
import Derived.Test.YtjlhhcdefcofkaaGreatDoorScalB
import Derived.Test.YtjlhhcdefcofkaaGreatDoorCopyA
import Derived.Test.YtjlhhcdefcofkaaGreatDoorEq
import Derived.Test.YtjlhhcdefcofkaaGreatDoorDrawA
namespace Go.Proofs.YtjlhhcdefcofkaaGreatDoor
open Go
set_option maxRecDepth 100000
theorem zero119 : (Tryz.prog.info? 119).bind (·.zero) = some (.agg (W (List.replicate 8 0)).toArray) := by kernel_rfl
theorem builtz44 : Tryz.prog.built 44 [] = some (List.replicate 56 (Value.int .u8 0)).toArray := by kernel_rfl
theorem cadd_small {X Y : Nat} (hX : X < qq) (hY : Y < qq) : cadd X Y 7 = 0 := by
  have h1 := qq_RR
  rw [cadd_RR (by omega) (by omega)]
  have : qq + qq < RR := by decide +kernel
  exact Nat.div_eq_of_lt (by omega)
theorem sum_RR {X Y : Nat} (hX : X < qq) (hY : Y < qq) : X + Y < RR := by
  have : qq + qq < RR := by decide +kernel
  omega
def ssub (X Y : Nat) : Nat := (X + qq - Y) % qq
theorem ssub_ge {X Y : Nat} (h : Y ≤ X) : (X - Y) % qq = ssub X Y := by
  rw [ssub, show X + qq - Y = (X - Y) + qq * 1 by omega, Nat.add_mul_mod_self_left]
theorem sub_t {X Y : Nat} (hX : X ≤ qq) (hY : Y ≤ qq) (h : X < Y) : digs 18446744073709551616 7 (dsub (dsub X Y) r448) = digs 18446744073709551616 7 (X + RR - Y - r448) := by
  have h1 := qq_RR
  have h2 : r448 + qq ≤ RR := by decide +kernel
  have e : dsub X Y = X + RR - Y := by unfold dsub; rw [Nat.mod_eq_of_lt (by omega), Nat.mod_eq_of_lt (by omega)]
  rw [dsub_ge (by rw [e]; omega) (by rw [e]; omega), e]
theorem sub_t_lt {X Y : Nat} (hX : X ≤ qq) (h : X < Y) : X + RR - Y - r448 < RR := by
  have hR : 0 < RR := by decide
  omega
theorem ssub_lt {X Y : Nat} (hX : X ≤ qq) (hY : Y ≤ qq) (h : X < Y) : (X + RR - Y - r448) % qq = ssub X Y := by
  have h3 : RR = r448 + qq * (RR / qq) := (Nat.mod_add_div RR qq).symm
  have h4 : 1 ≤ RR / qq := by decide +kernel
  have e : X + RR - Y - r448 = (X + qq - Y) + qq * (RR / qq - 1) := by
    rw [Nat.mul_sub, Nat.mul_one]
    generalize qq * (RR / qq) = t at h3
    have : qq ≤ t := by have := qq_RR; have h2 : r448 + qq ≤ RR := by decide +kernel
                        omega
    omega
  rw [e, Nat.add_mul_mod_self_left, ssub]
theorem bor1 {X Y : Nat} (hX : X ≤ qq) (hY : Y ≤ qq) (h : X < Y) : cadd (dsub X Y) Y 7 = 1 := by
  have := qq_RR
  rw [csub_end (by omega) (by omega), if_pos h]
theorem bor0 {X Y : Nat} (hX : X ≤ qq) (hY : Y ≤ qq) (h : Y ≤ X) : cadd (dsub X Y) Y 7 = 0 := by
  have := qq_RR
  rw [csub_end (by omega) (by omega), if_neg (by omega)]
/-! ### The product, word by word -/
theorem word_lt (X k : Nat) : X / 18446744073709551616 ^ k % 18446744073709551616 < 18446744073709551616 := Nat.mod_lt _ (by decide)
theorem prod_lt {X y : Nat} (hX : X < RR) (hy : y < 18446744073709551616) : X * y / RR < 18446744073709551616 - 1 ∨ X * y / RR + 1 < 18446744073709551616 := by
  right
  have h1 : X * y ≤ (RR - 1) * (18446744073709551616 - 1) := Nat.mul_le_mul (by omega) (by omega)
  have h2 : X * y / RR ≤ 18446744073709551616 - 2 := by
    rw [Nat.div_le_iff_le_mul_add_pred (by decide)]
    exact Nat.le_trans h1 (by decide +kernel)
  omega
theorem prod_top {X y : Nat} (hX : X < RR) (hy : y < 18446744073709551616) : X * y / 18446744073709551616 ^ 7 % 18446744073709551616 = X * y / RR := by
  rw [← RR_B]
  have := prod_lt hX hy
  exact Nat.mod_eq_of_lt (by omega)
theorem mul_one_step (Z x : Nat) : rone (Z % RR) (Z / RR) % qq = Z % qq := by rw [rone_mod, Nat.mod_add_div]
theorem shift_top (Z : Nat) (hZ : Z < RR) : Z / 18446744073709551616 ^ 6 % 18446744073709551616 = 18446744073709551616 * Z / RR := by
  have e : RR = 18446744073709551616 * 18446744073709551616 ^ 6 := by rw [RR_B]
  rw [e, Nat.mul_div_mul_left _ _ (by decide)]
  refine Nat.mod_eq_of_lt ?_
  rw [Nat.div_lt_iff_lt_mul (powB_pos 6)]
  rw [e] at hZ
  exact hZ
/-- What a round makes of Z: a place to the left, and the product with the next word. -/
def mround (Z X y : Nat) : Nat :=
  let Z2 := rone (18446744073709551616 * Z % RR) (18446744073709551616 * Z / RR)
  rone ((Z2 + X * y) % RR) (X * y / RR + cadd Z2 (X * y) 7)
theorem cadd_RR' (X Y : Nat) : cadd X Y 7 = (X % RR + Y % RR) / RR := by unfold cadd; rw [← RR_B]
theorem mround_arg {Z2 P : Nat} (hZ : Z2 < RR) : (Z2 + P) % RR + RR * (P / RR + cadd Z2 P 7) = Z2 + P := by
  have h1 := Nat.mod_add_div P RR
  have h2 := Nat.mod_add_div (Z2 + P % RR) RR
  have e : (Z2 + P) % RR = (Z2 + P % RR) % RR := (Nat.add_mod_mod _ _ _).symm
  rw [cadd_RR', Nat.mod_eq_of_lt hZ, e, Nat.mul_add]
  omega
theorem shift_lt {Z : Nat} (hZ : Z < RR) : 18446744073709551616 * Z / RR < 18446744073709551616 := by
  rw [Nat.div_lt_iff_lt_mul (by decide)]
  exact Nat.mul_lt_mul_of_pos_left hZ (by decide)
theorem mround_mod {Z X y : Nat} (hZ : Z < RR) : mround Z X y % qq = (18446744073709551616 * Z + X * y) % qq := by
  have h0 : rone (18446744073709551616 * Z % RR) (18446744073709551616 * Z / RR) < RR := rone_lt (Nat.mod_lt _ (by decide)) (shift_lt hZ)
  unfold mround
  dsimp only
  rw [rone_mod, mround_arg h0, Nat.add_mod, mul_one_step _ 0, ← Nat.add_mod]
theorem mround_lt {Z X y : Nat} (hX : X < RR) (hy : y < 18446744073709551616) : mround Z X y < RR := by
  unfold mround
  refine rone_lt (Nat.mod_lt _ (by decide)) ?_
  have h1 := prod_lt hX hy
  have h2 := cadd_le (rone (18446744073709551616 * Z % RR) (18446744073709551616 * Z / RR)) (X * y) 7
  omega
/-- X times Y, k + 1 words of Y from the top. -/
def mulk (X Y : Nat) : Nat → Nat
  | 0 => rone (X * (Y / 18446744073709551616 ^ 6 % 18446744073709551616) % RR) (X * (Y / 18446744073709551616 ^ 6 % 18446744073709551616) / RR)
  | k + 1 => mround (mulk X Y k) X (Y / 18446744073709551616 ^ (5 - k) % 18446744073709551616)
theorem mulk_lt {X Y : Nat} (hX : X < RR) : ∀ k, mulk X Y k < RR
  | 0 => rone_lt (Nat.mod_lt _ (by decide)) (by have := prod_lt hX (word_lt Y 6); omega)
  | k + 1 => mround_lt hX (word_lt _ _)
theorem mulk_mod {X Y : Nat} (hX : X < RR) (hY : Y < RR) : ∀ k, k ≤ 6 → mulk X Y k % qq = X * (Y / 18446744073709551616 ^ (6 - k)) % qq
  | 0, _ => by
    have h : Y / 18446744073709551616 ^ 6 < 18446744073709551616 := by
      rw [Nat.div_lt_iff_lt_mul (powB_pos 6)]
      rw [RR_B, Nat.pow_succ] at hY
      rw [Nat.mul_comm]; exact hY
    rw [mulk, mul_one_step _ 0, Nat.mod_eq_of_lt h]
  | k + 1, hk => by
    have ih := mulk_mod hX hY k (by omega)
    have e1 : 6 - k = (5 - k) + 1 := by omega
    have e2 : Y / 18446744073709551616 ^ (5 - k) = 18446744073709551616 * (Y / 18446744073709551616 ^ (6 - k)) + Y / 18446744073709551616 ^ (5 - k) % 18446744073709551616 := by
      rw [e1, Nat.pow_succ, ← Nat.div_div_eq_div_mul, Nat.div_add_mod]
    rw [mulk, mround_mod (mulk_lt hX k), Nat.add_mod, Nat.mul_mod, ih, ← Nat.mul_mod, ← Nat.add_mod, show 6 - (k + 1) = 5 - k by omega]
    conv => rhs; rw [e2]
    congr 1
    rw [Nat.mul_add, Nat.mul_left_comm]
theorem mulk_end {X Y : Nat} (hX : X < RR) (hY : Y < RR) : mulk X Y 6 % qq = X * Y % qq := by
  rw [mulk_mod hX hY 6 (by decide), Nat.sub_self, Nat.pow_zero, Nat.div_one]
theorem mulk_zero (X Y : Nat) (hX : X < RR) : rone (X * (Y / 18446744073709551616 ^ 6 % 18446744073709551616) % RR) (X * (Y / 18446744073709551616 ^ 6 % 18446744073709551616) / 18446744073709551616 ^ 7 % 18446744073709551616) = mulk X Y 0 := by
  rw [prod_top hX (word_lt Y 6)]; rfl
theorem mulk_next (X Y k : Nat) (hX : X < RR) : rone ((rone (18446744073709551616 * mulk X Y k % RR) (mulk X Y k / 18446744073709551616 ^ 6 % 18446744073709551616) + X * (Y / 18446744073709551616 ^ (5 - k) % 18446744073709551616)) % RR) (X * (Y / 18446744073709551616 ^ (5 - k) % 18446744073709551616) / 18446744073709551616 ^ 7 % 18446744073709551616 + cadd (rone (18446744073709551616 * mulk X Y k % RR) (mulk X Y k / 18446744073709551616 ^ 6 % 18446744073709551616)) (X * (Y / 18446744073709551616 ^ (5 - k) % 18446744073709551616)) 7) = mulk X Y (k + 1) := by
  rw [prod_top hX (word_lt _ _), shift_top _ (mulk_lt hX k)]; rfl
theorem top_add {X Y k Z : Nat} (hX : X < RR) : X * (Y / 18446744073709551616 ^ (5 - k) % 18446744073709551616) / 18446744073709551616 ^ 7 % 18446744073709551616 + cadd Z (X * (Y / 18446744073709551616 ^ (5 - k) % 18446744073709551616)) 7 < 18446744073709551616 := by
  have h1 := prod_lt hX (word_lt Y (5 - k))
  have h2 := cadd_le Z (X * (Y / 18446744073709551616 ^ (5 - k) % 18446744073709551616)) 7
  rw [prod_top hX (word_lt _ _)]
  omega
theorem digs78 (x : Nat) : (digs 18446744073709551616 8 x).take 7 = digs 18446744073709551616 7 (x % RR) := by rw [digs_take _ (by decide), digs_RR]
theorem copy78 {l : List Nat} {x : Nat} (hl : l.length = 7) : splice (W l) 0 ((W (digs 18446744073709551616 8 x)).take 7) = W (digs 18446744073709551616 7 (x % RR)) := by
  have e : (W (digs 18446744073709551616 8 x)).take 7 = W (digs 18446744073709551616 7 (x % RR)) := by unfold W; rw [← List.map_take, digs78]
  rw [e, splice, List.take_zero, List.nil_append, List.drop_of_length_le (by simp [W, hl, digs_length]), List.append_nil]
theorem red_ct {M : Mem} {gz Tz To a : Nat} (ha : a < RR) : Ct Tryz.prog 76 #[.pointer (some ⟨gz, 0, none⟩)] (⟨gz, Tz, EE [a]⟩ :: ⟨1, To, EE [qq]⟩ :: M) (Det (.tuple #[]) (⟨gz, Tz, EE [a % qq]⟩ :: ⟨1, To, EE [qq]⟩ :: M)) := by
  refine ct_of (vs := [.pointer (some ⟨gz, 0, none⟩)]) Tryz.func76 rfl Tryz.ntmps76 rfl fun w0 => ?_
  refine at_seq ?_
  refine at_region ?_
  refine at_n rfl rfl (opr_alloc rfl zero117 rfl) ?_
  intro g0
  refine at_nil ?_
  refine at_then ?_
  refine at_seq ?_
  refine at_region ?_
  refine at_d rfl rfl (opr_move rfl rfl) ?_
  refine at_d rfl rfl (opr_call rfl rfl rfl Tryz.func68 (by kernel_rfl) rfl (ct_frame (iz := 0) (idx := [1]) (L := [⟨gz, Tz, EE [a]⟩]) rfl (by simp only [List.nodup_cons, List.mem_cons, List.not_mem_nil, or_false, not_or, not_false_eq_true, List.nodup_nil, and_true] <;> omega) rfl (idxc rfl idx0) (fromS_ct (M := []) (a := a) List.length_replicate) (by rintro _ _ ⟨rfl, rfl⟩; exact ⟨_, rfl, rfl, rfl⟩))) ?_
  refine at_nil ?_
  refine at_then ?_
  refine at_seq ?_
  refine at_region ?_
  refine at_d rfl rfl (opr_call rfl rfl rfl Tryz.func73 (by kernel_rfl) rfl (ct_frame (iz := 0) (idx := [2]) (L := [⟨1, To, EE [qq]⟩]) rfl (by simp only [List.nodup_cons, List.mem_cons, List.not_mem_nil, or_false, not_or, not_false_eq_true, List.nodup_nil, and_true] <;> omega) rfl (idxc rfl idx0) (modOrder_ct (M := []) (Z := a) ha) (by rintro _ _ ⟨rfl, rfl⟩; exact ⟨_, rfl, rfl, rfl⟩))) ?_
  refine at_nil ?_
  refine at_then ?_
  refine at_region ?_
  refine at_d rfl rfl (opr_move rfl rfl) ?_
  refine at_d rfl rfl (opr_call rfl rfl rfl Tryz.func74 (by kernel_rfl) rfl (ct_frame (iz := 1) (idx := [0]) (L := [⟨g0, 117, W ((digs 18446744073709551616 7 (a % qq)))⟩]) rfl (by simp only [List.nodup_cons, List.mem_cons, List.not_mem_nil, or_false, not_or, not_false_eq_true, List.nodup_nil, and_true] <;> omega) rfl (idxc rfl idx0) (toS_ct (M := []) (Z := (a % qq))) (by rintro _ _ ⟨rfl, rfl⟩; exact ⟨_, rfl, rfl, rfl⟩))) ?_
  refine at_nil ?_
  exact done_of (res0 Tryz.results76) ⟨rfl, rfl⟩ (by repeat (first | exact List.Sublist.refl _ | apply List.Sublist.cons))
theorem isZ_ct {M : Mem} {gz Tz To a : Nat} (ha : a < RR) : Ct Tryz.prog 48 #[.pointer (some ⟨gz, 0, none⟩)] (⟨gz, Tz, EE [a]⟩ :: ⟨1, To, EE [qq]⟩ :: M) (Det (.bool (decide (a % qq = 0))) (⟨gz, Tz, EE [a % qq]⟩ :: ⟨1, To, EE [qq]⟩ :: M)) := by
  refine ct_of (vs := [.pointer (some ⟨gz, 0, none⟩)]) Tryz.func48 rfl Tryz.ntmps48 rfl fun w0 => ?_
  refine at_seq ?_
  refine at_region ?_
  refine at_d rfl rfl (opr_assign rfl rfl) ?_
  refine at_nil ?_
  refine at_then ?_
  refine at_seq ?_
  refine at_region ?_
  refine at_d rfl rfl (opr_move rfl rfl) ?_
  refine at_d rfl rfl (opr_call rfl rfl rfl Tryz.func76 (by kernel_rfl) rfl (ct_frame (iz := 0) (idx := [1]) (L := [⟨1, To, EE [qq]⟩]) rfl (by simp only [List.nodup_cons, List.mem_cons, List.not_mem_nil, or_false, not_or, not_false_eq_true, List.nodup_nil, and_true] <;> omega) rfl (idxc rfl idx0) (red_ct (M := []) ha) (by rintro _ _ ⟨rfl, rfl⟩; exact ⟨_, rfl, rfl, rfl⟩))) ?_
  refine at_nil ?_
  refine at_then ?_
  refine at_seq ?_
  refine at_region ?_
  refine at_d rfl rfl (opr_move rfl rfl) ?_
  refine at_d rfl rfl (opr_nilCheck rfl rfl) ?_
  refine at_d rfl rfl (opr_load (i := 0) rfl rfl rfl Tryz.underlying44 rfl size44 (E_length _) (EE_at (k := 0) rfl rfl rfl)) ?_
  refine at_d rfl rfl (opr_buildE (ds := E 0) rfl rfl builtz44 rfl) ?_
  refine at_d rfl rfl (opr_eqlE rfl rfl rfl Tryz.underlying44 Tryz.underlying5 size5 (by kernel_rfl) (Nat.lt_trans (Nat.mod_lt _ (by decide)) qq_RR) (by decide)) ?_
  refine at_d rfl rfl (opr_assign rfl rfl) ?_
  refine at_nil ?_
  refine at_then ?_
  refine at_ret ?_
  refine done_of (res1 Tryz.results48 (res_tmp rfl)) ⟨rfl, rfl⟩ (by repeat (first | exact List.Sublist.refl _ | apply List.Sublist.cons))
theorem sSubZ0_ct {M : Mem} {gz gx Tz Tx To Tr X Y : Nat} (hX : X ≤ qq) (hY : Y ≤ qq) (hxy : Y ≤ X) : Ct Tryz.prog 78 #[.pointer (some ⟨gz, 0, none⟩), .pointer (some ⟨gx, 0, none⟩), .pointer (some ⟨gz, 0, none⟩)] (⟨gz, Tz, EE [Y]⟩ :: ⟨gx, Tx, EE [X]⟩ :: ⟨1, To, EE [qq]⟩ :: ⟨5, Tr, W (digs 18446744073709551616 4 r448)⟩ :: M) (Det (.tuple #[]) (⟨gz, Tz, EE [ssub X Y]⟩ :: ⟨gx, Tx, EE [X]⟩ :: ⟨1, To, EE [qq]⟩ :: ⟨5, Tr, W (digs 18446744073709551616 4 r448)⟩ :: M)) := by
  refine ct_of (vs := [.pointer (some ⟨gz, 0, none⟩), .pointer (some ⟨gx, 0, none⟩), .pointer (some ⟨gz, 0, none⟩)]) Tryz.func78 rfl Tryz.ntmps78 rfl fun w0 => ?_
  refine at_seq ?_
  refine at_region ?_
  refine at_n rfl rfl (opr_alloc rfl zero117 rfl) ?_
  intro g0
  refine at_n rfl rfl (opr_alloc rfl zero117 rfl) ?_
  intro g1
  refine at_n rfl rfl (opr_alloc rfl zero117 rfl) ?_
  intro g2
  refine at_n rfl rfl (opr_alloc rfl zero117 rfl) ?_
  intro g3
  refine at_nil ?_
  refine at_then ?_
  refine at_seq ?_
  refine at_region ?_
  refine at_d rfl rfl (opr_move rfl rfl) ?_
  refine at_d rfl rfl (opr_call rfl rfl rfl Tryz.func68 (by kernel_rfl) rfl (ct_frame (iz := 2) (idx := [5]) (L := [⟨gx, Tx, EE [X]⟩]) rfl (by simp only [List.nodup_cons, List.mem_cons, List.not_mem_nil, or_false, not_or, not_false_eq_true, List.nodup_nil, and_true] <;> omega) rfl (idxc rfl idx0) (fromS_ct (M := []) (a := X) List.length_replicate) (by rintro _ _ ⟨rfl, rfl⟩; exact ⟨_, rfl, rfl, rfl⟩))) ?_
  refine at_nil ?_
  refine at_then ?_
  refine at_seq ?_
  refine at_region ?_
  refine at_d rfl rfl (opr_move rfl rfl) ?_
  refine at_d rfl rfl (opr_call rfl rfl rfl Tryz.func68 (by kernel_rfl) rfl (ct_frame (iz := 1) (idx := [4]) (L := [⟨gz, Tz, EE [Y]⟩]) rfl (by simp only [List.nodup_cons, List.mem_cons, List.not_mem_nil, or_false, not_or, not_false_eq_true, List.nodup_nil, and_true] <;> omega) rfl (idxc rfl idx0) (fromS_ct (M := []) (a := Y) List.length_replicate) (by rintro _ _ ⟨rfl, rfl⟩; exact ⟨_, rfl, rfl, rfl⟩))) ?_
  refine at_nil ?_
  refine at_then ?_
  refine at_seq ?_
  refine at_drawK (by kernel_rfl) (by kernel_rfl) (M1 := ⟨g3, 117, W (List.replicate 7 0)⟩ :: ⟨g2, 117, W ((digs 18446744073709551616 7 (Y)))⟩ :: ⟨g1, 117, W ((digs 18446744073709551616 7 (X)))⟩ :: ⟨g0, 117, W ((digs 18446744073709551616 7 (dsub X Y)))⟩ :: ⟨gz, Tz, EE [Y]⟩ :: ⟨gx, Tx, EE [X]⟩ :: ⟨1, To, EE [qq]⟩ :: ⟨5, Tr, W ((digs 18446744073709551616 4 r448))⟩ :: M) (M2 := ⟨g3, 117, W (List.replicate 7 0)⟩ :: ⟨g2, 117, W ((digs 18446744073709551616 7 (Y)))⟩ :: ⟨g1, 117, W ((digs 18446744073709551616 7 (X)))⟩ :: ⟨g0, 117, W ((digs 18446744073709551616 7 (dsub X Y)))⟩ :: ⟨gz, Tz, EE [Y]⟩ :: ⟨gx, Tx, EE [X]⟩ :: ⟨1, To, EE [qq]⟩ :: ⟨5, Tr, W ((digs 18446744073709551616 4 r448))⟩ :: M) [0, 0, 0, 1, 0] 3 5 (by kernel_rfl) (.inr rfl) ?_
  refine drK0 rfl rfl (fun _ => opr_sliceAll rfl rfl Tryz.underlying117 rfl size29) ?_
  refine drK0 rfl rfl (fun _ => opr_sliceAll rfl rfl Tryz.underlying117 rfl size29) ?_
  refine drK0 rfl rfl (fun _ => opr_sliceAll rfl rfl Tryz.underlying117 rfl size29) ?_
  refine drK1 rfl rfl (opr_call rfl rfl rfl Tryz.func93 (by kernel_rfl) rfl (ct_frame (iz := 3) (idx := [2, 1]) (L := [⟨g1, 117, W ((digs 18446744073709551616 7 (X)))⟩, ⟨g2, 117, W ((digs 18446744073709551616 7 (Y)))⟩]) rfl (by simp only [List.nodup_cons, List.mem_cons, List.not_mem_nil, or_false, not_or, not_false_eq_true, List.nodup_nil, and_true] <;> omega) rfl (idxc rfl (idxc rfl idx0)) (sub7_ct (M := []) (X := X) (Y := Y) List.length_replicate (fun k hk => digs_get 7 _ k hk)) (by rintro _ _ ⟨rfl, rfl⟩; exact ⟨_, rfl, rfl, rfl⟩))) ?_
  refine drK0 rfl rfl (fun _ => opr_eq' (opr_assign rfl rfl) (u64_eq' (bor0 hX hY hxy))) ?_
  refine at_then ?_
  refine at_seq ?_
  refine at_draw (by kernel_rfl) (by kernel_rfl) (by kernel_rfl) (List.cons_ne_nil _ _) ?_
  refine dr_op rfl rfl (opr_sliceAll rfl rfl Tryz.underlying117 rfl size29) ?_
  refine dr_op rfl rfl (opr_sliceAll rfl rfl Tryz.underlying117 rfl size29) ?_
  refine dr_op rfl rfl (opr_sliceAll rfl rfl Tryz.underlying136 rfl size29) ?_
  refine dr_last rfl rfl (opr_call rfl rfl rfl Tryz.func93 (by kernel_rfl) rfl (ct_frame (iz := 0) (idx := [3, 7]) (L := [⟨g0, 117, W ((digs 18446744073709551616 7 (dsub X Y)))⟩, ⟨5, Tr, W ((digs 18446744073709551616 4 r448))⟩]) rfl (by simp only [List.nodup_cons, List.mem_cons, List.not_mem_nil, or_false, not_or, not_false_eq_true, List.nodup_nil, and_true] <;> omega) rfl (idxc rfl (idxc rfl idx0)) (sub4_ct (M := []) (X := dsub X Y) (Y := r448) List.length_replicate res_get (res_hi r448_lt)) (by rintro _ _ ⟨rfl, rfl⟩; exact ⟨_, rfl, rfl, rfl⟩))) ?_
  refine at_then ?_
  refine at_seq ?_
  refine at_region ?_
  refine at_d rfl rfl (opr_move rfl rfl) ?_
  refine at_d rfl rfl (opr_call rfl rfl rfl Tryz.func94 (by kernel_rfl) rfl (ct_frame (iz := 3) (idx := [0]) (L := [⟨g3, 117, W ((digs 18446744073709551616 7 (dsub (dsub X Y) r448)))⟩]) rfl (by simp only [List.nodup_cons, List.mem_cons, List.not_mem_nil, or_false, not_or, not_false_eq_true, List.nodup_nil, and_true] <;> omega) rfl (idxc rfl idx0) (sCmov0_ct (M := [])) (by rintro _ _ ⟨rfl, rfl⟩; exact ⟨_, rfl, rfl, rfl⟩))) ?_
  refine at_nil ?_
  rw [dsub_ge (Nat.lt_of_le_of_lt hX qq_RR) hxy]
  refine at_then ?_
  refine at_seq ?_
  refine at_region ?_
  refine at_d rfl rfl (opr_call rfl rfl rfl Tryz.func73 (by kernel_rfl) rfl (ct_frame (iz := 3) (idx := [6]) (L := [⟨1, To, EE [qq]⟩]) rfl (by simp only [List.nodup_cons, List.mem_cons, List.not_mem_nil, or_false, not_or, not_false_eq_true, List.nodup_nil, and_true] <;> omega) rfl (idxc rfl idx0) (modOrder_ct (M := []) (Z := (X - Y)) (Nat.lt_of_le_of_lt (Nat.sub_le _ _) (Nat.lt_of_le_of_lt hX qq_RR))) (by rintro _ _ ⟨rfl, rfl⟩; exact ⟨_, rfl, rfl, rfl⟩))) ?_
  refine at_nil ?_
  refine at_then ?_
  refine at_region ?_
  refine at_d rfl rfl (opr_move rfl rfl) ?_
  refine at_d rfl rfl (opr_call rfl rfl rfl Tryz.func74 (by kernel_rfl) rfl (ct_frame (iz := 4) (idx := [3]) (L := [⟨g0, 117, W ((digs 18446744073709551616 7 ((X - Y) % qq)))⟩]) rfl (by simp only [List.nodup_cons, List.mem_cons, List.not_mem_nil, or_false, not_or, not_false_eq_true, List.nodup_nil, and_true] <;> omega) rfl (idxc rfl idx0) (toS_ct (M := []) (Z := ((X - Y) % qq))) (by rintro _ _ ⟨rfl, rfl⟩; exact ⟨_, rfl, rfl, rfl⟩))) ?_
  refine at_nil ?_
  rw [ssub_ge hxy]
  exact done_of (res0 Tryz.results78) ⟨rfl, rfl⟩ (by repeat (first | exact List.Sublist.refl _ | apply List.Sublist.cons))
theorem sSubZ1_ct {M : Mem} {gz gx Tz Tx To Tr X Y : Nat} (hX : X ≤ qq) (hY : Y ≤ qq) (hxy : X < Y) : Ct Tryz.prog 78 #[.pointer (some ⟨gz, 0, none⟩), .pointer (some ⟨gx, 0, none⟩), .pointer (some ⟨gz, 0, none⟩)] (⟨gz, Tz, EE [Y]⟩ :: ⟨gx, Tx, EE [X]⟩ :: ⟨1, To, EE [qq]⟩ :: ⟨5, Tr, W (digs 18446744073709551616 4 r448)⟩ :: M) (Det (.tuple #[]) (⟨gz, Tz, EE [ssub X Y]⟩ :: ⟨gx, Tx, EE [X]⟩ :: ⟨1, To, EE [qq]⟩ :: ⟨5, Tr, W (digs 18446744073709551616 4 r448)⟩ :: M)) := by
  refine ct_of (vs := [.pointer (some ⟨gz, 0, none⟩), .pointer (some ⟨gx, 0, none⟩), .pointer (some ⟨gz, 0, none⟩)]) Tryz.func78 rfl Tryz.ntmps78 rfl fun w0 => ?_
  refine at_seq ?_
  refine at_region ?_
  refine at_n rfl rfl (opr_alloc rfl zero117 rfl) ?_
  intro g0
  refine at_n rfl rfl (opr_alloc rfl zero117 rfl) ?_
  intro g1
  refine at_n rfl rfl (opr_alloc rfl zero117 rfl) ?_
  intro g2
  refine at_n rfl rfl (opr_alloc rfl zero117 rfl) ?_
  intro g3
  refine at_nil ?_
  refine at_then ?_
  refine at_seq ?_
  refine at_region ?_
  refine at_d rfl rfl (opr_move rfl rfl) ?_
  refine at_d rfl rfl (opr_call rfl rfl rfl Tryz.func68 (by kernel_rfl) rfl (ct_frame (iz := 2) (idx := [5]) (L := [⟨gx, Tx, EE [X]⟩]) rfl (by simp only [List.nodup_cons, List.mem_cons, List.not_mem_nil, or_false, not_or, not_false_eq_true, List.nodup_nil, and_true] <;> omega) rfl (idxc rfl idx0) (fromS_ct (M := []) (a := X) List.length_replicate) (by rintro _ _ ⟨rfl, rfl⟩; exact ⟨_, rfl, rfl, rfl⟩))) ?_
  refine at_nil ?_
  refine at_then ?_
  refine at_seq ?_
  refine at_region ?_
  refine at_d rfl rfl (opr_move rfl rfl) ?_
  refine at_d rfl rfl (opr_call rfl rfl rfl Tryz.func68 (by kernel_rfl) rfl (ct_frame (iz := 1) (idx := [4]) (L := [⟨gz, Tz, EE [Y]⟩]) rfl (by simp only [List.nodup_cons, List.mem_cons, List.not_mem_nil, or_false, not_or, not_false_eq_true, List.nodup_nil, and_true] <;> omega) rfl (idxc rfl idx0) (fromS_ct (M := []) (a := Y) List.length_replicate) (by rintro _ _ ⟨rfl, rfl⟩; exact ⟨_, rfl, rfl, rfl⟩))) ?_
  refine at_nil ?_
  refine at_then ?_
  refine at_seq ?_
  refine at_drawK (by kernel_rfl) (by kernel_rfl) (M1 := ⟨g3, 117, W (List.replicate 7 0)⟩ :: ⟨g2, 117, W ((digs 18446744073709551616 7 (Y)))⟩ :: ⟨g1, 117, W ((digs 18446744073709551616 7 (X)))⟩ :: ⟨g0, 117, W ((digs 18446744073709551616 7 (dsub X Y)))⟩ :: ⟨gz, Tz, EE [Y]⟩ :: ⟨gx, Tx, EE [X]⟩ :: ⟨1, To, EE [qq]⟩ :: ⟨5, Tr, W ((digs 18446744073709551616 4 r448))⟩ :: M) (M2 := ⟨g3, 117, W (List.replicate 7 0)⟩ :: ⟨g2, 117, W ((digs 18446744073709551616 7 (Y)))⟩ :: ⟨g1, 117, W ((digs 18446744073709551616 7 (X)))⟩ :: ⟨g0, 117, W ((digs 18446744073709551616 7 (dsub X Y)))⟩ :: ⟨gz, Tz, EE [Y]⟩ :: ⟨gx, Tx, EE [X]⟩ :: ⟨1, To, EE [qq]⟩ :: ⟨5, Tr, W ((digs 18446744073709551616 4 r448))⟩ :: M) [0, 0, 0, 1, 0] 3 5 (by kernel_rfl) (.inr rfl) ?_
  refine drK0 rfl rfl (fun _ => opr_sliceAll rfl rfl Tryz.underlying117 rfl size29) ?_
  refine drK0 rfl rfl (fun _ => opr_sliceAll rfl rfl Tryz.underlying117 rfl size29) ?_
  refine drK0 rfl rfl (fun _ => opr_sliceAll rfl rfl Tryz.underlying117 rfl size29) ?_
  refine drK1 rfl rfl (opr_call rfl rfl rfl Tryz.func93 (by kernel_rfl) rfl (ct_frame (iz := 3) (idx := [2, 1]) (L := [⟨g1, 117, W ((digs 18446744073709551616 7 (X)))⟩, ⟨g2, 117, W ((digs 18446744073709551616 7 (Y)))⟩]) rfl (by simp only [List.nodup_cons, List.mem_cons, List.not_mem_nil, or_false, not_or, not_false_eq_true, List.nodup_nil, and_true] <;> omega) rfl (idxc rfl (idxc rfl idx0)) (sub7_ct (M := []) (X := X) (Y := Y) List.length_replicate (fun k hk => digs_get 7 _ k hk)) (by rintro _ _ ⟨rfl, rfl⟩; exact ⟨_, rfl, rfl, rfl⟩))) ?_
  refine drK0 rfl rfl (fun _ => opr_eq' (opr_assign rfl rfl) (u64_eq' (bor1 hX hY hxy))) ?_
  refine at_then ?_
  refine at_seq ?_
  refine at_draw (by kernel_rfl) (by kernel_rfl) (by kernel_rfl) (List.cons_ne_nil _ _) ?_
  refine dr_op rfl rfl (opr_sliceAll rfl rfl Tryz.underlying117 rfl size29) ?_
  refine dr_op rfl rfl (opr_sliceAll rfl rfl Tryz.underlying117 rfl size29) ?_
  refine dr_op rfl rfl (opr_sliceAll rfl rfl Tryz.underlying136 rfl size29) ?_
  refine dr_last rfl rfl (opr_call rfl rfl rfl Tryz.func93 (by kernel_rfl) rfl (ct_frame (iz := 0) (idx := [3, 7]) (L := [⟨g0, 117, W ((digs 18446744073709551616 7 (dsub X Y)))⟩, ⟨5, Tr, W ((digs 18446744073709551616 4 r448))⟩]) rfl (by simp only [List.nodup_cons, List.mem_cons, List.not_mem_nil, or_false, not_or, not_false_eq_true, List.nodup_nil, and_true] <;> omega) rfl (idxc rfl (idxc rfl idx0)) (sub4_ct (M := []) (X := dsub X Y) (Y := r448) List.length_replicate res_get (res_hi r448_lt)) (by rintro _ _ ⟨rfl, rfl⟩; exact ⟨_, rfl, rfl, rfl⟩))) ?_
  refine at_then ?_
  refine at_seq ?_
  refine at_region ?_
  refine at_d rfl rfl (opr_move rfl rfl) ?_
  refine at_d rfl rfl (opr_call rfl rfl rfl Tryz.func94 (by kernel_rfl) rfl (ct_frame (iz := 3) (idx := [0]) (L := [⟨g3, 117, W ((digs 18446744073709551616 7 (dsub (dsub X Y) r448)))⟩]) rfl (by simp only [List.nodup_cons, List.mem_cons, List.not_mem_nil, or_false, not_or, not_false_eq_true, List.nodup_nil, and_true] <;> omega) rfl (idxc rfl idx0) (sCmov1_ct (M := [])) (by rintro _ _ ⟨rfl, rfl⟩; exact ⟨_, rfl, rfl, rfl⟩))) ?_
  refine at_nil ?_
  rw [sub_t hX hY hxy]
  refine at_then ?_
  refine at_seq ?_
  refine at_region ?_
  refine at_d rfl rfl (opr_call rfl rfl rfl Tryz.func73 (by kernel_rfl) rfl (ct_frame (iz := 3) (idx := [6]) (L := [⟨1, To, EE [qq]⟩]) rfl (by simp only [List.nodup_cons, List.mem_cons, List.not_mem_nil, or_false, not_or, not_false_eq_true, List.nodup_nil, and_true] <;> omega) rfl (idxc rfl idx0) (modOrder_ct (M := []) (Z := (X + RR - Y - r448)) (sub_t_lt hX hxy)) (by rintro _ _ ⟨rfl, rfl⟩; exact ⟨_, rfl, rfl, rfl⟩))) ?_
  refine at_nil ?_
  refine at_then ?_
  refine at_region ?_
  refine at_d rfl rfl (opr_move rfl rfl) ?_
  refine at_d rfl rfl (opr_call rfl rfl rfl Tryz.func74 (by kernel_rfl) rfl (ct_frame (iz := 4) (idx := [3]) (L := [⟨g0, 117, W ((digs 18446744073709551616 7 ((X + RR - Y - r448) % qq)))⟩]) rfl (by simp only [List.nodup_cons, List.mem_cons, List.not_mem_nil, or_false, not_or, not_false_eq_true, List.nodup_nil, and_true] <;> omega) rfl (idxc rfl idx0) (toS_ct (M := []) (Z := ((X + RR - Y - r448) % qq))) (by rintro _ _ ⟨rfl, rfl⟩; exact ⟨_, rfl, rfl, rfl⟩))) ?_
  refine at_nil ?_
  rw [ssub_lt hX hY hxy]
  exact done_of (res0 Tryz.results78) ⟨rfl, rfl⟩ (by repeat (first | exact List.Sublist.refl _ | apply List.Sublist.cons))
theorem sSubZ_ct {M : Mem} {gz gx Tz Tx To Tr X Y : Nat} (hX : X ≤ qq) (hY : Y ≤ qq) : Ct Tryz.prog 78 #[.pointer (some ⟨gz, 0, none⟩), .pointer (some ⟨gx, 0, none⟩), .pointer (some ⟨gz, 0, none⟩)] (⟨gz, Tz, EE [Y]⟩ :: ⟨gx, Tx, EE [X]⟩ :: ⟨1, To, EE [qq]⟩ :: ⟨5, Tr, W (digs 18446744073709551616 4 r448)⟩ :: M) (Det (.tuple #[]) (⟨gz, Tz, EE [ssub X Y]⟩ :: ⟨gx, Tx, EE [X]⟩ :: ⟨1, To, EE [qq]⟩ :: ⟨5, Tr, W (digs 18446744073709551616 4 r448)⟩ :: M)) :=
  (Nat.lt_or_ge X Y).elim (sSubZ1_ct hX hY) (sSubZ0_ct hX hY)
theorem neg_ct {M : Mem} {gz Tz To Tr Y : Nat} (hY : Y ≤ qq) : Ct Tryz.prog 50 #[.pointer (some ⟨gz, 0, none⟩)] (⟨gz, Tz, EE [Y]⟩ :: ⟨1, To, EE [qq]⟩ :: ⟨5, Tr, W (digs 18446744073709551616 4 r448)⟩ :: M) (Det (.tuple #[]) (⟨gz, Tz, EE [ssub qq Y]⟩ :: ⟨1, To, EE [qq]⟩ :: ⟨5, Tr, W (digs 18446744073709551616 4 r448)⟩ :: M)) := by
  refine ct_of (vs := [.pointer (some ⟨gz, 0, none⟩)]) Tryz.func50 rfl Tryz.ntmps50 rfl fun w0 => ?_
  refine at_seq ?_
  refine at_region ?_
  refine at_d rfl rfl (opr_load (i := 1) rfl rfl rfl Tryz.underlying44 rfl size44 (E_length _) (EE_at (k := 0) rfl rfl rfl)) ?_
  refine at_n rfl rfl (opr_alloc rfl zero44 rfl) ?_
  intro g0
  refine at_d rfl rfl (opr_store (i := 0) rfl rfl rfl rfl rfl size44 (E_length _) (by rw [EE_length]; exact Nat.le_of_ble_eq_true rfl) (E_flat _) (EE_set (k := 0) (Nat.le_of_ble_eq_true rfl) rfl)) ?_
  refine at_nil ?_
  refine at_then ?_
  refine at_region ?_
  refine at_d rfl rfl (opr_move rfl rfl) ?_
  refine at_d rfl rfl (opr_move rfl rfl) ?_
  refine at_d rfl rfl (opr_call rfl rfl rfl Tryz.func78 (by kernel_rfl) rfl (ct_frame (iz := 1) (idx := [0, 2, 3]) (L := [⟨g0, 44, EE [qq]⟩, ⟨1, To, EE [qq]⟩, ⟨5, Tr, W ((digs 18446744073709551616 4 r448))⟩]) rfl (by simp only [List.nodup_cons, List.mem_cons, List.not_mem_nil, or_false, not_or, not_false_eq_true, List.nodup_nil, and_true] <;> omega) rfl (idxc rfl (idxc rfl (idxc rfl idx0))) (sSubZ_ct (M := []) (X := qq) (Y := Y) (Nat.le_refl _) hY) (by rintro _ _ ⟨rfl, rfl⟩; exact ⟨_, rfl, rfl, rfl⟩))) ?_
  refine at_nil ?_
  exact done_of (res0 Tryz.results50) ⟨rfl, rfl⟩ (by repeat (first | exact List.Sublist.refl _ | apply List.Sublist.cons))
theorem sMul'_ct {M : Mem} {gz gx gy Tz Tx Ty To Tr c X Y : Nat} (hX : X < RR) (hY : Y < RR) : Ct Tryz.prog 46 #[.pointer (some ⟨gz, 0, none⟩), .pointer (some ⟨gx, 0, none⟩), .pointer (some ⟨gy, 0, none⟩)] (⟨gz, Tz, EE [c]⟩ :: ⟨gx, Tx, EE [X]⟩ :: ⟨gy, Ty, EE [Y]⟩ :: ⟨1, To, EE [qq]⟩ :: ⟨5, Tr, W (digs 18446744073709551616 4 r448)⟩ :: M) (Det (.tuple #[]) (⟨gz, Tz, EE [X * Y % qq]⟩ :: ⟨gx, Tx, EE [X]⟩ :: ⟨gy, Ty, EE [Y]⟩ :: ⟨1, To, EE [qq]⟩ :: ⟨5, Tr, W (digs 18446744073709551616 4 r448)⟩ :: M)) := by
  refine ct_of (vs := [.pointer (some ⟨gz, 0, none⟩), .pointer (some ⟨gx, 0, none⟩), .pointer (some ⟨gy, 0, none⟩)]) Tryz.func46 rfl Tryz.ntmps46 rfl fun w0 => ?_
  refine at_seq ?_
  refine at_region ?_
  refine at_n rfl rfl (opr_alloc rfl zero117 rfl) ?_
  intro g0
  refine at_n rfl rfl (opr_alloc rfl zero117 rfl) ?_
  intro g1
  refine at_n rfl rfl (opr_alloc rfl zero117 rfl) ?_
  intro g2
  refine at_nil ?_
  refine at_then ?_
  refine at_seq ?_
  refine at_region ?_
  refine at_d rfl rfl (opr_build0 rfl zero119 rfl Tryz.underlying119 size29) ?_
  refine at_n rfl rfl (opr_box rfl rfl rfl) ?_
  intro g3
  refine at_d rfl rfl (opr_nilCheck rfl rfl) ?_
  refine at_d rfl rfl (opr_sliceAll rfl rfl Tryz.underlying119 rfl size29) ?_
  refine at_d rfl rfl (opr_assign rfl rfl) ?_
  refine at_nil ?_
  refine at_then ?_
  refine at_seq ?_
  refine at_region ?_
  refine at_d rfl rfl (opr_move rfl rfl) ?_
  refine at_d rfl rfl (opr_call rfl rfl rfl Tryz.func68 (by kernel_rfl) rfl (ct_frame (iz := 2) (idx := [5]) (L := [⟨gx, Tx, EE [X]⟩]) rfl (by simp only [List.nodup_cons, List.mem_cons, List.not_mem_nil, or_false, not_or, not_false_eq_true, List.nodup_nil, and_true] <;> omega) rfl (idxc rfl idx0) (fromS_ct (M := []) (a := X) List.length_replicate) (by rintro _ _ ⟨rfl, rfl⟩; exact ⟨_, rfl, rfl, rfl⟩))) ?_
  refine at_nil ?_
  refine at_then ?_
  refine at_seq ?_
  refine at_region ?_
  refine at_d rfl rfl (opr_move rfl rfl) ?_
  refine at_d rfl rfl (opr_call rfl rfl rfl Tryz.func68 (by kernel_rfl) rfl (ct_frame (iz := 1) (idx := [6]) (L := [⟨gy, Ty, EE [Y]⟩]) rfl (by simp only [List.nodup_cons, List.mem_cons, List.not_mem_nil, or_false, not_or, not_false_eq_true, List.nodup_nil, and_true] <;> omega) rfl (idxc rfl idx0) (fromS_ct (M := []) (a := Y) List.length_replicate) (by rintro _ _ ⟨rfl, rfl⟩; exact ⟨_, rfl, rfl, rfl⟩))) ?_
  refine at_nil ?_
  refine at_then ?_
  refine at_seq ?_
  refine at_draw (by kernel_rfl) (by kernel_rfl) (by kernel_rfl) (List.cons_ne_nil _ _) ?_
  refine dr_op rfl rfl (opr_move rfl rfl) ?_
  refine dr_op rfl rfl (opr_sliceAll rfl rfl Tryz.underlying117 rfl size29) ?_
  refine dr_op rfl rfl (opr_indexAddr (j := 6) rfl rfl rfl Tryz.underlying117 (by decide) size29 rfl) ?_
  refine dr_op rfl rfl (opr_load1 (i := 1) rfl rfl rfl Tryz.underlying29 rfl (W_get (digs_get 7 Y 6 (by omega)))) ?_
  refine dr_last rfl rfl (opr_call rfl rfl rfl Tryz.func69 (by kernel_rfl) rfl (ct_frame (iz := 0) (idx := [2]) (L := [⟨g1, 117, W ((digs 18446744073709551616 7 (X)))⟩]) rfl (by simp only [List.nodup_cons, List.mem_cons, List.not_mem_nil, or_false, not_or, not_false_eq_true, List.nodup_nil, and_true] <;> omega) rfl (idxc rfl idx0) (mulWord7_ct (M := []) (X := X) (y := Y / 18446744073709551616 ^ 6 % 18446744073709551616) List.length_replicate (RR_B ▸ hX) (dig_lt Y 6)) (by rintro _ _ ⟨rfl, rfl⟩; exact ⟨_, rfl, rfl, rfl⟩))) ?_
  refine at_then ?_
  refine at_seq ?_
  refine at_draw (by kernel_rfl) (by kernel_rfl) (by kernel_rfl) (List.cons_ne_nil _ _) ?_
  refine dr_op rfl rfl (opr_sliceAll rfl rfl Tryz.underlying117 rfl size29) ?_
  refine dr_op rfl rfl (opr_move rfl rfl) ?_
  refine dr_op rfl rfl (opr_sliceSHi (b := 7) rfl rfl rfl Tryz.underlying79 size29 (by decide) (by decide)) ?_
  refine dr_last rfl rfl (opr_copy (i := 3) (j := 0) (n := 7) rfl rfl rfl rfl rfl Tryz.underlying79 size29 rfl (by simp [W, digs_length]) rfl (by rw [W_length, List.length_replicate]; decide) (fun v hv => Wflat _ v (List.mem_of_mem_take hv)) (copy78 List.length_replicate)) ?_
  refine at_then ?_
  refine at_seq ?_
  refine at_region ?_
  refine at_d rfl rfl (opr_move rfl rfl) ?_
  refine at_d rfl rfl (opr_indexAddrS (j := 7) rfl rfl rfl Tryz.underlying79 (by decide) size29 rfl) ?_
  refine at_d rfl rfl (opr_load1 (i := 0) rfl rfl rfl Tryz.underlying29 rfl (W_get (digs_get 8 (X * (Y / 18446744073709551616 ^ 6 % 18446744073709551616)) 7 (by decide)))) ?_
  refine at_d rfl rfl (opr_call rfl rfl rfl Tryz.func70 (by kernel_rfl) rfl (ct_frame (iz := 3) (idx := [8]) (L := [⟨5, Tr, W ((digs 18446744073709551616 4 r448))⟩]) rfl (by simp only [List.nodup_cons, List.mem_cons, List.not_mem_nil, or_false, not_or, not_false_eq_true, List.nodup_nil, and_true] <;> omega) rfl (idxc rfl idx0) (redOne_ct (M := []) (Z := (X * (Y / 18446744073709551616 ^ 6 % 18446744073709551616)) % RR) (x := (X * (Y / 18446744073709551616 ^ 6 % 18446744073709551616)) / 18446744073709551616 ^ 7 % 18446744073709551616) (Nat.mod_lt _ (by decide)) (dig_lt _ 7)) (by rintro _ _ ⟨rfl, rfl⟩; exact ⟨_, rfl, rfl, rfl⟩))) ?_
  refine at_nil ?_
  rw [mulk_zero X Y hX]
  refine at_then ?_
  refine at_seq ?_
  refine at_seq ?_
  refine at_region ?_
  refine at_d rfl rfl (opr_assign rfl rfl) ?_
  refine at_nil ?_
  refine at_then ?_
  refine at_block ?_
  refine at_loop2 (fun (x : Nat) (y : List Nat) => [(0, .pointer (some ⟨gz, 0, none⟩)), (6, .pointer (some ⟨g0, 0, none⟩)), (7, .pointer (some ⟨g1, 0, none⟩)), (8, .pointer (some ⟨g2, 0, none⟩)), (9, .slice (some ⟨g3, 0, none⟩) 8 8), (10, .int .i64 (5 - (x : Int)))]) (fun (x : Nat) (y : List Nat) => ⟨g3, 119, W (y)⟩ :: ⟨g2, 117, W ((digs 18446744073709551616 7 (Y)))⟩ :: ⟨g1, 117, W ((digs 18446744073709551616 7 (X)))⟩ :: ⟨g0, 117, W ((digs 18446744073709551616 7 (mulk X Y x)))⟩ :: ⟨gz, Tz, EE [c]⟩ :: ⟨gx, Tx, EE [X]⟩ :: ⟨gy, Ty, EE [Y]⟩ :: ⟨1, To, EE [qq]⟩ :: ⟨5, Tr, W ((digs 18446744073709551616 4 r448))⟩ :: M) (fun (x : Nat) (y : List Nat) => 6 - x) (fun (x : Nat) (y : List Nat) => x ≤ 6 ∧ y.length = 8) 0 (digs 18446744073709551616 8 (X * (Y / 18446744073709551616 ^ 6 % 18446744073709551616))) ⟨Nat.zero_le _, digs_length _ _ _⟩ (allIn ⟨rfl, rfl, rfl, rfl, rfl, rfl, trivial⟩) (List.Sublist.refl _) ?_
  rintro k pl ⟨hk, hpl⟩
  dsimp only
  refine at_seq ?_
  refine at_seq ?_
  refine at_region ?_
  refine at_d rfl rfl (opr_move rfl rfl) ?_
  refine at_d rfl rfl (opr_geqZ rfl rfl rfl) ?_
  refine at_nil ?_
  refine at_then ?_
  refine at_cond rfl (fun ht => ?_) (fun ht => ?_)
  ·
    have ht' := of_decide_eq_true ht
    have hltK : k < 6 := by omega
    have ej : 5 - (k : Int) = ((5 - k : Nat) : Int) := by omega
    refine at_skip ?_
    refine at_then ?_
    refine at_seq ?_
    refine at_block ?_
    refine at_seq ?_
    refine at_region ?_
    refine at_d rfl rfl (opr_call rfl rfl rfl Tryz.func71 (by kernel_rfl) rfl (ct_frame (iz := 3) (idx := []) (L := []) rfl (by simp only [List.nodup_cons, List.mem_cons, List.not_mem_nil, or_false, not_or, not_false_eq_true, List.nodup_nil, and_true] <;> omega) rfl idx0 (leftShift_ct (M := []) (Z := mulk X Y k) (low := 0) (by decide)) (by rintro _ _ ⟨rfl, rfl⟩; exact ⟨_, rfl, rfl, rfl⟩))) ?_
    refine at_d rfl rfl (opr_assign rfl rfl) ?_
    refine at_nil ?_
    rw [show (digs 18446744073709551616 7 (0 + 18446744073709551616 * mulk X Y k)) = (digs 18446744073709551616 7 (18446744073709551616 * mulk X Y k % RR)) from by rw [Nat.zero_add, digs_RR]]
    refine at_then ?_
    refine at_seq ?_
    refine at_region ?_
    refine at_d rfl rfl (opr_move rfl rfl) ?_
    refine at_d rfl rfl (opr_call rfl rfl rfl Tryz.func70 (by kernel_rfl) rfl (ct_frame (iz := 3) (idx := [8]) (L := [⟨5, Tr, W ((digs 18446744073709551616 4 r448))⟩]) rfl (by simp only [List.nodup_cons, List.mem_cons, List.not_mem_nil, or_false, not_or, not_false_eq_true, List.nodup_nil, and_true] <;> omega) rfl (idxc rfl idx0) (redOne_ct (M := []) (Z := 18446744073709551616 * mulk X Y k % RR) (x := mulk X Y k / 18446744073709551616 ^ 6 % 18446744073709551616) (Nat.mod_lt _ (by decide)) (dig_lt _ 6)) (by rintro _ _ ⟨rfl, rfl⟩; exact ⟨_, rfl, rfl, rfl⟩))) ?_
    refine at_nil ?_
    refine at_then ?_
    refine at_seq ?_
    refine at_draw (by kernel_rfl) (by kernel_rfl) (by kernel_rfl) (List.cons_ne_nil _ _) ?_
    refine dr_op rfl rfl (opr_move rfl rfl) ?_
    refine dr_op rfl rfl (opr_sliceAll rfl rfl Tryz.underlying117 rfl size29) ?_
    refine dr_op rfl rfl (opr_move rfl rfl) ?_
    refine dr_op rfl rfl (opr_indexAddr (j := 5 - k) (off' := 5 - k) rfl rfl (by exact congrArg (fun n => some (Value.int .i64 n)) ej) Tryz.underlying117 (by omega) size29 (by omega)) ?_
    refine dr_op rfl rfl (opr_load1 (i := 1) rfl rfl rfl Tryz.underlying29 rfl (W_get (digs_get 7 Y (5 - k) (by omega)))) ?_
    refine dr_last rfl rfl (opr_call rfl rfl rfl Tryz.func69 (by kernel_rfl) rfl (ct_frame (iz := 0) (idx := [2]) (L := [⟨g1, 117, W ((digs 18446744073709551616 7 (X)))⟩]) rfl (by simp only [List.nodup_cons, List.mem_cons, List.not_mem_nil, or_false, not_or, not_false_eq_true, List.nodup_nil, and_true] <;> omega) rfl (idxc rfl idx0) (mulWord7_ct (M := []) (X := X) (y := Y / 18446744073709551616 ^ (5 - k) % 18446744073709551616) hpl (RR_B ▸ hX) (dig_lt Y _)) (by rintro _ _ ⟨rfl, rfl⟩; exact ⟨_, rfl, rfl, rfl⟩))) ?_
    refine at_then ?_
    refine at_seq ?_
    refine at_drawK (by kernel_rfl) (by kernel_rfl) (M1 := ⟨g3, 119, W ((digs 18446744073709551616 8 (X * (Y / 18446744073709551616 ^ (5 - k) % 18446744073709551616))))⟩ :: ⟨g2, 117, W ((digs 18446744073709551616 7 (Y)))⟩ :: ⟨g1, 117, W ((digs 18446744073709551616 7 (X)))⟩ :: ⟨g0, 117, W ((digs 18446744073709551616 7 (rone (18446744073709551616 * mulk X Y k % RR) (mulk X Y k / 18446744073709551616 ^ 6 % 18446744073709551616) + (X * (Y / 18446744073709551616 ^ (5 - k) % 18446744073709551616)))))⟩ :: ⟨gz, Tz, EE [c]⟩ :: ⟨gx, Tx, EE [X]⟩ :: ⟨gy, Ty, EE [Y]⟩ :: ⟨1, To, EE [qq]⟩ :: ⟨5, Tr, W ((digs 18446744073709551616 4 r448))⟩ :: M) (M2 := ⟨g3, 119, W ((digs 18446744073709551616 8 (X * (Y / 18446744073709551616 ^ (5 - k) % 18446744073709551616))))⟩ :: ⟨g2, 117, W ((digs 18446744073709551616 7 (Y)))⟩ :: ⟨g1, 117, W ((digs 18446744073709551616 7 (X)))⟩ :: ⟨g0, 117, W ((digs 18446744073709551616 7 (rone (18446744073709551616 * mulk X Y k % RR) (mulk X Y k / 18446744073709551616 ^ 6 % 18446744073709551616) + (X * (Y / 18446744073709551616 ^ (5 - k) % 18446744073709551616)))))⟩ :: ⟨gz, Tz, EE [c]⟩ :: ⟨gx, Tx, EE [X]⟩ :: ⟨gy, Ty, EE [Y]⟩ :: ⟨1, To, EE [qq]⟩ :: ⟨5, Tr, W ((digs 18446744073709551616 4 r448))⟩ :: M) [0, 0, 0, 0, 1, 0] 4 6 (by kernel_rfl) (.inr rfl) ?_
    refine drK0 rfl rfl (fun _ => opr_sliceAll rfl rfl Tryz.underlying117 rfl size29) ?_
    refine drK0 rfl rfl (fun _ => opr_sliceAll rfl rfl Tryz.underlying117 rfl size29) ?_
    refine drK0 rfl rfl (fun _ => opr_move rfl rfl) ?_
    refine drK0 rfl rfl (fun _ => opr_sliceSHi (b := 7) rfl rfl rfl Tryz.underlying79 size29 (by decide) (by decide)) ?_
    refine drK1 rfl rfl (opr_call rfl rfl rfl Tryz.func72 (by kernel_rfl) rfl (ct_frame (iz := 3) (idx := [0]) (L := [⟨g3, 119, W ((digs 18446744073709551616 8 (X * (Y / 18446744073709551616 ^ (5 - k) % 18446744073709551616))))⟩]) rfl (by simp only [List.nodup_cons, List.mem_cons, List.not_mem_nil, or_false, not_or, not_false_eq_true, List.nodup_nil, and_true] <;> omega) rfl (idxc rfl idx0) (addS7_ct (M := []) (X := rone (18446744073709551616 * mulk X Y k % RR) (mulk X Y k / 18446744073709551616 ^ 6 % 18446744073709551616)) (Y := (X * (Y / 18446744073709551616 ^ (5 - k) % 18446744073709551616))) (fun k hk => digs_get 8 _ k (by omega))) (by rintro _ _ ⟨rfl, rfl⟩; exact ⟨_, rfl, rfl, rfl⟩))) ?_
    refine drK0 rfl rfl (fun _ => opr_assign rfl rfl) ?_
    rw [show (digs 18446744073709551616 7 (rone (18446744073709551616 * mulk X Y k % RR) (mulk X Y k / 18446744073709551616 ^ 6 % 18446744073709551616) + (X * (Y / 18446744073709551616 ^ (5 - k) % 18446744073709551616)))) = (digs 18446744073709551616 7 ((rone (18446744073709551616 * mulk X Y k % RR) (mulk X Y k / 18446744073709551616 ^ 6 % 18446744073709551616) + (X * (Y / 18446744073709551616 ^ (5 - k) % 18446744073709551616))) % RR)) from by rw [digs_RR]]
    refine at_then ?_
    refine at_region ?_
    refine at_d rfl rfl (opr_move rfl rfl) ?_
    refine at_d rfl rfl (opr_indexAddrS (j := 7) rfl rfl rfl Tryz.underlying79 (by decide) size29 rfl) ?_
    refine at_d rfl rfl (opr_load1 (i := 0) rfl rfl rfl Tryz.underlying29 rfl (W_get (digs_get 8 (X * (Y / 18446744073709551616 ^ (5 - k) % 18446744073709551616)) 7 (by decide)))) ?_
    refine at_d rfl rfl (opr_move rfl rfl) ?_
    refine at_d rfl rfl (opr_eq' (opr_add64 rfl rfl rfl) (u64_eq' (Nat.mod_eq_of_lt (top_add hX)))) ?_
    refine at_d rfl rfl (opr_call rfl rfl rfl Tryz.func70 (by kernel_rfl) rfl (ct_frame (iz := 3) (idx := [8]) (L := [⟨5, Tr, W ((digs 18446744073709551616 4 r448))⟩]) rfl (by simp only [List.nodup_cons, List.mem_cons, List.not_mem_nil, or_false, not_or, not_false_eq_true, List.nodup_nil, and_true] <;> omega) rfl (idxc rfl idx0) (redOne_ct (M := []) (Z := (rone (18446744073709551616 * mulk X Y k % RR) (mulk X Y k / 18446744073709551616 ^ 6 % 18446744073709551616) + (X * (Y / 18446744073709551616 ^ (5 - k) % 18446744073709551616))) % RR) (x := (X * (Y / 18446744073709551616 ^ (5 - k) % 18446744073709551616)) / 18446744073709551616 ^ 7 % 18446744073709551616 + cadd (rone (18446744073709551616 * mulk X Y k % RR) (mulk X Y k / 18446744073709551616 ^ 6 % 18446744073709551616)) (X * (Y / 18446744073709551616 ^ (5 - k) % 18446744073709551616)) 7) (Nat.mod_lt _ (by decide)) (top_add hX)) (by rintro _ _ ⟨rfl, rfl⟩; exact ⟨_, rfl, rfl, rfl⟩))) ?_
    refine at_nil ?_
    rw [mulk_next X Y k hX]
    refine at_inBlock_normal ?_
    refine at_then ?_
    refine at_region ?_
    refine at_d rfl rfl (opr_move rfl rfl) ?_
    refine at_d rfl rfl (opr_subIZ (c := 5 - ((k + 1 : Nat) : Int)) rfl rfl rfl (by omega) (by omega) (by omega)) ?_
    refine at_d rfl rfl (opr_assign rfl rfl) ?_
    refine at_nil ?_
    exact at_round2 (k + 1) (digs 18446744073709551616 8 (X * (Y / 18446744073709551616 ^ (5 - k) % 18446744073709551616))) ⟨by omega, digs_length _ _ _⟩ (by omega) (allIn ⟨rfl, rfl, rfl, rfl, rfl, rfl, trivial⟩) (List.Sublist.refl _)
  ·
    have ht' := of_decide_eq_false ht
    obtain rfl : k = 6 := by omega
    refine at_exit ?_
    refine at_then_exit ?_
    refine at_then_exit ?_
    refine at_inBlock_same ?_
    refine at_then ?_
    refine at_seq ?_
    refine at_region ?_
    refine at_d rfl rfl (opr_call rfl rfl rfl Tryz.func73 (by kernel_rfl) rfl (ct_frame (iz := 3) (idx := [7]) (L := [⟨1, To, EE [qq]⟩]) rfl (by simp only [List.nodup_cons, List.mem_cons, List.not_mem_nil, or_false, not_or, not_false_eq_true, List.nodup_nil, and_true] <;> omega) rfl (idxc rfl idx0) (modOrder_ct (M := []) (Z := (mulk X Y 6)) (mulk_lt hX 6)) (by rintro _ _ ⟨rfl, rfl⟩; exact ⟨_, rfl, rfl, rfl⟩))) ?_
    refine at_nil ?_
    refine at_then ?_
    refine at_region ?_
    refine at_d rfl rfl (opr_move rfl rfl) ?_
    refine at_d rfl rfl (opr_call rfl rfl rfl Tryz.func74 (by kernel_rfl) rfl (ct_frame (iz := 4) (idx := [3]) (L := [⟨g0, 117, W ((digs 18446744073709551616 7 ((mulk X Y 6) % qq)))⟩]) rfl (by simp only [List.nodup_cons, List.mem_cons, List.not_mem_nil, or_false, not_or, not_false_eq_true, List.nodup_nil, and_true] <;> omega) rfl (idxc rfl idx0) (toS_ct (M := []) (Z := (mulk X Y 6 % qq))) (by rintro _ _ ⟨rfl, rfl⟩; exact ⟨_, rfl, rfl, rfl⟩))) ?_
    refine at_nil ?_
    rw [mulk_end hX hY]
    exact done_of (res0 Tryz.results46) ⟨rfl, rfl⟩ (by repeat (first | exact List.Sublist.refl _ | apply List.Sublist.cons))
end Go.Proofs.YtjlhhcdefcofkaaGreatDoor
