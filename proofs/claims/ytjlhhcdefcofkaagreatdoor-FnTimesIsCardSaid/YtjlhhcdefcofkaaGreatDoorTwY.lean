/- TwB, TwM, TwT, TwL, in one text. -/
import Derived.Test.YtjlhhcdefcofkaaGreatDoorScalC
import Derived.Test.YtjlhhcdefcofkaaGreatDoorMove
import Derived.Test.YtjlhhcdefcofkaaGreatDoorPower
import Derived.Test.YtjlhhcdefcofkaaGreatDoorDrawA
import Derived.Test.YtjlhhcdefcofkaaGreatDoorTwX
import Derived.Test.YtjlhhcdefcofkaaGreatDoorAppend
import Derived.Test.YtjlhhcdefcofkaaGreatDoorDrawJ
import Derived.Test.YtjlhhcdefcofkaaGreatDoorRefW
/- Copies under a bit, scalars recoded. -/
namespace Go.Proofs.YtjlhhcdefcofkaaGreatDoor
open Go
set_option maxRecDepth 100000

abbrev BB : Nat := 18446744073709551616
theorem opr_or8 {P : Program} {St : Slots} {M : Mem} {o : Oper} {x y : Operand} {T T' a b : Nat} (ho : o.op = .binOp .or T x y T') (hx : evalS St x = some (.int .u8 (a : Int))) (hy : evalS St y = some (.int .u8 (b : Int))) (ha : a < 256) (hb : b < 256) : OpR P St M o (Det (.int .u8 ((a ||| b : Nat) : Int)) M) := by
  have h := opr_binOp (P := P) (M := M) (v := .int .u8 (bits .or .u8 (a : Int) (b : Int))) ho hx hy (fun _ => rfl)
  rw [u8_or_nat a b ha hb] at h; exact h
theorem and255 {a : Nat} (h : a < 256) : a &&& 255 = a := by
  have := Nat.and_two_pow_sub_one_eq_mod a 8
  rw [show (2 : Nat) ^ 8 - 1 = 255 from rfl] at this
  rw [this]; exact Nat.mod_eq_of_lt h
section
variable {P : Program} {St : Slots} {M : Mem} {o : Oper} {x y : Operand} {T T' : Nat}
theorem opr_shrK {kd k' : IntKind} {a c : Int} {n : Nat} (ho : o.op = .binOp .shr T x y T') (hx : evalS St x = some (.int kd a)) (hy : evalS St y = some (.int k' (n : Int))) (hc : a.fdiv (2 ^ (min n kd.bits)) = c) : OpR P St M o (Det (.int kd c) M) :=
  hc ▸ opr_binOp (P := P) (M := M) ho hx hy (fun w => run_shr kd k' a n P T w)
theorem opr_conv {S' D : TypeId} {k k' : IntKind} {n c : Int} {d : TypeDesc} (ho : o.op = .convert S' D x) (hx : evalS St x = some (.int k n)) (hs : P.underlying S' = some d) (hd : P.underlying D = some (.int k')) (hc : k'.wrap n = c) : OpR P St M o (Det (.int k' c) M) :=
  hc ▸ opr_convert (P := P) (M := M) ho hx hs hd
theorem opr_subK {kd : IntKind} {a b c : Int} (ho : o.op = .binOp .sub T x y T') (hx : evalS St x = some (.int kd a)) (hy : evalS St y = some (.int kd b)) (hc : kd.wrap (a - b) = c) : OpR P St M o (Det (.int kd c) M) :=
  hc ▸ opr_binOp (P := P) (M := M) (v := .int kd (kd.wrap (a - b))) ho hx hy (fun _ => by cases kd <;> rfl)
end
/-! ### The digits of a scalar: odd, from -15 to 15 -/
def kz (K : Nat) : Nat → Nat
  | 0 => K
  | i + 1 => 2 * (kz K i / 32) + 1
def dz (K i : Nat) : Int := ((kz K i % 32 : Nat) : Int) - 16
theorem kz_odd {K : Nat} (h : K % 2 = 1) : ∀ i, kz K i % 2 = 1
  | 0 => h
  | i + 1 => by show (2 * (kz K i / 32) + 1) % 2 = 1; omega
theorem dz_odd {K : Nat} (h : K % 2 = 1) (i : Nat) : dz K i % 2 = 1 ∧ -15 ≤ dz K i ∧ dz K i ≤ 15 := by
  have := kz_odd h i
  unfold dz
  omega
theorem kz_next (K i : Nat) : (kz K i : Int) = dz K i + 16 * (kz K (i + 1) : Int) := by
  show _ = ((kz K i % 32 : Nat) : Int) - 16 + 16 * ((2 * (kz K i / 32) + 1 : Nat) : Int)
  omega
theorem kz_le (K : Nat) : ∀ i, kz K i ≤ K / 16 ^ i + 2
  | 0 => by show K ≤ K / 1 + 2; omega
  | i + 1 => by
    have h := kz_le K i
    have e : K / 16 ^ (i + 1) = K / 16 ^ i / 16 := by rw [Nat.pow_succ, Nat.div_div_eq_div_mul]
    show 2 * (kz K i / 32) + 1 ≤ _
    rw [e]
    generalize K / 16 ^ i = t at *
    omega
theorem kz_end {K : Nat} (ho : K % 2 = 1) (hK : K ≤ qq) : kz K 112 = 1 := by
  have h1 := kz_le K 112
  have h2 := kz_odd ho 112
  have h3 : K / 16 ^ 112 = 0 := Nat.div_eq_of_lt (Nat.lt_of_le_of_lt hK (by decide +kernel))
  omega
theorem kz_RR {K : Nat} (hK : K ≤ qq) (i : Nat) : kz K i < qq + 3 := by
  have h1 := kz_le K i
  have h2 := Nat.div_le_self K (16 ^ i)
  omega
theorem qq16 : qq + 3 + 16 < RR := by decide +kernel
/-- The digits that are there. -/
def dl (K i : Nat) : List Int := (List.range 113).map fun j => if j < i then (if j = 112 then 1 else dz K j) else 0
def i8V (d : Int) : Value := .int .i8 d
theorem dl_length (K i : Nat) : (dl K i).length = 113 := by simp [dl]
theorem dl_get {K i j : Nat} (hj : j < 113) : (dl K i)[j]? = some (if j < i then (if j = 112 then 1 else dz K j) else 0) := by
  rw [dl, List.getElem?_map, List.getElem?_range hj]; rfl
theorem dl_put {K i : Nat} (hi : i < 113) : (dl K i).set i (if i = 112 then 1 else dz K i) = dl K (i + 1) := by
  apply List.ext_getElem?
  intro j
  by_cases hj : j < 113
  · rw [dl_get hj]
    by_cases e : i = j
    · subst e
      rw [List.getElem?_set_self (by rw [dl_length]; exact hj), if_pos (show i < i + 1 by omega)]
    · rw [List.getElem?_set_ne e, dl_get hj]
      by_cases h : j < i
      · rw [if_pos h, if_pos (show j < i + 1 by omega)]
      · rw [if_neg h, if_neg (show ¬ j < i + 1 by omega)]
  · rw [List.getElem?_eq_none (by rw [List.length_set, dl_length]; omega), List.getElem?_eq_none (by rw [dl_length]; omega)]
theorem map_spliceI (f : Int → Value) {l : List Int} {j : Nat} {d : Int} (h : j < l.length) : splice (l.map f) j [f d] = (l.set j d).map f := by
  simp only [splice, List.length_singleton, List.set_eq_take_append_cons_drop, h, if_true, List.map_append, List.map_cons, List.map_take, List.map_drop]
  simp
theorem dl_cell {K i : Nat} {d : Int} (hi : i < 113) (hd : d = if i = 112 then 1 else dz K i) : splice ((dl K i).map i8V) i [.int .i8 d] = (dl K (i + 1)).map i8V := by
  subst hd
  rw [← dl_put hi]
  exact map_spliceI i8V (by rw [dl_length]; exact hi)
theorem dl_at {K i j : Nat} (hj : j < 113) (hji : j < i) : ((dl K i).map i8V)[j]? = some (.int .i8 (if j = 112 then 1 else dz K j)) := by
  rw [List.getElem?_map, dl_get hj, if_pos hji]; rfl
theorem dl_zero (K : Nat) : (dl K 0).map i8V = List.replicate 113 (.int .i8 0) := by
  have e : dl K 0 = (List.range 113).map fun _ => (0 : Int) := by
    unfold dl
    simp only [Nat.not_lt_zero, if_false]
  rw [e]
  rfl
/-- Words shifted by four bits. -/
theorem shr4 (V k : Nat) : V / 16 / BB ^ k % BB = V / BB ^ k % BB / 16 ||| (V / BB ^ (k + 1) % BB * 2 ^ 60 % BB) := by
  have e : V / BB ^ (k + 1) % BB * 2 ^ 60 % BB = 2 ^ 60 * (V / BB ^ (k + 1) % BB % 16) := by simp only [BB]; omega
  rw [e, Nat.or_comm, ← Nat.two_pow_add_eq_or_of_lt (by simp only [BB]; omega), Nat.div_div_eq_div_mul, Nat.mul_comm 16, ← Nat.div_div_eq_div_mul, show BB ^ (k + 1) = BB ^ k * BB from Nat.pow_succ _ _, ← Nat.div_div_eq_div_mul]
  generalize V / BB ^ k = A
  simp only [BB]
  omega
theorem shr4_top {V : Nat} (h : V < BB ^ 7) : V / 16 / BB ^ 6 % BB = V / BB ^ 6 % BB / 16 := by
  rw [shr4, show V / BB ^ (6 + 1) = 0 from Nat.div_eq_of_lt h]
  simp
theorem two_neg0 {e : Nat} (h1 : 1 ≤ e) (h : e ≤ 16) : (RR - e) / BB ^ 0 % BB = BB - e := by
  rw [Nat.pow_zero, Nat.div_one, RR_B, show 18446744073709551616 ^ 7 = BB * BB ^ 6 by decide +kernel]
  have : 0 < BB ^ 6 := Nat.pow_pos (by decide)
  generalize BB ^ 6 = t at *
  simp only [BB]
  omega
theorem two_neg {e k : Nat} (h1 : 1 ≤ e) (h : e ≤ 16) (hk : k < 6) : (RR - e) / BB ^ (k + 1) % BB = BB - 1 := by
  have hp : 0 < BB ^ (k + 1) := Nat.pow_pos (by decide)
  have hq : BB ≤ BB ^ (k + 1) := by rw [Nat.pow_succ]; exact Nat.le_mul_of_pos_left _ (Nat.pow_pos (by decide))
  have e1 : RR = BB ^ (k + 1) * BB ^ (6 - k) := by rw [RR_B, ← Nat.pow_add]; congr 1; omega
  have e2 : (RR - e) / BB ^ (k + 1) = BB ^ (6 - k) - 1 := by
    rw [e1]
    obtain ⟨c, hc⟩ : ∃ c, BB ^ (6 - k) = c + 1 := ⟨BB ^ (6 - k) - 1, by have : 0 < BB ^ (6 - k) := Nat.pow_pos (by decide); omega⟩
    rw [hc, Nat.add_sub_cancel, Nat.mul_succ]
    rw [show BB ^ (k + 1) * c + BB ^ (k + 1) - e = BB ^ (k + 1) * c + (BB ^ (k + 1) - e) by simp only [BB] at *; omega, Nat.mul_add_div hp, Nat.div_eq_of_lt (by simp only [BB] at *; omega), Nat.add_zero]
  rw [e2]
  obtain ⟨j, hj⟩ : ∃ j, 6 - k = j + 1 := ⟨5 - k, by omega⟩
  rw [hj, Nat.pow_succ]
  have : 0 < BB ^ j := Nat.pow_pos (by decide)
  generalize BB ^ j = t at *
  simp only [BB]
  omega
theorem dsub_V {Z Y V : Nat} (hZ : Z < RR) (hY : Y < RR) (hV : V < RR) (h : (V + Y) % RR = Z) : dsub Z Y % RR = V := by
  rw [dsub, Nat.mod_eq_of_lt hZ, Nat.mod_eq_of_lt hY]
  unfold RR at *
  omega
theorem dsub_word {Z Y V k : Nat} (hZ : Z < RR) (hY : Y < RR) (hV : V < RR) (h : (V + Y) % RR = Z) (hk : k < 7) : dsub Z Y / BB ^ k % BB = V / BB ^ k % BB := by
  have e := digs_get (b := BB) 7 (dsub Z Y) k hk
  rw [← digs_RR, dsub_V hZ hY hV h, digs_get 7 V k hk] at e
  exact (Option.some.inj e).symm
theorem wrap_i8' (n : Int) : IntKind.i8.wrap n = (n + 128) % 256 - 128 := by
  have : IntKind.i8.wrap n = if 128 ≤ n % 256 then n % 256 - 256 else n % 256 := by simp [IntKind.wrap, IntKind.bits, IntKind.signed]
  rw [this]
  split <;> omega
theorem rec_wrap (Z : Nat) : IntKind.i8.wrap (((Z % 32 + (18446744073709551616 - 16)) % 18446744073709551616 : Nat) : Int) = ((Z % 32 : Nat) : Int) - 16 := by
  rw [wrap_i8']
  omega
theorem and31 (Z : Nat) : (Z / BB ^ 0 % BB) &&& 31 = Z % 32 := by
  have := Nat.and_two_pow_sub_one_eq_mod (Z / BB ^ 0 % BB) 5
  rw [show (2 : Nat) ^ 5 - 1 = 31 from rfl] at this
  rw [this, Nat.pow_zero, Nat.div_one]
  simp only [BB]
  omega
theorem fd_pos {e : Nat} (h : e ≤ 16) : (e : Int).fdiv (2 ^ (min 63 IntKind.i64.bits)) = 0 := by
  have h1 : (2 : Int) ^ (min 63 IntKind.i64.bits) = 9223372036854775808 := by decide
  rw [h1, Int.fdiv_eq_ediv_of_nonneg _ (by decide)]
  omega
theorem fd_neg {e : Nat} (h1 : 1 ≤ e) (h : e ≤ 16) : (-(e : Int)).fdiv (2 ^ (min 63 IntKind.i64.bits)) = -1 := by
  have h2 : (2 : Int) ^ (min 63 IntKind.i64.bits) = 9223372036854775808 := by decide
  rw [h2, Int.fdiv_eq_ediv_of_nonneg _ (by decide)]
  omega
theorem opr_b2u {St : Slots} {M : Mem} {o : Oper} {xs : List Operand} {ts : Array TypeId} {fo : Operand} {b : Bool} (ho : o.op = .call { callee := .value fo, args := xs.toArray, argTypes := ts })
    (hfo : evalS St fo = some (.func (.func 98) #[] #[])) (hxs : evalL St xs = some [.bool b]) : OpR Tryz.prog St M o (Det (.int .u8 (if b then 1 else 0)) M) :=
  opr_extern (P := Tryz.prog) (M := M) ho hfo hxs fun w => by
    rw [run_callFunc_extern Tryz.func98 (by kernel_rfl) (by kernel_rfl) (by kernel_rfl) (e := fun a => match a with | #[.bool b] => pure (.int .u8 (if b then 1 else 0)) | _ => stuck "boolToUint8: a bool expected") (by kernel_rfl)]
    rfl
theorem ctEqT_ct {M : Mem} {a b : Nat} (h : a = b) : Ct Tryz.prog 83 #[.int .i32 (a : Int), .int .i32 (b : Int)] M (Det (.int .i64 1) M) := by
  refine ct_of (vs := [.int .i32 (a : Int), .int .i32 (b : Int)]) Tryz.func83 rfl Tryz.ntmps83 rfl fun w0 => ?_
  refine at_seq ?_
  refine at_region ?_
  refine at_d rfl rfl (opr_assign rfl rfl) ?_
  refine at_nil ?_
  refine at_then ?_
  refine at_seq ?_
  refine at_region ?_
  refine at_d rfl rfl (opr_move rfl rfl) ?_
  refine at_d rfl rfl (opr_move rfl rfl) ?_
  refine at_d rfl rfl (opr_eq' (v' := .bool true) (opr_eql (a := a) (b := b) rfl rfl rfl) (congrArg Value.bool (decide_eq_true h))) ?_
  refine at_d rfl rfl (opr_b2u (b := true) rfl rfl rfl) ?_
  refine at_d rfl rfl (opr_eq' (v' := .int .i64 1) (opr_convert rfl rfl Tryz.underlying5 Tryz.underlying3) rfl) ?_
  refine at_d rfl rfl (opr_assign rfl rfl) ?_
  refine at_nil ?_
  refine at_then ?_
  refine at_ret ?_
  refine done_of (res1 Tryz.results83 (res_tmp rfl)) ⟨rfl, rfl⟩ (by repeat (first | exact List.Sublist.refl _ | apply List.Sublist.cons))
theorem ctEqOT_ct {M : Mem} {a b : Nat} (h : a = b) : Ct Tryz.prog 56 #[.int .i32 (a : Int), .int .i32 (b : Int)] M (Det (.int .i64 1) M) := by
  refine ct_of (vs := [.int .i32 (a : Int), .int .i32 (b : Int)]) Tryz.func56 rfl Tryz.ntmps56 rfl fun w0 => ?_
  refine at_seq ?_
  refine at_region ?_
  refine at_d rfl rfl (opr_assign rfl rfl) ?_
  refine at_nil ?_
  refine at_then ?_
  refine at_seq ?_
  refine at_region ?_
  refine at_d rfl rfl (opr_move rfl rfl) ?_
  refine at_d rfl rfl (opr_move rfl rfl) ?_
  refine at_d rfl rfl (opr_call rfl rfl rfl Tryz.func83 (by kernel_rfl) rfl (ctEqT_ct h)) ?_
  refine at_d rfl rfl (opr_assign rfl rfl) ?_
  refine at_nil ?_
  refine at_then ?_
  refine at_ret ?_
  refine done_of (res1 Tryz.results56 (res_tmp rfl)) ⟨rfl, rfl⟩ (by repeat (first | exact List.Sublist.refl _ | apply List.Sublist.cons))
theorem ctEqF_ct {M : Mem} {a b : Nat} (h : ¬ a = b) : Ct Tryz.prog 83 #[.int .i32 (a : Int), .int .i32 (b : Int)] M (Det (.int .i64 0) M) := by
  refine ct_of (vs := [.int .i32 (a : Int), .int .i32 (b : Int)]) Tryz.func83 rfl Tryz.ntmps83 rfl fun w0 => ?_
  refine at_seq ?_
  refine at_region ?_
  refine at_d rfl rfl (opr_assign rfl rfl) ?_
  refine at_nil ?_
  refine at_then ?_
  refine at_seq ?_
  refine at_region ?_
  refine at_d rfl rfl (opr_move rfl rfl) ?_
  refine at_d rfl rfl (opr_move rfl rfl) ?_
  refine at_d rfl rfl (opr_eq' (v' := .bool false) (opr_eql (a := a) (b := b) rfl rfl rfl) (congrArg Value.bool (decide_eq_false h))) ?_
  refine at_d rfl rfl (opr_b2u (b := false) rfl rfl rfl) ?_
  refine at_d rfl rfl (opr_eq' (v' := .int .i64 0) (opr_convert rfl rfl Tryz.underlying5 Tryz.underlying3) rfl) ?_
  refine at_d rfl rfl (opr_assign rfl rfl) ?_
  refine at_nil ?_
  refine at_then ?_
  refine at_ret ?_
  refine done_of (res1 Tryz.results83 (res_tmp rfl)) ⟨rfl, rfl⟩ (by repeat (first | exact List.Sublist.refl _ | apply List.Sublist.cons))
theorem ctEqOF_ct {M : Mem} {a b : Nat} (h : ¬ a = b) : Ct Tryz.prog 56 #[.int .i32 (a : Int), .int .i32 (b : Int)] M (Det (.int .i64 0) M) := by
  refine ct_of (vs := [.int .i32 (a : Int), .int .i32 (b : Int)]) Tryz.func56 rfl Tryz.ntmps56 rfl fun w0 => ?_
  refine at_seq ?_
  refine at_region ?_
  refine at_d rfl rfl (opr_assign rfl rfl) ?_
  refine at_nil ?_
  refine at_then ?_
  refine at_seq ?_
  refine at_region ?_
  refine at_d rfl rfl (opr_move rfl rfl) ?_
  refine at_d rfl rfl (opr_move rfl rfl) ?_
  refine at_d rfl rfl (opr_call rfl rfl rfl Tryz.func83 (by kernel_rfl) rfl (ctEqF_ct h)) ?_
  refine at_d rfl rfl (opr_assign rfl rfl) ?_
  refine at_nil ?_
  refine at_then ?_
  refine at_ret ?_
  refine done_of (res1 Tryz.results56 (res_tmp rfl)) ⟨rfl, rfl⟩ (by repeat (first | exact List.Sublist.refl _ | apply List.Sublist.cons))
theorem ctEq_ct {M : Mem} {a b : Nat} : Ct Tryz.prog 56 #[.int .i32 (a : Int), .int .i32 (b : Int)] M (Det (.int .i64 ((if a = b then 1 else 0 : Nat) : Int)) M) := by
  by_cases h : a = b
  · rw [if_pos h]; exact ctEqOT_ct h
  · rw [if_neg h]; exact ctEqOF_ct h
theorem ctCopyU0_ct {M : Mem} {gx gy Tx Ty a b : Nat} : Ct Tryz.prog 77 #[.int .i64 0, .slice (some ⟨gx, 0, none⟩) 56 56, .slice (some ⟨gy, 0, none⟩) 56 56] (⟨gx, Tx, U (digs 256 56 a)⟩ :: ⟨gy, Ty, U (digs 256 56 b)⟩ :: M) (Det (.tuple #[]) (⟨gx, Tx, U (digs 256 56 a)⟩ :: ⟨gy, Ty, U (digs 256 56 b)⟩ :: M)) := by
  refine ct_of (vs := [.int .i64 0, .slice (some ⟨gx, 0, none⟩) 56 56, .slice (some ⟨gy, 0, none⟩) 56 56]) Tryz.func77 rfl Tryz.ntmps77 rfl fun w0 => ?_
  refine at_seq ?_
  refine at_seq ?_
  refine at_region ?_
  refine at_d rfl rfl (opr_move rfl rfl) ?_
  refine at_d rfl rfl (opr_lenS (n := 56) rfl rfl Tryz.underlying98) ?_
  refine at_d rfl rfl (opr_move rfl rfl) ?_
  refine at_d rfl rfl (opr_lenS (n := 56) rfl rfl Tryz.underlying98) ?_
  refine at_d rfl rfl (opr_eq' (v' := .bool false) (opr_neq (a := 56) (b := 56) rfl rfl rfl) rfl) ?_
  refine at_nil ?_
  refine at_then ?_
  refine at_cond_false rfl ?_
  refine at_skip ?_
  refine at_then ?_
  refine at_seq ?_
  refine at_region ?_
  refine at_d rfl rfl (opr_move rfl rfl) ?_
  refine at_d rfl rfl (opr_binOp (v := .int .i64 (-1)) rfl rfl rfl (fun _ => rfl)) ?_
  refine at_d rfl rfl (opr_conv (c := 255) rfl rfl Tryz.underlying3 Tryz.underlying5 rfl) ?_
  refine at_d rfl rfl (opr_assign rfl rfl) ?_
  refine at_nil ?_
  refine at_then ?_
  refine at_seq ?_
  refine at_region ?_
  refine at_d rfl rfl (opr_move rfl rfl) ?_
  refine at_d rfl rfl (opr_binOp (v := .int .i64 (-1)) rfl rfl rfl (fun _ => rfl)) ?_
  refine at_d rfl rfl (opr_unOp (u := .int .i64 (0)) rfl rfl (fun _ => rfl)) ?_
  refine at_d rfl rfl (opr_conv (c := 0) rfl rfl Tryz.underlying3 Tryz.underlying5 rfl) ?_
  refine at_d rfl rfl (opr_assign rfl rfl) ?_
  refine at_nil ?_
  refine at_then ?_
  refine at_seq ?_
  refine at_region ?_
  refine at_d rfl rfl (opr_assign rfl rfl) ?_
  refine at_nil ?_
  refine at_then ?_
  refine at_block ?_
  refine at_loop (fun (x : Nat) => [(1, .slice (some ⟨gx, 0, none⟩) 56 56), (2, .slice (some ⟨gy, 0, none⟩) 56 56), (6, .int .u8 255), (7, .int .u8 0), (8, .int .i64 (x : Int))]) (fun (x : Nat) => ⟨gx, Tx, U (mixl (digs 256 56 a) (digs 256 56 a) x)⟩ :: ⟨gy, Ty, U (digs 256 56 b)⟩ :: M) (fun (x : Nat) => 56 - x) (fun (x : Nat) => x ≤ 56) 0 (Nat.zero_le _) (allIn ⟨rfl, rfl, rfl, rfl, rfl, trivial⟩) (by rw [mixl_zero]; exact List.Sublist.refl _) ?_
  intro k hk56
  dsimp only
  refine at_seq ?_
  refine at_seq ?_
  refine at_region ?_
  refine at_d rfl rfl (opr_move rfl rfl) ?_
  refine at_d rfl rfl (opr_move rfl rfl) ?_
  refine at_d rfl rfl (opr_lenS (n := 56) rfl rfl Tryz.underlying98) ?_
  refine at_d rfl rfl (opr_lss (a := k) (b := 56) rfl rfl rfl) ?_
  refine at_nil ?_
  refine at_then ?_
  refine at_cond rfl (fun ht => ?_) (fun ht => ?_)
  ·
    have hlt : k < 56 := of_decide_eq_true ht
    refine at_skip ?_
    refine at_then ?_
    refine at_seq ?_
    refine at_block ?_
    refine at_draw (by kernel_rfl) (by kernel_rfl) (by kernel_rfl) (List.cons_ne_nil _ _) ?_
    refine dr_op rfl rfl (opr_move rfl rfl) ?_
    refine dr_op rfl rfl (opr_move rfl rfl) ?_
    refine dr_op rfl rfl (opr_move rfl rfl) ?_
    refine dr_op rfl rfl (opr_move rfl rfl) ?_
    refine dr_op rfl rfl (opr_indexAddrS (j := k) (off' := k) rfl rfl rfl Tryz.underlying98 hlt size5 (by omega)) ?_
    refine dr_op rfl rfl (opr_load1 (i := 0) rfl rfl rfl Tryz.underlying5 rfl (U_get ((mixl_get (digs_length _ _ _) (Nat.le_of_lt hlt)).trans (digs_get 56 a k hlt)))) ?_
    refine dr_op rfl rfl (opr_move rfl rfl) ?_
    refine dr_op rfl rfl (opr_eq' (opr_and8 (a := (a / 256 ^ k % 256)) (b := 255) rfl rfl rfl (Nat.mod_lt _ (by decide)) (by decide)) (u8_eq (b := (a / 256 ^ k % 256)) (and255 (Nat.mod_lt _ (by decide))))) ?_
    refine dr_op rfl rfl (opr_move rfl rfl) ?_
    refine dr_op rfl rfl (opr_move rfl rfl) ?_
    refine dr_op rfl rfl (opr_indexAddrS (j := k) (off' := k) rfl rfl rfl Tryz.underlying98 hlt size5 (by omega)) ?_
    refine dr_op rfl rfl (opr_load1 (i := 1) rfl rfl rfl Tryz.underlying5 rfl (U_get (digs_get 56 b k hlt))) ?_
    refine dr_op rfl rfl (opr_move rfl rfl) ?_
    refine dr_op rfl rfl (opr_eq' (opr_and8 (a := (b / 256 ^ k % 256)) (b := 0) rfl rfl rfl (Nat.mod_lt _ (by decide)) (by decide)) (u8_eq (b := 0) (Nat.and_zero _))) ?_
    refine dr_op rfl rfl (opr_eq' (opr_or8 (a := (a / 256 ^ k % 256)) (b := 0) rfl rfl rfl (Nat.mod_lt _ (by decide)) (by decide)) (u8_eq (b := a / 256 ^ k % 256) (Nat.or_zero _))) ?_
    refine dr_op rfl rfl (opr_indexAddrS (j := k) (off' := k) rfl rfl rfl Tryz.underlying98 hlt size5 (by omega)) ?_
    refine dr_last rfl rfl (opr_store (i := 0) rfl rfl rfl rfl rfl size5 rfl (by rw [U_length, mixl_length (digs_length _ _ _) (digs_length _ _ _) (Nat.le_of_lt hlt)]; omega) flat_one (U_put (by rw [mixl_length (digs_length _ _ _) (digs_length _ _ _) (Nat.le_of_lt hlt)]; exact hlt) (mixl_put (digs_length _ _ _) (digs_length _ _ _) hlt (digs_get 56 a k hlt)))) ?_
    refine at_inBlock_normal ?_
    refine at_then ?_
    refine at_region ?_
    refine at_d rfl rfl (opr_move rfl rfl) ?_
    refine at_d rfl rfl (opr_addI (a := k) (b := 1) rfl rfl rfl (by omega)) ?_
    refine at_d rfl rfl (opr_assign rfl rfl) ?_
    refine at_nil ?_
    exact at_round (k + 1) (by omega) (by omega) (allIn ⟨rfl, rfl, rfl, rfl, rfl, trivial⟩) (List.Sublist.refl _)
  ·
    obtain rfl : k = 56 := by have := of_decide_eq_false ht; omega
    rw [mixl_end (digs_length _ _ _) (digs_length _ _ _)]
    refine at_exit ?_
    refine at_then_exit ?_
    refine at_then_exit ?_
    refine at_inBlock_same ?_
    exact done_of (res0 Tryz.results77) ⟨rfl, rfl⟩ (List.Sublist.refl _)
theorem ctCopyE0_ct {M : Mem} {gx gy Tx Ty a b : Nat} : Ct Tryz.prog 49 #[.int .i64 0, .slice (some ⟨gx, 0, none⟩) 56 56, .slice (some ⟨gy, 0, none⟩) 56 56] (⟨gx, Tx, U (digs 256 56 a)⟩ :: ⟨gy, Ty, U (digs 256 56 b)⟩ :: M) (Det (.tuple #[]) (⟨gx, Tx, U (digs 256 56 a)⟩ :: ⟨gy, Ty, U (digs 256 56 b)⟩ :: M)) := by
  refine ct_of (vs := [.int .i64 0, .slice (some ⟨gx, 0, none⟩) 56 56, .slice (some ⟨gy, 0, none⟩) 56 56]) Tryz.func49 rfl Tryz.ntmps49 rfl fun w0 => ?_
  refine at_region ?_
  refine at_d rfl rfl (opr_move rfl rfl) ?_
  refine at_d rfl rfl (opr_move rfl rfl) ?_
  refine at_d rfl rfl (opr_move rfl rfl) ?_
  refine at_d rfl rfl (opr_call rfl rfl rfl Tryz.func77 (by kernel_rfl) rfl (ctCopyU0_ct)) ?_
  refine at_nil ?_
  exact done_of (res0 Tryz.results49) ⟨rfl, rfl⟩ (List.Sublist.refl _)
theorem ctCopyU1_ct {M : Mem} {gx gy Tx Ty a b : Nat} : Ct Tryz.prog 77 #[.int .i64 1, .slice (some ⟨gx, 0, none⟩) 56 56, .slice (some ⟨gy, 0, none⟩) 56 56] (⟨gx, Tx, U (digs 256 56 a)⟩ :: ⟨gy, Ty, U (digs 256 56 b)⟩ :: M) (Det (.tuple #[]) (⟨gx, Tx, U (digs 256 56 b)⟩ :: ⟨gy, Ty, U (digs 256 56 b)⟩ :: M)) := by
  refine ct_of (vs := [.int .i64 1, .slice (some ⟨gx, 0, none⟩) 56 56, .slice (some ⟨gy, 0, none⟩) 56 56]) Tryz.func77 rfl Tryz.ntmps77 rfl fun w0 => ?_
  refine at_seq ?_
  refine at_seq ?_
  refine at_region ?_
  refine at_d rfl rfl (opr_move rfl rfl) ?_
  refine at_d rfl rfl (opr_lenS (n := 56) rfl rfl Tryz.underlying98) ?_
  refine at_d rfl rfl (opr_move rfl rfl) ?_
  refine at_d rfl rfl (opr_lenS (n := 56) rfl rfl Tryz.underlying98) ?_
  refine at_d rfl rfl (opr_eq' (v' := .bool false) (opr_neq (a := 56) (b := 56) rfl rfl rfl) rfl) ?_
  refine at_nil ?_
  refine at_then ?_
  refine at_cond_false rfl ?_
  refine at_skip ?_
  refine at_then ?_
  refine at_seq ?_
  refine at_region ?_
  refine at_d rfl rfl (opr_move rfl rfl) ?_
  refine at_d rfl rfl (opr_binOp (v := .int .i64 (0)) rfl rfl rfl (fun _ => rfl)) ?_
  refine at_d rfl rfl (opr_conv (c := 0) rfl rfl Tryz.underlying3 Tryz.underlying5 rfl) ?_
  refine at_d rfl rfl (opr_assign rfl rfl) ?_
  refine at_nil ?_
  refine at_then ?_
  refine at_seq ?_
  refine at_region ?_
  refine at_d rfl rfl (opr_move rfl rfl) ?_
  refine at_d rfl rfl (opr_binOp (v := .int .i64 (0)) rfl rfl rfl (fun _ => rfl)) ?_
  refine at_d rfl rfl (opr_unOp (u := .int .i64 (-1)) rfl rfl (fun _ => rfl)) ?_
  refine at_d rfl rfl (opr_conv (c := 255) rfl rfl Tryz.underlying3 Tryz.underlying5 rfl) ?_
  refine at_d rfl rfl (opr_assign rfl rfl) ?_
  refine at_nil ?_
  refine at_then ?_
  refine at_seq ?_
  refine at_region ?_
  refine at_d rfl rfl (opr_assign rfl rfl) ?_
  refine at_nil ?_
  refine at_then ?_
  refine at_block ?_
  refine at_loop (fun (x : Nat) => [(1, .slice (some ⟨gx, 0, none⟩) 56 56), (2, .slice (some ⟨gy, 0, none⟩) 56 56), (6, .int .u8 0), (7, .int .u8 255), (8, .int .i64 (x : Int))]) (fun (x : Nat) => ⟨gx, Tx, U (mixl (digs 256 56 b) (digs 256 56 a) x)⟩ :: ⟨gy, Ty, U (digs 256 56 b)⟩ :: M) (fun (x : Nat) => 56 - x) (fun (x : Nat) => x ≤ 56) 0 (Nat.zero_le _) (allIn ⟨rfl, rfl, rfl, rfl, rfl, trivial⟩) (by rw [mixl_zero]; exact List.Sublist.refl _) ?_
  intro k hk56
  dsimp only
  refine at_seq ?_
  refine at_seq ?_
  refine at_region ?_
  refine at_d rfl rfl (opr_move rfl rfl) ?_
  refine at_d rfl rfl (opr_move rfl rfl) ?_
  refine at_d rfl rfl (opr_lenS (n := 56) rfl rfl Tryz.underlying98) ?_
  refine at_d rfl rfl (opr_lss (a := k) (b := 56) rfl rfl rfl) ?_
  refine at_nil ?_
  refine at_then ?_
  refine at_cond rfl (fun ht => ?_) (fun ht => ?_)
  ·
    have hlt : k < 56 := of_decide_eq_true ht
    refine at_skip ?_
    refine at_then ?_
    refine at_seq ?_
    refine at_block ?_
    refine at_draw (by kernel_rfl) (by kernel_rfl) (by kernel_rfl) (List.cons_ne_nil _ _) ?_
    refine dr_op rfl rfl (opr_move rfl rfl) ?_
    refine dr_op rfl rfl (opr_move rfl rfl) ?_
    refine dr_op rfl rfl (opr_move rfl rfl) ?_
    refine dr_op rfl rfl (opr_move rfl rfl) ?_
    refine dr_op rfl rfl (opr_indexAddrS (j := k) (off' := k) rfl rfl rfl Tryz.underlying98 hlt size5 (by omega)) ?_
    refine dr_op rfl rfl (opr_load1 (i := 0) rfl rfl rfl Tryz.underlying5 rfl (U_get ((mixl_get (digs_length _ _ _) (Nat.le_of_lt hlt)).trans (digs_get 56 a k hlt)))) ?_
    refine dr_op rfl rfl (opr_move rfl rfl) ?_
    refine dr_op rfl rfl (opr_eq' (opr_and8 (a := (a / 256 ^ k % 256)) (b := 0) rfl rfl rfl (Nat.mod_lt _ (by decide)) (by decide)) (u8_eq (b := 0) (Nat.and_zero _))) ?_
    refine dr_op rfl rfl (opr_move rfl rfl) ?_
    refine dr_op rfl rfl (opr_move rfl rfl) ?_
    refine dr_op rfl rfl (opr_indexAddrS (j := k) (off' := k) rfl rfl rfl Tryz.underlying98 hlt size5 (by omega)) ?_
    refine dr_op rfl rfl (opr_load1 (i := 1) rfl rfl rfl Tryz.underlying5 rfl (U_get (digs_get 56 b k hlt))) ?_
    refine dr_op rfl rfl (opr_move rfl rfl) ?_
    refine dr_op rfl rfl (opr_eq' (opr_and8 (a := (b / 256 ^ k % 256)) (b := 255) rfl rfl rfl (Nat.mod_lt _ (by decide)) (by decide)) (u8_eq (b := (b / 256 ^ k % 256)) (and255 (Nat.mod_lt _ (by decide))))) ?_
    refine dr_op rfl rfl (opr_eq' (opr_or8 (a := 0) (b := (b / 256 ^ k % 256)) rfl rfl rfl (by decide) (Nat.mod_lt _ (by decide))) (u8_eq (b := b / 256 ^ k % 256) (Nat.zero_or _))) ?_
    refine dr_op rfl rfl (opr_indexAddrS (j := k) (off' := k) rfl rfl rfl Tryz.underlying98 hlt size5 (by omega)) ?_
    refine dr_last rfl rfl (opr_store (i := 0) rfl rfl rfl rfl rfl size5 rfl (by rw [U_length, mixl_length (digs_length _ _ _) (digs_length _ _ _) (Nat.le_of_lt hlt)]; omega) flat_one (U_put (by rw [mixl_length (digs_length _ _ _) (digs_length _ _ _) (Nat.le_of_lt hlt)]; exact hlt) (mixl_put (digs_length _ _ _) (digs_length _ _ _) hlt (digs_get 56 b k hlt)))) ?_
    refine at_inBlock_normal ?_
    refine at_then ?_
    refine at_region ?_
    refine at_d rfl rfl (opr_move rfl rfl) ?_
    refine at_d rfl rfl (opr_addI (a := k) (b := 1) rfl rfl rfl (by omega)) ?_
    refine at_d rfl rfl (opr_assign rfl rfl) ?_
    refine at_nil ?_
    exact at_round (k + 1) (by omega) (by omega) (allIn ⟨rfl, rfl, rfl, rfl, rfl, trivial⟩) (List.Sublist.refl _)
  ·
    obtain rfl : k = 56 := by have := of_decide_eq_false ht; omega
    rw [mixl_end (digs_length _ _ _) (digs_length _ _ _)]
    refine at_exit ?_
    refine at_then_exit ?_
    refine at_then_exit ?_
    refine at_inBlock_same ?_
    exact done_of (res0 Tryz.results77) ⟨rfl, rfl⟩ (List.Sublist.refl _)
theorem ctCopyE1_ct {M : Mem} {gx gy Tx Ty a b : Nat} : Ct Tryz.prog 49 #[.int .i64 1, .slice (some ⟨gx, 0, none⟩) 56 56, .slice (some ⟨gy, 0, none⟩) 56 56] (⟨gx, Tx, U (digs 256 56 a)⟩ :: ⟨gy, Ty, U (digs 256 56 b)⟩ :: M) (Det (.tuple #[]) (⟨gx, Tx, U (digs 256 56 b)⟩ :: ⟨gy, Ty, U (digs 256 56 b)⟩ :: M)) := by
  refine ct_of (vs := [.int .i64 1, .slice (some ⟨gx, 0, none⟩) 56 56, .slice (some ⟨gy, 0, none⟩) 56 56]) Tryz.func49 rfl Tryz.ntmps49 rfl fun w0 => ?_
  refine at_region ?_
  refine at_d rfl rfl (opr_move rfl rfl) ?_
  refine at_d rfl rfl (opr_move rfl rfl) ?_
  refine at_d rfl rfl (opr_move rfl rfl) ?_
  refine at_d rfl rfl (opr_call rfl rfl rfl Tryz.func77 (by kernel_rfl) rfl (ctCopyU1_ct)) ?_
  refine at_nil ?_
  exact done_of (res0 Tryz.results49) ⟨rfl, rfl⟩ (List.Sublist.refl _)
theorem U_EE (a : Nat) : U (digs 256 56 a) = EE [a] := (EE_one a).symm
theorem ctCopy_ct {M : Mem} {gx gy Tx Ty a b v : Nat} (hv : v = 0 ∨ v = 1) : Ct Tryz.prog 49 #[.int .i64 (v : Int), .slice (some ⟨gx, 0, none⟩) 56 56, .slice (some ⟨gy, 0, none⟩) 56 56] (⟨gx, Tx, EE [a]⟩ :: ⟨gy, Ty, EE [b]⟩ :: M) (Det (.tuple #[]) (⟨gx, Tx, EE [sel v a b]⟩ :: ⟨gy, Ty, EE [b]⟩ :: M)) := by
  rcases hv with rfl | rfl
  · rw [sel0, ← U_EE, ← U_EE]; exact ctCopyE0_ct
  · rw [sel1, ← U_EE, ← U_EE]; exact ctCopyE1_ct
set_option maxHeartbeats 1000000 in
theorem subY0_ct {M : Mem} {gz Tz Z V e : Nat} (hZ : Z < RR) (hVR : V < RR) (he16 : e ≤ 16) (hVe : (V + e) % RR = Z) : Ct Tryz.prog 79 #[.pointer (some ⟨gz, 0, none⟩), .int .i64 (e : Int)] (⟨gz, Tz, W (digs BB 7 Z)⟩ :: M) (Det (.tuple #[]) (⟨gz, Tz, W (digs BB 7 (V / 16))⟩ :: M)) := by
  have hYR : e < RR := Nat.lt_of_le_of_lt he16 (by decide +kernel)
  refine ct_of (vs := [.pointer (some ⟨gz, 0, none⟩), .int .i64 (e : Int)]) Tryz.func79 rfl Tryz.ntmps79 rfl fun w0 => ?_
  refine at_seq ?_
  refine at_region ?_
  refine at_d rfl rfl (opr_move rfl rfl) ?_
  refine at_d rfl rfl (opr_shrK (n := 63) (c := 0) rfl rfl rfl (fd_pos he16)) ?_
  refine at_d rfl rfl (opr_conv (c := ((0 : Nat) : Int)) rfl rfl Tryz.underlying2 Tryz.underlying29 rfl) ?_
  refine at_d rfl rfl (opr_assign rfl rfl) ?_
  refine at_nil ?_
  refine at_then ?_
  refine at_seq ?_
  refine at_region ?_
  refine at_d rfl rfl (opr_move rfl rfl) ?_
  refine at_d rfl rfl (opr_nilCheck rfl rfl) ?_
  refine at_d rfl rfl (opr_indexAddr (j := 0) rfl rfl rfl Tryz.underlying117 (by decide) size29 rfl) ?_
  refine at_d rfl rfl (opr_load1 (i := 0) rfl rfl rfl Tryz.underlying29 rfl (W_get (digs_get 7 Z 0 (by decide)))) ?_
  refine at_d rfl rfl (opr_move rfl rfl) ?_
  refine at_d rfl rfl (opr_conv (c := ((e : Nat) : Int)) rfl rfl Tryz.underlying2 Tryz.underlying29 (by rw [wrap_u64]; omega)) ?_
  refine at_d rfl rfl (opr_Sub64D (a := Z / BB ^ 0 % BB) (b := e) (c := 0) (s := V / BB ^ 0 % BB) (k := cadd (dsub Z e) e 1) rfl rfl rfl (by decide) (Nat.mod_lt _ (by decide)) (by omega) (by have h1 := csub_step Z e 0 (by decide); rw [dsub_word hZ hYR hVR hVe (by decide), show e / BB ^ 0 % BB = e from (by rw [Nat.pow_zero, Nat.div_one]; exact Nat.mod_eq_of_lt (Nat.lt_of_le_of_lt he16 (by decide))), cadd_zero] at h1; exact h1) (Nat.mod_lt _ (by decide)) (cadd_le _ _ _)) ?_
  refine at_d rfl rfl (opr_move rfl rfl) ?_
  refine at_d rfl rfl (opr_extract rfl rfl rfl) ?_
  refine at_d rfl rfl (opr_extract rfl rfl rfl) ?_
  refine at_d rfl rfl (opr_assign rfl rfl) ?_
  refine at_d rfl rfl (opr_assign rfl rfl) ?_
  refine at_nil ?_
  refine at_then ?_
  refine at_seq ?_
  refine at_region ?_
  refine at_d rfl rfl (opr_move rfl rfl) ?_
  refine at_d rfl rfl (opr_nilCheck rfl rfl) ?_
  refine at_d rfl rfl (opr_indexAddr (j := 1) rfl rfl rfl Tryz.underlying117 (by decide) size29 rfl) ?_
  refine at_d rfl rfl (opr_load1 (i := 0) rfl rfl rfl Tryz.underlying29 rfl (W_get (digs_get 7 Z 1 (by decide)))) ?_
  refine at_d rfl rfl (opr_move rfl rfl) ?_
  refine at_d rfl rfl (opr_move rfl rfl) ?_
  refine at_d rfl rfl (opr_Sub64D (a := Z / BB ^ 1 % BB) (b := 0) (c := (cadd (dsub Z e) e 1)) (s := V / BB ^ 1 % BB) (k := cadd (dsub Z e) e 2) rfl rfl rfl (cadd_le _ _ _) (Nat.mod_lt _ (by decide)) (by decide) (by have h1 := csub_step Z e 1 (by decide); rw [dsub_word hZ hYR hVR hVe (by decide), show e / BB ^ 1 % BB = 0 from ((congrArg (fun q => q % BB) (Nat.div_eq_of_lt (Nat.lt_of_le_of_lt he16 (show 16 < BB ^ 1 by decide +kernel)))).trans (Nat.zero_mod _))] at h1; exact h1) (Nat.mod_lt _ (by decide)) (cadd_le _ _ _)) ?_
  refine at_d rfl rfl (opr_move rfl rfl) ?_
  refine at_d rfl rfl (opr_extract rfl rfl rfl) ?_
  refine at_d rfl rfl (opr_extract rfl rfl rfl) ?_
  refine at_d rfl rfl (opr_assign rfl rfl) ?_
  refine at_d rfl rfl (opr_assign rfl rfl) ?_
  refine at_nil ?_
  refine at_then ?_
  refine at_seq ?_
  refine at_region ?_
  refine at_d rfl rfl (opr_move rfl rfl) ?_
  refine at_d rfl rfl (opr_nilCheck rfl rfl) ?_
  refine at_d rfl rfl (opr_indexAddr (j := 2) rfl rfl rfl Tryz.underlying117 (by decide) size29 rfl) ?_
  refine at_d rfl rfl (opr_load1 (i := 0) rfl rfl rfl Tryz.underlying29 rfl (W_get (digs_get 7 Z 2 (by decide)))) ?_
  refine at_d rfl rfl (opr_move rfl rfl) ?_
  refine at_d rfl rfl (opr_move rfl rfl) ?_
  refine at_d rfl rfl (opr_Sub64D (a := Z / BB ^ 2 % BB) (b := 0) (c := (cadd (dsub Z e) e 2)) (s := V / BB ^ 2 % BB) (k := cadd (dsub Z e) e 3) rfl rfl rfl (cadd_le _ _ _) (Nat.mod_lt _ (by decide)) (by decide) (by have h1 := csub_step Z e 2 (by decide); rw [dsub_word hZ hYR hVR hVe (by decide), show e / BB ^ 2 % BB = 0 from ((congrArg (fun q => q % BB) (Nat.div_eq_of_lt (Nat.lt_of_le_of_lt he16 (show 16 < BB ^ 2 by decide +kernel)))).trans (Nat.zero_mod _))] at h1; exact h1) (Nat.mod_lt _ (by decide)) (cadd_le _ _ _)) ?_
  refine at_d rfl rfl (opr_move rfl rfl) ?_
  refine at_d rfl rfl (opr_extract rfl rfl rfl) ?_
  refine at_d rfl rfl (opr_extract rfl rfl rfl) ?_
  refine at_d rfl rfl (opr_assign rfl rfl) ?_
  refine at_d rfl rfl (opr_assign rfl rfl) ?_
  refine at_nil ?_
  refine at_then ?_
  refine at_seq ?_
  refine at_region ?_
  refine at_d rfl rfl (opr_move rfl rfl) ?_
  refine at_d rfl rfl (opr_nilCheck rfl rfl) ?_
  refine at_d rfl rfl (opr_indexAddr (j := 3) rfl rfl rfl Tryz.underlying117 (by decide) size29 rfl) ?_
  refine at_d rfl rfl (opr_load1 (i := 0) rfl rfl rfl Tryz.underlying29 rfl (W_get (digs_get 7 Z 3 (by decide)))) ?_
  refine at_d rfl rfl (opr_move rfl rfl) ?_
  refine at_d rfl rfl (opr_move rfl rfl) ?_
  refine at_d rfl rfl (opr_Sub64D (a := Z / BB ^ 3 % BB) (b := 0) (c := (cadd (dsub Z e) e 3)) (s := V / BB ^ 3 % BB) (k := cadd (dsub Z e) e 4) rfl rfl rfl (cadd_le _ _ _) (Nat.mod_lt _ (by decide)) (by decide) (by have h1 := csub_step Z e 3 (by decide); rw [dsub_word hZ hYR hVR hVe (by decide), show e / BB ^ 3 % BB = 0 from ((congrArg (fun q => q % BB) (Nat.div_eq_of_lt (Nat.lt_of_le_of_lt he16 (show 16 < BB ^ 3 by decide +kernel)))).trans (Nat.zero_mod _))] at h1; exact h1) (Nat.mod_lt _ (by decide)) (cadd_le _ _ _)) ?_
  refine at_d rfl rfl (opr_move rfl rfl) ?_
  refine at_d rfl rfl (opr_extract rfl rfl rfl) ?_
  refine at_d rfl rfl (opr_extract rfl rfl rfl) ?_
  refine at_d rfl rfl (opr_assign rfl rfl) ?_
  refine at_d rfl rfl (opr_assign rfl rfl) ?_
  refine at_nil ?_
  refine at_then ?_
  refine at_seq ?_
  refine at_region ?_
  refine at_d rfl rfl (opr_move rfl rfl) ?_
  refine at_d rfl rfl (opr_nilCheck rfl rfl) ?_
  refine at_d rfl rfl (opr_indexAddr (j := 4) rfl rfl rfl Tryz.underlying117 (by decide) size29 rfl) ?_
  refine at_d rfl rfl (opr_load1 (i := 0) rfl rfl rfl Tryz.underlying29 rfl (W_get (digs_get 7 Z 4 (by decide)))) ?_
  refine at_d rfl rfl (opr_move rfl rfl) ?_
  refine at_d rfl rfl (opr_move rfl rfl) ?_
  refine at_d rfl rfl (opr_Sub64D (a := Z / BB ^ 4 % BB) (b := 0) (c := (cadd (dsub Z e) e 4)) (s := V / BB ^ 4 % BB) (k := cadd (dsub Z e) e 5) rfl rfl rfl (cadd_le _ _ _) (Nat.mod_lt _ (by decide)) (by decide) (by have h1 := csub_step Z e 4 (by decide); rw [dsub_word hZ hYR hVR hVe (by decide), show e / BB ^ 4 % BB = 0 from ((congrArg (fun q => q % BB) (Nat.div_eq_of_lt (Nat.lt_of_le_of_lt he16 (show 16 < BB ^ 4 by decide +kernel)))).trans (Nat.zero_mod _))] at h1; exact h1) (Nat.mod_lt _ (by decide)) (cadd_le _ _ _)) ?_
  refine at_d rfl rfl (opr_move rfl rfl) ?_
  refine at_d rfl rfl (opr_extract rfl rfl rfl) ?_
  refine at_d rfl rfl (opr_extract rfl rfl rfl) ?_
  refine at_d rfl rfl (opr_assign rfl rfl) ?_
  refine at_d rfl rfl (opr_assign rfl rfl) ?_
  refine at_nil ?_
  refine at_then ?_
  refine at_seq ?_
  refine at_region ?_
  refine at_d rfl rfl (opr_move rfl rfl) ?_
  refine at_d rfl rfl (opr_nilCheck rfl rfl) ?_
  refine at_d rfl rfl (opr_indexAddr (j := 5) rfl rfl rfl Tryz.underlying117 (by decide) size29 rfl) ?_
  refine at_d rfl rfl (opr_load1 (i := 0) rfl rfl rfl Tryz.underlying29 rfl (W_get (digs_get 7 Z 5 (by decide)))) ?_
  refine at_d rfl rfl (opr_move rfl rfl) ?_
  refine at_d rfl rfl (opr_move rfl rfl) ?_
  refine at_d rfl rfl (opr_Sub64D (a := Z / BB ^ 5 % BB) (b := 0) (c := (cadd (dsub Z e) e 5)) (s := V / BB ^ 5 % BB) (k := cadd (dsub Z e) e 6) rfl rfl rfl (cadd_le _ _ _) (Nat.mod_lt _ (by decide)) (by decide) (by have h1 := csub_step Z e 5 (by decide); rw [dsub_word hZ hYR hVR hVe (by decide), show e / BB ^ 5 % BB = 0 from ((congrArg (fun q => q % BB) (Nat.div_eq_of_lt (Nat.lt_of_le_of_lt he16 (show 16 < BB ^ 5 by decide +kernel)))).trans (Nat.zero_mod _))] at h1; exact h1) (Nat.mod_lt _ (by decide)) (cadd_le _ _ _)) ?_
  refine at_d rfl rfl (opr_move rfl rfl) ?_
  refine at_d rfl rfl (opr_extract rfl rfl rfl) ?_
  refine at_d rfl rfl (opr_extract rfl rfl rfl) ?_
  refine at_d rfl rfl (opr_assign rfl rfl) ?_
  refine at_d rfl rfl (opr_assign rfl rfl) ?_
  refine at_nil ?_
  refine at_then ?_
  refine at_seq ?_
  refine at_region ?_
  refine at_d rfl rfl (opr_move rfl rfl) ?_
  refine at_d rfl rfl (opr_nilCheck rfl rfl) ?_
  refine at_d rfl rfl (opr_indexAddr (j := 6) rfl rfl rfl Tryz.underlying117 (by decide) size29 rfl) ?_
  refine at_d rfl rfl (opr_load1 (i := 0) rfl rfl rfl Tryz.underlying29 rfl (W_get (digs_get 7 Z 6 (by decide)))) ?_
  refine at_d rfl rfl (opr_move rfl rfl) ?_
  refine at_d rfl rfl (opr_move rfl rfl) ?_
  refine at_d rfl rfl (opr_Sub64D (a := Z / BB ^ 6 % BB) (b := 0) (c := (cadd (dsub Z e) e 6)) (s := V / BB ^ 6 % BB) (k := cadd (dsub Z e) e 7) rfl rfl rfl (cadd_le _ _ _) (Nat.mod_lt _ (by decide)) (by decide) (by have h1 := csub_step Z e 6 (by decide); rw [dsub_word hZ hYR hVR hVe (by decide), show e / BB ^ 6 % BB = 0 from ((congrArg (fun q => q % BB) (Nat.div_eq_of_lt (Nat.lt_of_le_of_lt he16 (show 16 < BB ^ 6 by decide +kernel)))).trans (Nat.zero_mod _))] at h1; exact h1) (Nat.mod_lt _ (by decide)) (cadd_le _ _ _)) ?_
  refine at_d rfl rfl (opr_move rfl rfl) ?_
  refine at_d rfl rfl (opr_extract rfl rfl rfl) ?_
  refine at_d rfl rfl (opr_extract rfl rfl rfl) ?_
  refine at_d rfl rfl (opr_assign rfl rfl) ?_
  refine at_d rfl rfl (opr_assign rfl rfl) ?_
  refine at_nil ?_
  refine at_then ?_
  refine at_seq ?_
  rw [← mixl_zero (digs BB 7 (V / 16)) (digs BB 7 Z)]
  refine at_region ?_
  refine at_d rfl rfl (opr_move rfl rfl) ?_
  refine at_d rfl rfl (opr_move rfl rfl) ?_
  refine at_d rfl rfl (opr_eq' (opr_shr64 (a := V / BB ^ 0 % BB) (n := 4) rfl rfl rfl (by decide)) (u64_eq' (b := V / BB ^ 0 % BB / 16) rfl)) ?_
  refine at_d rfl rfl (opr_move rfl rfl) ?_
  refine at_d rfl rfl (opr_shl64 (a := V / BB ^ 1 % BB) (n := 60) rfl rfl rfl (by decide)) ?_
  refine at_d rfl rfl (opr_or64 rfl rfl rfl (Nat.lt_of_le_of_lt (Nat.div_le_self _ _) (Nat.mod_lt _ (by decide))) (Nat.mod_lt _ (by decide))) ?_
  refine at_d rfl rfl (opr_nilCheck rfl rfl) ?_
  refine at_d rfl rfl (opr_indexAddr (j := 0) rfl rfl rfl Tryz.underlying117 (by decide) size29 rfl) ?_
  refine at_d rfl rfl (opr_store (i := 0) rfl rfl rfl rfl rfl size29 rfl (by rw [W_length, mixl_length (digs_length _ _ _) (digs_length _ _ _) (by decide)]; decide) flat_one (W_put (by rw [mixl_length (digs_length _ _ _) (digs_length _ _ _) (by decide)]; decide) (mixl_put (digs_length _ _ _) (digs_length _ _ _) (by decide) ((digs_get 7 (V / 16) 0 (by decide)).trans (congrArg some (shr4 V 0)))))) ?_
  refine at_nil ?_
  refine at_then ?_
  refine at_seq ?_
  refine at_region ?_
  refine at_d rfl rfl (opr_move rfl rfl) ?_
  refine at_d rfl rfl (opr_move rfl rfl) ?_
  refine at_d rfl rfl (opr_eq' (opr_shr64 (a := V / BB ^ 1 % BB) (n := 4) rfl rfl rfl (by decide)) (u64_eq' (b := V / BB ^ 1 % BB / 16) rfl)) ?_
  refine at_d rfl rfl (opr_move rfl rfl) ?_
  refine at_d rfl rfl (opr_shl64 (a := V / BB ^ 2 % BB) (n := 60) rfl rfl rfl (by decide)) ?_
  refine at_d rfl rfl (opr_or64 rfl rfl rfl (Nat.lt_of_le_of_lt (Nat.div_le_self _ _) (Nat.mod_lt _ (by decide))) (Nat.mod_lt _ (by decide))) ?_
  refine at_d rfl rfl (opr_nilCheck rfl rfl) ?_
  refine at_d rfl rfl (opr_indexAddr (j := 1) rfl rfl rfl Tryz.underlying117 (by decide) size29 rfl) ?_
  refine at_d rfl rfl (opr_store (i := 0) rfl rfl rfl rfl rfl size29 rfl (by rw [W_length, mixl_length (digs_length _ _ _) (digs_length _ _ _) (by decide)]; decide) flat_one (W_put (by rw [mixl_length (digs_length _ _ _) (digs_length _ _ _) (by decide)]; decide) (mixl_put (digs_length _ _ _) (digs_length _ _ _) (by decide) ((digs_get 7 (V / 16) 1 (by decide)).trans (congrArg some (shr4 V 1)))))) ?_
  refine at_nil ?_
  refine at_then ?_
  refine at_seq ?_
  refine at_region ?_
  refine at_d rfl rfl (opr_move rfl rfl) ?_
  refine at_d rfl rfl (opr_move rfl rfl) ?_
  refine at_d rfl rfl (opr_eq' (opr_shr64 (a := V / BB ^ 2 % BB) (n := 4) rfl rfl rfl (by decide)) (u64_eq' (b := V / BB ^ 2 % BB / 16) rfl)) ?_
  refine at_d rfl rfl (opr_move rfl rfl) ?_
  refine at_d rfl rfl (opr_shl64 (a := V / BB ^ 3 % BB) (n := 60) rfl rfl rfl (by decide)) ?_
  refine at_d rfl rfl (opr_or64 rfl rfl rfl (Nat.lt_of_le_of_lt (Nat.div_le_self _ _) (Nat.mod_lt _ (by decide))) (Nat.mod_lt _ (by decide))) ?_
  refine at_d rfl rfl (opr_nilCheck rfl rfl) ?_
  refine at_d rfl rfl (opr_indexAddr (j := 2) rfl rfl rfl Tryz.underlying117 (by decide) size29 rfl) ?_
  refine at_d rfl rfl (opr_store (i := 0) rfl rfl rfl rfl rfl size29 rfl (by rw [W_length, mixl_length (digs_length _ _ _) (digs_length _ _ _) (by decide)]; decide) flat_one (W_put (by rw [mixl_length (digs_length _ _ _) (digs_length _ _ _) (by decide)]; decide) (mixl_put (digs_length _ _ _) (digs_length _ _ _) (by decide) ((digs_get 7 (V / 16) 2 (by decide)).trans (congrArg some (shr4 V 2)))))) ?_
  refine at_nil ?_
  refine at_then ?_
  refine at_seq ?_
  refine at_region ?_
  refine at_d rfl rfl (opr_move rfl rfl) ?_
  refine at_d rfl rfl (opr_move rfl rfl) ?_
  refine at_d rfl rfl (opr_eq' (opr_shr64 (a := V / BB ^ 3 % BB) (n := 4) rfl rfl rfl (by decide)) (u64_eq' (b := V / BB ^ 3 % BB / 16) rfl)) ?_
  refine at_d rfl rfl (opr_move rfl rfl) ?_
  refine at_d rfl rfl (opr_shl64 (a := V / BB ^ 4 % BB) (n := 60) rfl rfl rfl (by decide)) ?_
  refine at_d rfl rfl (opr_or64 rfl rfl rfl (Nat.lt_of_le_of_lt (Nat.div_le_self _ _) (Nat.mod_lt _ (by decide))) (Nat.mod_lt _ (by decide))) ?_
  refine at_d rfl rfl (opr_nilCheck rfl rfl) ?_
  refine at_d rfl rfl (opr_indexAddr (j := 3) rfl rfl rfl Tryz.underlying117 (by decide) size29 rfl) ?_
  refine at_d rfl rfl (opr_store (i := 0) rfl rfl rfl rfl rfl size29 rfl (by rw [W_length, mixl_length (digs_length _ _ _) (digs_length _ _ _) (by decide)]; decide) flat_one (W_put (by rw [mixl_length (digs_length _ _ _) (digs_length _ _ _) (by decide)]; decide) (mixl_put (digs_length _ _ _) (digs_length _ _ _) (by decide) ((digs_get 7 (V / 16) 3 (by decide)).trans (congrArg some (shr4 V 3)))))) ?_
  refine at_nil ?_
  refine at_then ?_
  refine at_seq ?_
  refine at_region ?_
  refine at_d rfl rfl (opr_move rfl rfl) ?_
  refine at_d rfl rfl (opr_move rfl rfl) ?_
  refine at_d rfl rfl (opr_eq' (opr_shr64 (a := V / BB ^ 4 % BB) (n := 4) rfl rfl rfl (by decide)) (u64_eq' (b := V / BB ^ 4 % BB / 16) rfl)) ?_
  refine at_d rfl rfl (opr_move rfl rfl) ?_
  refine at_d rfl rfl (opr_shl64 (a := V / BB ^ 5 % BB) (n := 60) rfl rfl rfl (by decide)) ?_
  refine at_d rfl rfl (opr_or64 rfl rfl rfl (Nat.lt_of_le_of_lt (Nat.div_le_self _ _) (Nat.mod_lt _ (by decide))) (Nat.mod_lt _ (by decide))) ?_
  refine at_d rfl rfl (opr_nilCheck rfl rfl) ?_
  refine at_d rfl rfl (opr_indexAddr (j := 4) rfl rfl rfl Tryz.underlying117 (by decide) size29 rfl) ?_
  refine at_d rfl rfl (opr_store (i := 0) rfl rfl rfl rfl rfl size29 rfl (by rw [W_length, mixl_length (digs_length _ _ _) (digs_length _ _ _) (by decide)]; decide) flat_one (W_put (by rw [mixl_length (digs_length _ _ _) (digs_length _ _ _) (by decide)]; decide) (mixl_put (digs_length _ _ _) (digs_length _ _ _) (by decide) ((digs_get 7 (V / 16) 4 (by decide)).trans (congrArg some (shr4 V 4)))))) ?_
  refine at_nil ?_
  refine at_then ?_
  refine at_seq ?_
  refine at_region ?_
  refine at_d rfl rfl (opr_move rfl rfl) ?_
  refine at_d rfl rfl (opr_move rfl rfl) ?_
  refine at_d rfl rfl (opr_eq' (opr_shr64 (a := V / BB ^ 5 % BB) (n := 4) rfl rfl rfl (by decide)) (u64_eq' (b := V / BB ^ 5 % BB / 16) rfl)) ?_
  refine at_d rfl rfl (opr_move rfl rfl) ?_
  refine at_d rfl rfl (opr_shl64 (a := V / BB ^ 6 % BB) (n := 60) rfl rfl rfl (by decide)) ?_
  refine at_d rfl rfl (opr_or64 rfl rfl rfl (Nat.lt_of_le_of_lt (Nat.div_le_self _ _) (Nat.mod_lt _ (by decide))) (Nat.mod_lt _ (by decide))) ?_
  refine at_d rfl rfl (opr_nilCheck rfl rfl) ?_
  refine at_d rfl rfl (opr_indexAddr (j := 5) rfl rfl rfl Tryz.underlying117 (by decide) size29 rfl) ?_
  refine at_d rfl rfl (opr_store (i := 0) rfl rfl rfl rfl rfl size29 rfl (by rw [W_length, mixl_length (digs_length _ _ _) (digs_length _ _ _) (by decide)]; decide) flat_one (W_put (by rw [mixl_length (digs_length _ _ _) (digs_length _ _ _) (by decide)]; decide) (mixl_put (digs_length _ _ _) (digs_length _ _ _) (by decide) ((digs_get 7 (V / 16) 5 (by decide)).trans (congrArg some (shr4 V 5)))))) ?_
  refine at_nil ?_
  refine at_then ?_
  refine at_region ?_
  refine at_d rfl rfl (opr_move rfl rfl) ?_
  refine at_d rfl rfl (opr_move rfl rfl) ?_
  refine at_d rfl rfl (opr_eq' (opr_shr64 (a := V / BB ^ 6 % BB) (n := 4) rfl rfl rfl (by decide)) (u64_eq' (b := V / BB ^ 6 % BB / 16) rfl)) ?_
  refine at_d rfl rfl (opr_nilCheck rfl rfl) ?_
  refine at_d rfl rfl (opr_indexAddr (j := 6) rfl rfl rfl Tryz.underlying117 (by decide) size29 rfl) ?_
  refine at_d rfl rfl (opr_store (i := 0) rfl rfl rfl rfl rfl size29 rfl (by rw [W_length, mixl_length (digs_length _ _ _) (digs_length _ _ _) (by decide)]; decide) flat_one (W_put (by rw [mixl_length (digs_length _ _ _) (digs_length _ _ _) (by decide)]; decide) (mixl_put (digs_length _ _ _) (digs_length _ _ _) (by decide) ((digs_get 7 (V / 16) 6 (by decide)).trans (congrArg some (shr4_top (by rw [RR_B] at hVR; exact hVR))))))) ?_
  refine at_nil ?_
  rw [mixl_end (digs_length _ _ _) (digs_length _ _ _)]
  exact done_of (res0 Tryz.results79) ⟨rfl, rfl⟩ (List.Sublist.refl _)
set_option maxHeartbeats 1000000 in
theorem subY1_ct {M : Mem} {gz Tz Z V e : Nat} (hZ : Z < RR) (hVR : V < RR) (he1 : 1 ≤ e) (he16 : e ≤ 16) (hVe : (V + (RR - e)) % RR = Z) : Ct Tryz.prog 79 #[.pointer (some ⟨gz, 0, none⟩), .int .i64 (-(e : Int))] (⟨gz, Tz, W (digs BB 7 Z)⟩ :: M) (Det (.tuple #[]) (⟨gz, Tz, W (digs BB 7 (V / 16))⟩ :: M)) := by
  have hYR : (RR - e) < RR := Nat.sub_lt (by decide +kernel) he1
  refine ct_of (vs := [.pointer (some ⟨gz, 0, none⟩), .int .i64 (-(e : Int))]) Tryz.func79 rfl Tryz.ntmps79 rfl fun w0 => ?_
  refine at_seq ?_
  refine at_region ?_
  refine at_d rfl rfl (opr_move rfl rfl) ?_
  refine at_d rfl rfl (opr_shrK (n := 63) (c := -1) rfl rfl rfl (fd_neg he1 he16)) ?_
  refine at_d rfl rfl (opr_conv (c := (((BB - 1) : Nat) : Int)) rfl rfl Tryz.underlying2 Tryz.underlying29 rfl) ?_
  refine at_d rfl rfl (opr_assign rfl rfl) ?_
  refine at_nil ?_
  refine at_then ?_
  refine at_seq ?_
  refine at_region ?_
  refine at_d rfl rfl (opr_move rfl rfl) ?_
  refine at_d rfl rfl (opr_nilCheck rfl rfl) ?_
  refine at_d rfl rfl (opr_indexAddr (j := 0) rfl rfl rfl Tryz.underlying117 (by decide) size29 rfl) ?_
  refine at_d rfl rfl (opr_load1 (i := 0) rfl rfl rfl Tryz.underlying29 rfl (W_get (digs_get 7 Z 0 (by decide)))) ?_
  refine at_d rfl rfl (opr_move rfl rfl) ?_
  refine at_d rfl rfl (opr_conv (c := (((BB - e) : Nat) : Int)) rfl rfl Tryz.underlying2 Tryz.underlying29 (by rw [wrap_u64]; simp only [BB]; omega)) ?_
  refine at_d rfl rfl (opr_Sub64D (a := Z / BB ^ 0 % BB) (b := (BB - e)) (c := 0) (s := V / BB ^ 0 % BB) (k := cadd (dsub Z (RR - e)) (RR - e) 1) rfl rfl rfl (by decide) (Nat.mod_lt _ (by decide)) (by simp only [BB]; omega) (by have h1 := csub_step Z (RR - e) 0 (by decide); rw [dsub_word hZ hYR hVR hVe (by decide), show (RR - e) / BB ^ 0 % BB = (BB - e) from (two_neg0 he1 he16), cadd_zero] at h1; exact h1) (Nat.mod_lt _ (by decide)) (cadd_le _ _ _)) ?_
  refine at_d rfl rfl (opr_move rfl rfl) ?_
  refine at_d rfl rfl (opr_extract rfl rfl rfl) ?_
  refine at_d rfl rfl (opr_extract rfl rfl rfl) ?_
  refine at_d rfl rfl (opr_assign rfl rfl) ?_
  refine at_d rfl rfl (opr_assign rfl rfl) ?_
  refine at_nil ?_
  refine at_then ?_
  refine at_seq ?_
  refine at_region ?_
  refine at_d rfl rfl (opr_move rfl rfl) ?_
  refine at_d rfl rfl (opr_nilCheck rfl rfl) ?_
  refine at_d rfl rfl (opr_indexAddr (j := 1) rfl rfl rfl Tryz.underlying117 (by decide) size29 rfl) ?_
  refine at_d rfl rfl (opr_load1 (i := 0) rfl rfl rfl Tryz.underlying29 rfl (W_get (digs_get 7 Z 1 (by decide)))) ?_
  refine at_d rfl rfl (opr_move rfl rfl) ?_
  refine at_d rfl rfl (opr_move rfl rfl) ?_
  refine at_d rfl rfl (opr_Sub64D (a := Z / BB ^ 1 % BB) (b := (BB - 1)) (c := (cadd (dsub Z (RR - e)) (RR - e) 1)) (s := V / BB ^ 1 % BB) (k := cadd (dsub Z (RR - e)) (RR - e) 2) rfl rfl rfl (cadd_le _ _ _) (Nat.mod_lt _ (by decide)) (by decide) (by have h1 := csub_step Z (RR - e) 1 (by decide); rw [dsub_word hZ hYR hVR hVe (by decide), show (RR - e) / BB ^ 1 % BB = (BB - 1) from (two_neg (k := 0) he1 he16 (by decide))] at h1; exact h1) (Nat.mod_lt _ (by decide)) (cadd_le _ _ _)) ?_
  refine at_d rfl rfl (opr_move rfl rfl) ?_
  refine at_d rfl rfl (opr_extract rfl rfl rfl) ?_
  refine at_d rfl rfl (opr_extract rfl rfl rfl) ?_
  refine at_d rfl rfl (opr_assign rfl rfl) ?_
  refine at_d rfl rfl (opr_assign rfl rfl) ?_
  refine at_nil ?_
  refine at_then ?_
  refine at_seq ?_
  refine at_region ?_
  refine at_d rfl rfl (opr_move rfl rfl) ?_
  refine at_d rfl rfl (opr_nilCheck rfl rfl) ?_
  refine at_d rfl rfl (opr_indexAddr (j := 2) rfl rfl rfl Tryz.underlying117 (by decide) size29 rfl) ?_
  refine at_d rfl rfl (opr_load1 (i := 0) rfl rfl rfl Tryz.underlying29 rfl (W_get (digs_get 7 Z 2 (by decide)))) ?_
  refine at_d rfl rfl (opr_move rfl rfl) ?_
  refine at_d rfl rfl (opr_move rfl rfl) ?_
  refine at_d rfl rfl (opr_Sub64D (a := Z / BB ^ 2 % BB) (b := (BB - 1)) (c := (cadd (dsub Z (RR - e)) (RR - e) 2)) (s := V / BB ^ 2 % BB) (k := cadd (dsub Z (RR - e)) (RR - e) 3) rfl rfl rfl (cadd_le _ _ _) (Nat.mod_lt _ (by decide)) (by decide) (by have h1 := csub_step Z (RR - e) 2 (by decide); rw [dsub_word hZ hYR hVR hVe (by decide), show (RR - e) / BB ^ 2 % BB = (BB - 1) from (two_neg (k := 1) he1 he16 (by decide))] at h1; exact h1) (Nat.mod_lt _ (by decide)) (cadd_le _ _ _)) ?_
  refine at_d rfl rfl (opr_move rfl rfl) ?_
  refine at_d rfl rfl (opr_extract rfl rfl rfl) ?_
  refine at_d rfl rfl (opr_extract rfl rfl rfl) ?_
  refine at_d rfl rfl (opr_assign rfl rfl) ?_
  refine at_d rfl rfl (opr_assign rfl rfl) ?_
  refine at_nil ?_
  refine at_then ?_
  refine at_seq ?_
  refine at_region ?_
  refine at_d rfl rfl (opr_move rfl rfl) ?_
  refine at_d rfl rfl (opr_nilCheck rfl rfl) ?_
  refine at_d rfl rfl (opr_indexAddr (j := 3) rfl rfl rfl Tryz.underlying117 (by decide) size29 rfl) ?_
  refine at_d rfl rfl (opr_load1 (i := 0) rfl rfl rfl Tryz.underlying29 rfl (W_get (digs_get 7 Z 3 (by decide)))) ?_
  refine at_d rfl rfl (opr_move rfl rfl) ?_
  refine at_d rfl rfl (opr_move rfl rfl) ?_
  refine at_d rfl rfl (opr_Sub64D (a := Z / BB ^ 3 % BB) (b := (BB - 1)) (c := (cadd (dsub Z (RR - e)) (RR - e) 3)) (s := V / BB ^ 3 % BB) (k := cadd (dsub Z (RR - e)) (RR - e) 4) rfl rfl rfl (cadd_le _ _ _) (Nat.mod_lt _ (by decide)) (by decide) (by have h1 := csub_step Z (RR - e) 3 (by decide); rw [dsub_word hZ hYR hVR hVe (by decide), show (RR - e) / BB ^ 3 % BB = (BB - 1) from (two_neg (k := 2) he1 he16 (by decide))] at h1; exact h1) (Nat.mod_lt _ (by decide)) (cadd_le _ _ _)) ?_
  refine at_d rfl rfl (opr_move rfl rfl) ?_
  refine at_d rfl rfl (opr_extract rfl rfl rfl) ?_
  refine at_d rfl rfl (opr_extract rfl rfl rfl) ?_
  refine at_d rfl rfl (opr_assign rfl rfl) ?_
  refine at_d rfl rfl (opr_assign rfl rfl) ?_
  refine at_nil ?_
  refine at_then ?_
  refine at_seq ?_
  refine at_region ?_
  refine at_d rfl rfl (opr_move rfl rfl) ?_
  refine at_d rfl rfl (opr_nilCheck rfl rfl) ?_
  refine at_d rfl rfl (opr_indexAddr (j := 4) rfl rfl rfl Tryz.underlying117 (by decide) size29 rfl) ?_
  refine at_d rfl rfl (opr_load1 (i := 0) rfl rfl rfl Tryz.underlying29 rfl (W_get (digs_get 7 Z 4 (by decide)))) ?_
  refine at_d rfl rfl (opr_move rfl rfl) ?_
  refine at_d rfl rfl (opr_move rfl rfl) ?_
  refine at_d rfl rfl (opr_Sub64D (a := Z / BB ^ 4 % BB) (b := (BB - 1)) (c := (cadd (dsub Z (RR - e)) (RR - e) 4)) (s := V / BB ^ 4 % BB) (k := cadd (dsub Z (RR - e)) (RR - e) 5) rfl rfl rfl (cadd_le _ _ _) (Nat.mod_lt _ (by decide)) (by decide) (by have h1 := csub_step Z (RR - e) 4 (by decide); rw [dsub_word hZ hYR hVR hVe (by decide), show (RR - e) / BB ^ 4 % BB = (BB - 1) from (two_neg (k := 3) he1 he16 (by decide))] at h1; exact h1) (Nat.mod_lt _ (by decide)) (cadd_le _ _ _)) ?_
  refine at_d rfl rfl (opr_move rfl rfl) ?_
  refine at_d rfl rfl (opr_extract rfl rfl rfl) ?_
  refine at_d rfl rfl (opr_extract rfl rfl rfl) ?_
  refine at_d rfl rfl (opr_assign rfl rfl) ?_
  refine at_d rfl rfl (opr_assign rfl rfl) ?_
  refine at_nil ?_
  refine at_then ?_
  refine at_seq ?_
  refine at_region ?_
  refine at_d rfl rfl (opr_move rfl rfl) ?_
  refine at_d rfl rfl (opr_nilCheck rfl rfl) ?_
  refine at_d rfl rfl (opr_indexAddr (j := 5) rfl rfl rfl Tryz.underlying117 (by decide) size29 rfl) ?_
  refine at_d rfl rfl (opr_load1 (i := 0) rfl rfl rfl Tryz.underlying29 rfl (W_get (digs_get 7 Z 5 (by decide)))) ?_
  refine at_d rfl rfl (opr_move rfl rfl) ?_
  refine at_d rfl rfl (opr_move rfl rfl) ?_
  refine at_d rfl rfl (opr_Sub64D (a := Z / BB ^ 5 % BB) (b := (BB - 1)) (c := (cadd (dsub Z (RR - e)) (RR - e) 5)) (s := V / BB ^ 5 % BB) (k := cadd (dsub Z (RR - e)) (RR - e) 6) rfl rfl rfl (cadd_le _ _ _) (Nat.mod_lt _ (by decide)) (by decide) (by have h1 := csub_step Z (RR - e) 5 (by decide); rw [dsub_word hZ hYR hVR hVe (by decide), show (RR - e) / BB ^ 5 % BB = (BB - 1) from (two_neg (k := 4) he1 he16 (by decide))] at h1; exact h1) (Nat.mod_lt _ (by decide)) (cadd_le _ _ _)) ?_
  refine at_d rfl rfl (opr_move rfl rfl) ?_
  refine at_d rfl rfl (opr_extract rfl rfl rfl) ?_
  refine at_d rfl rfl (opr_extract rfl rfl rfl) ?_
  refine at_d rfl rfl (opr_assign rfl rfl) ?_
  refine at_d rfl rfl (opr_assign rfl rfl) ?_
  refine at_nil ?_
  refine at_then ?_
  refine at_seq ?_
  refine at_region ?_
  refine at_d rfl rfl (opr_move rfl rfl) ?_
  refine at_d rfl rfl (opr_nilCheck rfl rfl) ?_
  refine at_d rfl rfl (opr_indexAddr (j := 6) rfl rfl rfl Tryz.underlying117 (by decide) size29 rfl) ?_
  refine at_d rfl rfl (opr_load1 (i := 0) rfl rfl rfl Tryz.underlying29 rfl (W_get (digs_get 7 Z 6 (by decide)))) ?_
  refine at_d rfl rfl (opr_move rfl rfl) ?_
  refine at_d rfl rfl (opr_move rfl rfl) ?_
  refine at_d rfl rfl (opr_Sub64D (a := Z / BB ^ 6 % BB) (b := (BB - 1)) (c := (cadd (dsub Z (RR - e)) (RR - e) 6)) (s := V / BB ^ 6 % BB) (k := cadd (dsub Z (RR - e)) (RR - e) 7) rfl rfl rfl (cadd_le _ _ _) (Nat.mod_lt _ (by decide)) (by decide) (by have h1 := csub_step Z (RR - e) 6 (by decide); rw [dsub_word hZ hYR hVR hVe (by decide), show (RR - e) / BB ^ 6 % BB = (BB - 1) from (two_neg (k := 5) he1 he16 (by decide))] at h1; exact h1) (Nat.mod_lt _ (by decide)) (cadd_le _ _ _)) ?_
  refine at_d rfl rfl (opr_move rfl rfl) ?_
  refine at_d rfl rfl (opr_extract rfl rfl rfl) ?_
  refine at_d rfl rfl (opr_extract rfl rfl rfl) ?_
  refine at_d rfl rfl (opr_assign rfl rfl) ?_
  refine at_d rfl rfl (opr_assign rfl rfl) ?_
  refine at_nil ?_
  refine at_then ?_
  refine at_seq ?_
  rw [← mixl_zero (digs BB 7 (V / 16)) (digs BB 7 Z)]
  refine at_region ?_
  refine at_d rfl rfl (opr_move rfl rfl) ?_
  refine at_d rfl rfl (opr_move rfl rfl) ?_
  refine at_d rfl rfl (opr_eq' (opr_shr64 (a := V / BB ^ 0 % BB) (n := 4) rfl rfl rfl (by decide)) (u64_eq' (b := V / BB ^ 0 % BB / 16) rfl)) ?_
  refine at_d rfl rfl (opr_move rfl rfl) ?_
  refine at_d rfl rfl (opr_shl64 (a := V / BB ^ 1 % BB) (n := 60) rfl rfl rfl (by decide)) ?_
  refine at_d rfl rfl (opr_or64 rfl rfl rfl (Nat.lt_of_le_of_lt (Nat.div_le_self _ _) (Nat.mod_lt _ (by decide))) (Nat.mod_lt _ (by decide))) ?_
  refine at_d rfl rfl (opr_nilCheck rfl rfl) ?_
  refine at_d rfl rfl (opr_indexAddr (j := 0) rfl rfl rfl Tryz.underlying117 (by decide) size29 rfl) ?_
  refine at_d rfl rfl (opr_store (i := 0) rfl rfl rfl rfl rfl size29 rfl (by rw [W_length, mixl_length (digs_length _ _ _) (digs_length _ _ _) (by decide)]; decide) flat_one (W_put (by rw [mixl_length (digs_length _ _ _) (digs_length _ _ _) (by decide)]; decide) (mixl_put (digs_length _ _ _) (digs_length _ _ _) (by decide) ((digs_get 7 (V / 16) 0 (by decide)).trans (congrArg some (shr4 V 0)))))) ?_
  refine at_nil ?_
  refine at_then ?_
  refine at_seq ?_
  refine at_region ?_
  refine at_d rfl rfl (opr_move rfl rfl) ?_
  refine at_d rfl rfl (opr_move rfl rfl) ?_
  refine at_d rfl rfl (opr_eq' (opr_shr64 (a := V / BB ^ 1 % BB) (n := 4) rfl rfl rfl (by decide)) (u64_eq' (b := V / BB ^ 1 % BB / 16) rfl)) ?_
  refine at_d rfl rfl (opr_move rfl rfl) ?_
  refine at_d rfl rfl (opr_shl64 (a := V / BB ^ 2 % BB) (n := 60) rfl rfl rfl (by decide)) ?_
  refine at_d rfl rfl (opr_or64 rfl rfl rfl (Nat.lt_of_le_of_lt (Nat.div_le_self _ _) (Nat.mod_lt _ (by decide))) (Nat.mod_lt _ (by decide))) ?_
  refine at_d rfl rfl (opr_nilCheck rfl rfl) ?_
  refine at_d rfl rfl (opr_indexAddr (j := 1) rfl rfl rfl Tryz.underlying117 (by decide) size29 rfl) ?_
  refine at_d rfl rfl (opr_store (i := 0) rfl rfl rfl rfl rfl size29 rfl (by rw [W_length, mixl_length (digs_length _ _ _) (digs_length _ _ _) (by decide)]; decide) flat_one (W_put (by rw [mixl_length (digs_length _ _ _) (digs_length _ _ _) (by decide)]; decide) (mixl_put (digs_length _ _ _) (digs_length _ _ _) (by decide) ((digs_get 7 (V / 16) 1 (by decide)).trans (congrArg some (shr4 V 1)))))) ?_
  refine at_nil ?_
  refine at_then ?_
  refine at_seq ?_
  refine at_region ?_
  refine at_d rfl rfl (opr_move rfl rfl) ?_
  refine at_d rfl rfl (opr_move rfl rfl) ?_
  refine at_d rfl rfl (opr_eq' (opr_shr64 (a := V / BB ^ 2 % BB) (n := 4) rfl rfl rfl (by decide)) (u64_eq' (b := V / BB ^ 2 % BB / 16) rfl)) ?_
  refine at_d rfl rfl (opr_move rfl rfl) ?_
  refine at_d rfl rfl (opr_shl64 (a := V / BB ^ 3 % BB) (n := 60) rfl rfl rfl (by decide)) ?_
  refine at_d rfl rfl (opr_or64 rfl rfl rfl (Nat.lt_of_le_of_lt (Nat.div_le_self _ _) (Nat.mod_lt _ (by decide))) (Nat.mod_lt _ (by decide))) ?_
  refine at_d rfl rfl (opr_nilCheck rfl rfl) ?_
  refine at_d rfl rfl (opr_indexAddr (j := 2) rfl rfl rfl Tryz.underlying117 (by decide) size29 rfl) ?_
  refine at_d rfl rfl (opr_store (i := 0) rfl rfl rfl rfl rfl size29 rfl (by rw [W_length, mixl_length (digs_length _ _ _) (digs_length _ _ _) (by decide)]; decide) flat_one (W_put (by rw [mixl_length (digs_length _ _ _) (digs_length _ _ _) (by decide)]; decide) (mixl_put (digs_length _ _ _) (digs_length _ _ _) (by decide) ((digs_get 7 (V / 16) 2 (by decide)).trans (congrArg some (shr4 V 2)))))) ?_
  refine at_nil ?_
  refine at_then ?_
  refine at_seq ?_
  refine at_region ?_
  refine at_d rfl rfl (opr_move rfl rfl) ?_
  refine at_d rfl rfl (opr_move rfl rfl) ?_
  refine at_d rfl rfl (opr_eq' (opr_shr64 (a := V / BB ^ 3 % BB) (n := 4) rfl rfl rfl (by decide)) (u64_eq' (b := V / BB ^ 3 % BB / 16) rfl)) ?_
  refine at_d rfl rfl (opr_move rfl rfl) ?_
  refine at_d rfl rfl (opr_shl64 (a := V / BB ^ 4 % BB) (n := 60) rfl rfl rfl (by decide)) ?_
  refine at_d rfl rfl (opr_or64 rfl rfl rfl (Nat.lt_of_le_of_lt (Nat.div_le_self _ _) (Nat.mod_lt _ (by decide))) (Nat.mod_lt _ (by decide))) ?_
  refine at_d rfl rfl (opr_nilCheck rfl rfl) ?_
  refine at_d rfl rfl (opr_indexAddr (j := 3) rfl rfl rfl Tryz.underlying117 (by decide) size29 rfl) ?_
  refine at_d rfl rfl (opr_store (i := 0) rfl rfl rfl rfl rfl size29 rfl (by rw [W_length, mixl_length (digs_length _ _ _) (digs_length _ _ _) (by decide)]; decide) flat_one (W_put (by rw [mixl_length (digs_length _ _ _) (digs_length _ _ _) (by decide)]; decide) (mixl_put (digs_length _ _ _) (digs_length _ _ _) (by decide) ((digs_get 7 (V / 16) 3 (by decide)).trans (congrArg some (shr4 V 3)))))) ?_
  refine at_nil ?_
  refine at_then ?_
  refine at_seq ?_
  refine at_region ?_
  refine at_d rfl rfl (opr_move rfl rfl) ?_
  refine at_d rfl rfl (opr_move rfl rfl) ?_
  refine at_d rfl rfl (opr_eq' (opr_shr64 (a := V / BB ^ 4 % BB) (n := 4) rfl rfl rfl (by decide)) (u64_eq' (b := V / BB ^ 4 % BB / 16) rfl)) ?_
  refine at_d rfl rfl (opr_move rfl rfl) ?_
  refine at_d rfl rfl (opr_shl64 (a := V / BB ^ 5 % BB) (n := 60) rfl rfl rfl (by decide)) ?_
  refine at_d rfl rfl (opr_or64 rfl rfl rfl (Nat.lt_of_le_of_lt (Nat.div_le_self _ _) (Nat.mod_lt _ (by decide))) (Nat.mod_lt _ (by decide))) ?_
  refine at_d rfl rfl (opr_nilCheck rfl rfl) ?_
  refine at_d rfl rfl (opr_indexAddr (j := 4) rfl rfl rfl Tryz.underlying117 (by decide) size29 rfl) ?_
  refine at_d rfl rfl (opr_store (i := 0) rfl rfl rfl rfl rfl size29 rfl (by rw [W_length, mixl_length (digs_length _ _ _) (digs_length _ _ _) (by decide)]; decide) flat_one (W_put (by rw [mixl_length (digs_length _ _ _) (digs_length _ _ _) (by decide)]; decide) (mixl_put (digs_length _ _ _) (digs_length _ _ _) (by decide) ((digs_get 7 (V / 16) 4 (by decide)).trans (congrArg some (shr4 V 4)))))) ?_
  refine at_nil ?_
  refine at_then ?_
  refine at_seq ?_
  refine at_region ?_
  refine at_d rfl rfl (opr_move rfl rfl) ?_
  refine at_d rfl rfl (opr_move rfl rfl) ?_
  refine at_d rfl rfl (opr_eq' (opr_shr64 (a := V / BB ^ 5 % BB) (n := 4) rfl rfl rfl (by decide)) (u64_eq' (b := V / BB ^ 5 % BB / 16) rfl)) ?_
  refine at_d rfl rfl (opr_move rfl rfl) ?_
  refine at_d rfl rfl (opr_shl64 (a := V / BB ^ 6 % BB) (n := 60) rfl rfl rfl (by decide)) ?_
  refine at_d rfl rfl (opr_or64 rfl rfl rfl (Nat.lt_of_le_of_lt (Nat.div_le_self _ _) (Nat.mod_lt _ (by decide))) (Nat.mod_lt _ (by decide))) ?_
  refine at_d rfl rfl (opr_nilCheck rfl rfl) ?_
  refine at_d rfl rfl (opr_indexAddr (j := 5) rfl rfl rfl Tryz.underlying117 (by decide) size29 rfl) ?_
  refine at_d rfl rfl (opr_store (i := 0) rfl rfl rfl rfl rfl size29 rfl (by rw [W_length, mixl_length (digs_length _ _ _) (digs_length _ _ _) (by decide)]; decide) flat_one (W_put (by rw [mixl_length (digs_length _ _ _) (digs_length _ _ _) (by decide)]; decide) (mixl_put (digs_length _ _ _) (digs_length _ _ _) (by decide) ((digs_get 7 (V / 16) 5 (by decide)).trans (congrArg some (shr4 V 5)))))) ?_
  refine at_nil ?_
  refine at_then ?_
  refine at_region ?_
  refine at_d rfl rfl (opr_move rfl rfl) ?_
  refine at_d rfl rfl (opr_move rfl rfl) ?_
  refine at_d rfl rfl (opr_eq' (opr_shr64 (a := V / BB ^ 6 % BB) (n := 4) rfl rfl rfl (by decide)) (u64_eq' (b := V / BB ^ 6 % BB / 16) rfl)) ?_
  refine at_d rfl rfl (opr_nilCheck rfl rfl) ?_
  refine at_d rfl rfl (opr_indexAddr (j := 6) rfl rfl rfl Tryz.underlying117 (by decide) size29 rfl) ?_
  refine at_d rfl rfl (opr_store (i := 0) rfl rfl rfl rfl rfl size29 rfl (by rw [W_length, mixl_length (digs_length _ _ _) (digs_length _ _ _) (by decide)]; decide) flat_one (W_put (by rw [mixl_length (digs_length _ _ _) (digs_length _ _ _) (by decide)]; decide) (mixl_put (digs_length _ _ _) (digs_length _ _ _) (by decide) ((digs_get 7 (V / 16) 6 (by decide)).trans (congrArg some (shr4_top (by rw [RR_B] at hVR; exact hVR))))))) ?_
  refine at_nil ?_
  rw [mixl_end (digs_length _ _ _) (digs_length _ _ _)]
  exact done_of (res0 Tryz.results79) ⟨rfl, rfl⟩ (List.Sublist.refl _)
theorem subY_ct {M : Mem} {gz Tz Z V : Nat} {d : Int} (hZ : Z < RR) (hVR : V < RR) (hd : -16 ≤ d ∧ d ≤ 16) (hV : (V : Int) = Z - d) : Ct Tryz.prog 79 #[.pointer (some ⟨gz, 0, none⟩), .int .i64 d] (⟨gz, Tz, W (digs BB 7 Z)⟩ :: M) (Det (.tuple #[]) (⟨gz, Tz, W (digs BB 7 (V / 16))⟩ :: M)) := by
  rcases Int.le_total 0 d with h | h
  · obtain ⟨e, rfl⟩ := Int.eq_ofNat_of_zero_le h
    exact subY0_ct hZ hVR (by omega) (by rw [Nat.mod_eq_of_lt (by omega)]; omega)
  · by_cases h0 : d = 0
    · subst h0
      exact subY0_ct (e := 0) hZ hVR (by decide) (by rw [Nat.add_zero, Nat.mod_eq_of_lt hVR]; omega)
    · obtain ⟨e, he⟩ := Int.eq_ofNat_of_zero_le (show 0 ≤ -d by omega)
      obtain rfl : d = -(e : Int) := by omega
      refine subY1_ct hZ hVR (by omega) (by omega) ?_
      have h1 : V = Z + e := by omega
      have h2 : e ≤ RR := by unfold RR; omega
      rw [h1, show Z + e + (RR - e) = Z + RR by omega, Nat.add_mod_right, Nat.mod_eq_of_lt hZ]
end Go.Proofs.YtjlhhcdefcofkaaGreatDoor

/- ScalarMult on the other curve. -/
namespace Go.Proofs.YtjlhhcdefcofkaaGreatDoor
open Go
set_option maxRecDepth 100000
theorem size72 : (Tryz.prog.info? 72).map (·.size) = some 0 := by kernel_rfl
theorem size94 : (Tryz.prog.info? 94).map (·.size) = some 1 := by kernel_rfl
theorem zero92 : (Tryz.prog.info? 92).bind (·.zero) = some (.agg (EE [0, 0, 0, 0]).toArray) := by kernel_rfl
theorem zero93 : (Tryz.prog.info? 93).bind (·.zero) = some (.agg (EE [0, 0, 0, 0, 0, 0, 0, 0, 0, 0, 0, 0, 0, 0, 0, 0, 0, 0, 0, 0, 0, 0, 0, 0, 0, 0, 0, 0, 0, 0, 0, 0]).toArray) := by kernel_rfl
theorem zero95 : (Tryz.prog.info? 95).bind (·.zero) = some (.agg (List.replicate 113 (Value.int .i8 0)).toArray) := by kernel_rfl
theorem at_cond_merge {C : Ctx} {St : Slots} {M : Mem} {Q : Exit → Act → World → Prop} {c : Operand} {x : Code} {t : Bool} {k : Nat} {v1 v2 : Value} (hc : evalS St c = some (.bool t)) (h2 : look St k = some v2)
    (hx : At C ((k, v1) :: St) M (Q .normal) → At C St M (x.wp C.P Q)) (h : ∀ v, (t = true → v = v1) → (t = false → v = v2) → At C ((k, v) :: St) M (Q .normal)) : At C St M ((Code.cond c x .skip).wp C.P Q) := by
  refine at_cond hc (fun ht => hx (h v1 (fun _ => rfl) (fun hf => by rw [ht] at hf; cases hf))) (fun ht => at_skip ?_)
  refine (h v2 (fun hf => by rw [ht] at hf; cases hf) (fun _ => rfl)).weaken (fun j v hv => ?_) (List.Sublist.refl _)
  by_cases e : k = j
  · subst e
    rw [look_cons_self] at hv
    rw [← hv]; exact h2
  · rw [look_cons_ne _ _ e] at hv; exact hv
theorem EE1_get {x k : Nat} (hk : k < 56) : (EE [x])[k]? = some (.int .u8 ((x / 256 ^ k % 256 : Nat) : Int)) := by
  rw [EE_one, E, List.getElem?_map, digs_get 56 x k hk]; rfl
def dg (K m : Nat) : Int := if m = 112 then 1 else dz K m
theorem dg_odd {K m : Nat} (h : K % 2 = 1) : dg K m % 2 = 1 ∧ -15 ≤ dg K m ∧ dg K m ≤ 15 := by
  unfold dg
  split
  · omega
  · exact dz_odd h m
/-- What the digits from place r on make. -/
def acc (K r : Nat) : Nat := if r = 113 then 0 else kz K r
theorem acc_next {K m : Nat} (ho : K % 2 = 1) (hK : K ≤ qq) (hm : m < 113) : (acc K m : Int) = dg K m + 16 * (acc K (m + 1) : Int) := by
  unfold acc dg
  by_cases e : m = 112
  · subst e
    rw [if_neg (by decide), if_pos rfl, if_pos rfl, kz_end ho hK]; rfl
  · rw [if_neg (by omega), if_neg e, if_neg (by omega)]
    exact kz_next K m
theorem acc_zero (K : Nat) : acc K 0 = K := rfl
/-- Of the digit: its sign, its size, its place in the table. -/
def dsg (d : Int) : Nat := if d < 0 then 1 else 0
theorem dsg_or (d : Int) : dsg d = 0 ∨ dsg d = 1 := by unfold dsg; split <;> simp
def dix (d : Int) : Nat := (d.natAbs - 1) / 2
theorem dix_abs {d : Int} (h : d % 2 = 1 ∧ -15 ≤ d ∧ d ≤ 15) : 2 * dix d + 1 = d.natAbs ∧ dix d < 8 := by unfold dix; omega
theorem shr7 {d : Int} (h : -15 ≤ d ∧ d ≤ 15) : d.fdiv (2 ^ (min 7 IntKind.i8.bits)) = -(dsg d : Int) := by
  have h1 : (2 : Int) ^ (min 7 IntKind.i8.bits) = 128 := by decide
  rw [h1, Int.fdiv_eq_ediv_of_nonneg _ (by decide)]
  unfold dsg
  split <;> omega
theorem xor_abs {d : Int} (h : d % 2 = 1 ∧ -15 ≤ d ∧ d ≤ 15) : bits .xor .i8 (d - (dsg d : Int)) (-(dsg d : Int)) = (d.natAbs : Int) := by
  obtain ⟨h0, h1, h2⟩ := h
  have : d = -15 ∨ d = -13 ∨ d = -11 ∨ d = -9 ∨ d = -7 ∨ d = -5 ∨ d = -3 ∨ d = -1 ∨ d = 1 ∨ d = 3 ∨ d = 5 ∨ d = 7 ∨ d = 9 ∨ d = 11 ∨ d = 13 ∨ d = 15 := by omega
  rcases this with rfl | rfl | rfl | rfl | rfl | rfl | rfl | rfl | rfl | rfl | rfl | rfl | rfl | rfl | rfl | rfl <;> decide
theorem and_sg (d : Int) : bits .and .i8 (-(dsg d : Int)) 1 = (dsg d : Int) := by
  rcases dsg_or d with h | h <;> rw [h] <;> decide
theorem shr1 (n : Nat) : (n : Int).fdiv (2 ^ (min 1 IntKind.i8.bits)) = ((n / 2 : Nat) : Int) := by
  have h1 : (2 : Int) ^ (min 1 IntKind.i8.bits) = 2 := by decide
  rw [h1, Int.fdiv_eq_ediv_of_nonneg _ (by decide)]
  omega
section
variable {P : Program} {St : Slots} {M : Mem} {o : Oper} {x y : Operand} {T T' : Nat}
theorem opr_addK {kd : IntKind} {a b c : Int} (ho : o.op = .binOp .add T x y T') (hx : evalS St x = some (.int kd a)) (hy : evalS St y = some (.int kd b)) (hc : kd.wrap (a + b) = c) : OpR P St M o (Det (.int kd c) M) :=
  hc ▸ opr_binOp (P := P) (M := M) (v := .int kd (kd.wrap (a + b))) ho hx hy (fun _ => by cases kd <;> rfl)
theorem opr_xorK {kd : IntKind} {a b c : Int} (ho : o.op = .binOp .xor T x y T') (hx : evalS St x = some (.int kd a)) (hy : evalS St y = some (.int kd b)) (hc : bits .xor kd a b = c) : OpR P St M o (Det (.int kd c) M) :=
  hc ▸ opr_binOp (P := P) (M := M) (v := .int kd (bits .xor kd a b)) ho hx hy (fun _ => by cases kd <;> rfl)
theorem opr_andK {kd : IntKind} {a b c : Int} (ho : o.op = .binOp .and T x y T') (hx : evalS St x = some (.int kd a)) (hy : evalS St y = some (.int kd b)) (hc : bits .and kd a b = c) : OpR P St M o (Det (.int kd c) M) :=
  hc ▸ opr_binOp (P := P) (M := M) (v := .int kd (bits .and kd a b)) ho hx hy (fun _ => by cases kd <;> rfl)
end
/-- A round's sum. -/
theorem acc_sum {p : Pt} (hp : OnG p) {K m : Nat} (ho : K % 2 = 1) (hK : K ≤ qq) (hm : m < 113) : pa (pG p (2 * (2 * (2 * (2 * acc K (m + 1)))))) (pif (dsg (dg K m)) (pG p (2 * dix (dg K m) + 1))) = pG p (acc K m) := by
  have h1 := acc_next ho hK hm
  have h2 := dg_odd (m := m) ho
  rw [(dix_abs h2).1]
  generalize dg K m = d at *
  generalize acc K (m + 1) = n at *
  unfold dsg pif
  by_cases hd : d < 0
  · rw [if_pos hd, if_pos rfl]
    show padd (el dP) _ _ = _
    rw [pz_sub goldC hp, show ((2 * (2 * (2 * (2 * n))) : Nat) : Int) - ((d.natAbs : Nat) : Int) = ((acc K m : Nat) : Int) by omega, pz_nat]
  · rw [if_neg hd, if_neg (by decide)]
    show padd (el dP) _ _ = _
    rw [← pm_add goldC hp]
    congr 1
    omega
structure MulI (p : Pt) (K r : Nat) (lq ls : List Nat) : Prop where
  cur : ∃ X Y Z A B, lq = [X, Y, Z, A, B] ∧ TwB (pG p (acc K r)) X Y Z A B
  any : ∃ a s t u, ls = [a, s, t, u] ∧ a < RR ∧ s < RR ∧ t < RR ∧ u < RR
/-- The place of the table that is sought. -/
def SelI (q : Pt) (i j : Nat) (ls : List Nat) : Prop := ∃ a s t u, ls = [a, s, t, u] ∧ (a < RR ∧ s < RR ∧ t < RR ∧ u < RR) ∧ (i < j → PrB q a s t u)
theorem sel_next {p q : Pt} {i j a s t u a' s' t' u' b : Nat} (hb : b = if i = j then 1 else 0) (h : a < RR ∧ s < RR ∧ t < RR ∧ u < RR) (hk : i < j → PrB q a s t u) (k : PrB p a' s' t' u') (hpq : i = j → p = q) : SelI q i (j + 1) [sel b a a', sel b s s', sel b t t', sel b u u'] := by
  refine ⟨_, _, _, _, rfl, ⟨sel_lt h.1 k.ha, sel_lt h.2.1 k.hs, sel_lt h.2.2.1 k.ht, sel_lt h.2.2.2 k.hz⟩, fun hlt => ?_⟩
  by_cases e : i = j
  · rw [if_pos e] at hb
    subst hb
    rw [← hpq e]; exact k
  · rw [if_neg e] at hb
    subst hb
    exact hk (by omega)
theorem K1_facts {K : Nat} (b : Nat) (hb : b = if K % qq = 0 then 1 else 0) : 1 ≤ sel b (K % qq) qq ∧ sel b (K % qq) qq ≤ qq := by
  have h1 := Nat.mod_lt K (show 0 < qq by decide)
  by_cases e : K % qq = 0
  · rw [if_pos e] at hb; subst hb
    rw [sel1]; exact ⟨by decide, Nat.le_refl _⟩
  · rw [if_neg e] at hb; subst hb
    rw [sel0]; omega
theorem K2_facts {k : Nat} (h1 : 1 ≤ k) (h : k ≤ qq) : sel (1 - k % 2) k (ssub qq k) % 2 = 1 ∧ sel (1 - k % 2) k (ssub qq k) ≤ qq := by
  have hq : qq % 2 = 1 := by decide
  by_cases e : k % 2 = 1
  · rw [e, show 1 - 1 = 0 from rfl, sel0]; exact ⟨e, h⟩
  · rw [show k % 2 = 0 by omega, show 1 - 0 = 1 from rfl, sel1]
    have : ssub qq k = qq - k := by rw [ssub, show qq + qq - k = (qq - k) + qq * 1 by omega, Nat.add_mul_mod_self_left, Nat.mod_eq_of_lt (by omega)]
    rw [this]; omega
theorem tmul_end {p : Pt} (hp : OnG p) (hq : pG p qq = (0, 1)) {K b : Nat} (hb : b = if K % qq = 0 then 1 else 0) :
    pif (1 - sel b (K % qq) qq % 2) (pG p (sel (1 - sel b (K % qq) qq % 2) (sel b (K % qq) qq) (ssub qq (sel b (K % qq) qq)))) = pG p K := by
  obtain ⟨h1, h2⟩ := K1_facts b hb
  have e : pG p (sel b (K % qq) qq) = pG p K := by
    by_cases e : K % qq = 0
    · rw [if_pos e] at hb; subst hb
      rw [sel1, hq]
      exact ((pm_mod goldC hp hq K).trans (by rw [e]; rfl)).symm
    · rw [if_neg e] at hb; subst hb
      rw [sel0]; exact (pm_mod goldC hp hq K).symm
  rw [← e]
  generalize sel b (K % qq) qq = k at *
  by_cases ek : k % 2 = 1
  · rw [ek, show 1 - 1 = 0 from rfl, sel0]; rfl
  · rw [show k % 2 = 0 by omega, show 1 - 0 = 1 from rfl, sel1]
    show pneg _ = _
    have hs : ssub qq k = qq - k := by
      have hqo : qq % 2 = 1 := by decide
      rw [ssub, show qq + qq - k = (qq - k) + qq * 1 by omega, Nat.add_mul_mod_self_left, Nat.mod_eq_of_lt (by omega)]
    rw [hs]
    exact pm_neg goldC hp hq (by rw [Nat.sub_add_cancel h2, Nat.mod_self])
theorem recode_ct {M : Mem} {gd Td gk Tk K : Nat} (hK : K ≤ qq) (ho : K % 2 = 1) : Ct Tryz.prog 51 #[.pointer (some ⟨gd, 0, none⟩), .pointer (some ⟨gk, 0, none⟩)] (⟨gd, Td, (dl K 0).map i8V⟩ :: ⟨gk, Tk, EE [K]⟩ :: M) (Det (.tuple #[]) (⟨gd, Td, (dl K 113).map i8V⟩ :: ⟨gk, Tk, EE [K]⟩ :: M)) := by
  refine ct_of (vs := [.pointer (some ⟨gd, 0, none⟩), .pointer (some ⟨gk, 0, none⟩)]) Tryz.func51 rfl Tryz.ntmps51 rfl fun w0 => ?_
  refine at_seq ?_
  refine at_region ?_
  refine at_n rfl rfl (opr_alloc rfl zero117 rfl) ?_
  intro g0
  refine at_nil ?_
  refine at_then ?_
  refine at_seq ?_
  refine at_region ?_
  refine at_d rfl rfl (opr_move rfl rfl) ?_
  refine at_d rfl rfl (opr_call rfl rfl rfl Tryz.func68 (by kernel_rfl) rfl (ct_frame (iz := 0) (idx := [2]) (L := [⟨gk, Tk, EE [K]⟩]) rfl (by simp only [List.nodup_cons, List.mem_cons, List.not_mem_nil, or_false, not_or, not_false_eq_true, List.nodup_nil, and_true] <;> omega) rfl (idxc rfl idx0) (fromS_ct (M := []) (a := K) List.length_replicate) (by rintro _ _ ⟨rfl, rfl⟩; exact ⟨_, rfl, rfl, rfl⟩))) ?_
  refine at_nil ?_
  refine at_then ?_
  refine at_seq ?_
  refine at_seq ?_
  refine at_region ?_
  refine at_d rfl rfl (opr_assign rfl rfl) ?_
  refine at_nil ?_
  refine at_then ?_
  refine at_block ?_
  refine at_loop (fun (i : Nat) => [(0, .pointer (some ⟨gd, 0, none⟩)), (4, .pointer (some ⟨g0, 0, none⟩)), (5, .int .i64 (i : Int))]) (fun (i : Nat) => ⟨g0, 117, W ((digs BB 7 (kz K i)))⟩ :: ⟨gd, Td, (dl K i).map i8V⟩ :: ⟨gk, Tk, EE [K]⟩ :: M) (fun (i : Nat) => 112 - i) (fun (i : Nat) => i ≤ 112) 0 (Nat.zero_le _) (allIn ⟨rfl, rfl, rfl, trivial⟩) (List.Sublist.refl _) ?_
  intro i hi112
  dsimp only
  refine at_seq ?_
  refine at_seq ?_
  refine at_region ?_
  refine at_d rfl rfl (opr_move rfl rfl) ?_
  refine at_d rfl rfl (opr_lss (a := i) (b := 112) rfl rfl rfl) ?_
  refine at_nil ?_
  refine at_then ?_
  refine at_cond rfl (fun ht => ?_) (fun ht => ?_)
  ·
    have hlt : i < 112 := of_decide_eq_true ht
    refine at_skip ?_
    refine at_then ?_
    refine at_seq ?_
    refine at_block ?_
    refine at_seq ?_
    refine at_draw (by kernel_rfl) (by kernel_rfl) (by kernel_rfl) (List.cons_ne_nil _ _) ?_
    refine dr_op rfl rfl (opr_move rfl rfl) ?_
    refine dr_op rfl rfl (opr_move rfl rfl) ?_
    refine dr_op rfl rfl (opr_indexAddr (j := 0) rfl rfl rfl Tryz.underlying117 (by decide) size29 rfl) ?_
    refine dr_op rfl rfl (opr_load1 (i := 0) rfl rfl rfl Tryz.underlying29 rfl (W_get (digs_get 7 (kz K i) 0 (by decide)))) ?_
    refine dr_op rfl rfl (opr_eq' (opr_and64 (b := 31) rfl rfl rfl (Nat.mod_lt _ (by decide)) (by decide)) (u64_eq' (b := kz K i % 32) (and31 _))) ?_
    refine dr_op rfl rfl (opr_sub64 (a := kz K i % 32) (b := 16) rfl rfl rfl (by decide)) ?_
    refine dr_op rfl rfl (opr_conv (c := dz K i) rfl rfl Tryz.underlying29 Tryz.underlying94 (rec_wrap _)) ?_
    refine dr_op rfl rfl (opr_nilCheck rfl rfl) ?_
    refine dr_op rfl rfl (opr_indexAddr (j := i) (off' := i) rfl rfl rfl Tryz.underlying95 (by omega) size94 (by omega)) ?_
    refine dr_last rfl rfl (opr_store (i := 1) rfl rfl rfl rfl rfl size94 rfl (by rw [List.length_map, dl_length]; omega) flat_one (dl_cell (by omega) (by rw [if_neg (by omega)]))) ?_
    refine at_then ?_
    refine at_region ?_
    refine at_d rfl rfl (opr_move rfl rfl) ?_
    refine at_d rfl rfl (opr_move rfl rfl) ?_
    refine at_d rfl rfl (opr_nilCheck rfl rfl) ?_
    refine at_d rfl rfl (opr_indexAddr (j := i) (off' := i) rfl rfl rfl Tryz.underlying95 (by omega) size94 (by omega)) ?_
    refine at_d rfl rfl (opr_eq' (v' := .int .i8 (dz K i)) (opr_load1 (i := 1) rfl rfl rfl Tryz.underlying94 rfl (dl_at (by omega) (by omega))) (congrArg (Value.int .i8) (if_neg (by omega)))) ?_
    refine at_d rfl rfl (opr_conv (c := dz K i) rfl rfl Tryz.underlying94 Tryz.underlying2 (wrap_i64 _ (by have := dz_odd ho i; omega) (by have := dz_odd ho i; omega))) ?_
    refine at_d rfl rfl (opr_call rfl rfl rfl Tryz.func79 (by kernel_rfl) rfl (subY_ct (Z := kz K i) (V := 16 * kz K (i + 1)) (d := dz K i) (by have := kz_RR hK i; have := qq16; omega) (by have h1 := kz_RR hK i; have h2 := qq16; have h3 := kz_next K i; have h4 := dz_odd ho i; omega) (by have := dz_odd ho i; omega) (by have := kz_next K i; omega))) ?_
    refine at_nil ?_
    rw [Nat.mul_div_cancel_left _ (by decide)]
    refine at_inBlock_normal ?_
    refine at_then ?_
    refine at_region ?_
    refine at_d rfl rfl (opr_move rfl rfl) ?_
    refine at_d rfl rfl (opr_addI (a := i) (b := 1) rfl rfl rfl (by omega)) ?_
    refine at_d rfl rfl (opr_assign rfl rfl) ?_
    refine at_nil ?_
    exact at_round (i + 1) (by omega) (by omega) (allIn ⟨rfl, rfl, rfl, trivial⟩) (List.Sublist.refl _)
  ·
    obtain rfl : i = 112 := by have := of_decide_eq_false ht; omega
    refine at_exit ?_
    refine at_then_exit ?_
    refine at_then_exit ?_
    refine at_inBlock_same ?_
    refine at_then ?_
    refine at_draw (by kernel_rfl) (by kernel_rfl) (by kernel_rfl) (List.cons_ne_nil _ _) ?_
    refine dr_op rfl rfl (opr_move rfl rfl) ?_
    refine dr_op rfl rfl (opr_indexAddr (j := 0) rfl rfl rfl Tryz.underlying117 (by decide) size29 rfl) ?_
    refine dr_op rfl rfl (opr_eq' (v' := .int .u64 ((1 : Nat) : Int)) (opr_load1 (i := 0) rfl rfl rfl Tryz.underlying29 rfl (W_get (digs_get 7 (kz K 112) 0 (by decide)))) (u64_eq' (by rw [kz_end ho hK]; decide))) ?_
    refine dr_op rfl rfl (opr_conv (c := 1) rfl rfl Tryz.underlying29 Tryz.underlying94 rfl) ?_
    refine dr_op rfl rfl (opr_nilCheck rfl rfl) ?_
    refine dr_op rfl rfl (opr_indexAddr (j := 112) (off' := 112) rfl rfl rfl Tryz.underlying95 (by decide) size94 rfl) ?_
    refine dr_last rfl rfl (opr_store (i := 1) rfl rfl rfl rfl rfl size94 rfl (by rw [List.length_map, dl_length]; decide) flat_one (dl_cell (by decide) rfl)) ?_
    exact done_of (res0 Tryz.results51) ⟨rfl, rfl⟩ (by repeat (first | exact List.Sublist.refl _ | apply List.Sublist.cons_cons | apply List.Sublist.cons))
set_option maxHeartbeats 2000000 in
theorem twMul_ct {M : Mem} {ig Tp jo To jr Tr jt Tt : Nat} (hG : M[ig]? = some ⟨3, Tp, EE [pp]⟩) (hO : M[jo]? = some ⟨1, To, EE [qq]⟩) (hR : M[jr]? = some ⟨5, Tr, W (digs 18446744073709551616 4 r448)⟩) (hjr : jo ≠ jr) (hT : M[jt]? = some ⟨6, Tt, EE [dT]⟩) {gk Tk gP TP K X Y Z A B : Nat} {p : Pt} (hK : K < RR) (hp : OnG p) (hq : pG p qq = (0, 1)) (hT0 : TwB p X Y Z A B) : Ct Tryz.prog 31 #[.agg ([] : List Value).toArray, .pointer (some ⟨gk, 0, none⟩), .pointer (some ⟨gP, 0, none⟩)] (⟨gk, Tk, EE [K]⟩ :: ⟨gP, TP, EE [X, Y, Z, A, B]⟩ :: M) (fun v M' => ∃ g X Y Z A B, TwB (pG p K) X Y Z A B ∧ v = .pointer (some ⟨g, 0, none⟩) ∧ M' = ⟨g, 111, EE [X, Y, Z, A, B]⟩ :: M) := by
  refine ct_of (vs := [.agg ([] : List Value).toArray, .pointer (some ⟨gk, 0, none⟩), .pointer (some ⟨gP, 0, none⟩)]) Tryz.func31 rfl Tryz.ntmps31 rfl fun w0 => ?_
  refine at_seq ?_
  refine at_region ?_
  refine at_n rfl rfl (opr_box rfl rfl rfl) ?_
  intro g0
  refine at_d rfl rfl (opr_assign rfl rfl) ?_
  refine at_nil ?_
  refine at_then ?_
  refine at_seq ?_
  refine at_region ?_
  refine at_n rfl rfl (opr_alloc rfl zero93 rfl) ?_
  intro g1
  refine at_nil ?_
  refine at_then ?_
  refine at_seq ?_
  refine at_region ?_
  refine at_n rfl rfl (opr_alloc rfl zero92 rfl) ?_
  intro g2
  refine at_nil ?_
  refine at_then ?_
  refine at_seq ?_
  refine at_region ?_
  refine at_n rfl rfl (opr_alloc rfl zero95 rfl) ?_
  intro g3
  refine at_nil ?_
  refine at_then ?_
  refine at_seq ?_
  refine at_region ?_
  refine at_d rfl rfl (opr_assign rfl rfl) ?_
  refine at_nil ?_
  refine at_then ?_
  refine at_seq ?_
  refine at_seq ?_
  refine at_region ?_
  refine at_d rfl rfl (opr_move rfl rfl) ?_
  refine at_d rfl rfl (opr_call rfl rfl rfl Tryz.func48 (by kernel_rfl) rfl (ct_frame (iz := 4) (idx := [jo + 6]) (L := [⟨1, To, EE [qq]⟩]) rfl (by simp only [List.nodup_cons, List.mem_cons, List.not_mem_nil, or_false, not_or, not_false_eq_true, List.nodup_nil, and_true] <;> omega) rfl (idxc hO idx0) (isZ_ct (M := []) hK) (by rintro _ _ ⟨rfl, rfl⟩; exact ⟨_, rfl, rfl, rfl⟩))) ?_
  refine at_nil ?_
  refine at_then ?_
  refine at_cond_merge (k := 10) (v1 := .int .i64 ((1 : Nat) : Int)) (v2 := .int .i64 ((0 : Nat) : Int)) rfl rfl (fun hr => ?_) (fun v hv1 hv2 => ?_)
  · exact at_region (at_d rfl rfl (opr_assign rfl rfl) (at_nil hr))
  obtain ⟨b0, hb0⟩ : ∃ b0 : Nat, b0 = if K % qq = 0 then 1 else 0 := ⟨_, rfl⟩
  obtain rfl : v = .int .i64 (b0 : Int) := by
    by_cases e : K % qq = 0
    · rw [hv1 (decide_eq_true e), hb0, if_pos e]
    · rw [hv2 (decide_eq_false e), hb0, if_neg e]
  clear hv1 hv2
  have hb01 : b0 = 0 ∨ b0 = 1 := by rw [hb0]; split <;> simp
  obtain ⟨hk1, hkq⟩ := K1_facts b0 hb0
  refine at_then ?_
  refine at_seq ?_
  refine at_draw (by kernel_rfl) (by kernel_rfl) (by kernel_rfl) (List.cons_ne_nil _ _) ?_
  refine dr_op rfl rfl (opr_move rfl rfl) ?_
  refine dr_op rfl rfl (opr_move rfl rfl) ?_
  refine dr_op rfl rfl (opr_nilCheck rfl rfl) ?_
  refine dr_op rfl rfl (opr_sliceAll rfl rfl Tryz.underlying44 rfl size5) ?_
  refine dr_op rfl rfl (opr_sliceAll rfl rfl Tryz.underlying44 rfl size5) ?_
  refine dr_last rfl rfl (opr_call rfl rfl rfl Tryz.func49 (by kernel_rfl) rfl (ct_frame (iz := 4) (idx := [jo + 6]) (L := [⟨1, To, EE [qq]⟩]) rfl (by simp only [List.nodup_cons, List.mem_cons, List.not_mem_nil, or_false, not_or, not_false_eq_true, List.nodup_nil, and_true] <;> omega) rfl (idxc hO idx0) (ctCopy_ct (M := []) hb01) (by rintro _ _ ⟨rfl, rfl⟩; exact ⟨_, rfl, rfl, rfl⟩))) ?_
  refine at_then ?_
  refine at_seq ?_
  refine at_region ?_
  refine at_d rfl rfl (opr_move rfl rfl) ?_
  refine at_d rfl rfl (opr_nilCheck rfl rfl) ?_
  refine at_d rfl rfl (opr_load (i := 4) rfl rfl rfl Tryz.underlying44 rfl size44 (E_length _) (EE_at (k := 0) rfl rfl rfl)) ?_
  refine at_n rfl rfl (opr_alloc rfl zero44 rfl) ?_
  intro g4
  refine at_d rfl rfl (opr_store (i := 0) rfl rfl rfl rfl rfl size44 (E_length _) (by rw [EE_length]; exact Nat.le_of_ble_eq_true rfl) (E_flat _) (EE_set (k := 0) (Nat.le_of_ble_eq_true rfl) rfl)) ?_
  refine at_nil ?_
  refine at_then ?_
  refine at_seq ?_
  refine at_region ?_
  refine at_d rfl rfl (opr_move rfl rfl) ?_
  refine at_d rfl rfl (opr_nilCheck rfl rfl) ?_
  refine at_d rfl rfl (opr_indexAddr (j := 0) rfl rfl rfl Tryz.underlying44 (by decide) size5 rfl) ?_
  refine at_d rfl rfl (opr_load1 (i := 5) rfl rfl rfl Tryz.underlying5 rfl (EE1_get (by decide))) ?_
  refine at_d rfl rfl (opr_eq' (opr_and8 (b := 1) rfl rfl rfl (Nat.mod_lt _ (by decide)) (by decide)) (u8_eq (b := (sel b0 (K % qq) qq) % 2) (by rw [Nat.and_one_is_mod, Nat.pow_zero, Nat.div_one]; omega))) ?_
  refine at_d rfl rfl (opr_toI (n := (sel b0 (K % qq) qq) % 2) rfl rfl Tryz.underlying5 Tryz.underlying3 (by omega)) ?_
  refine at_d rfl rfl (opr_subI (a := 1) (b := (sel b0 (K % qq) qq) % 2) rfl rfl rfl (by omega) (by decide)) ?_
  refine at_d rfl rfl (opr_assign rfl rfl) ?_
  refine at_nil ?_
  refine at_then ?_
  refine at_seq ?_
  refine at_region ?_
  refine at_d rfl rfl (opr_call rfl rfl rfl Tryz.func50 (by kernel_rfl) rfl (ct_frame (iz := 0) (idx := [jo + 7, jr + 7]) (L := [⟨1, To, EE [qq]⟩, ⟨5, Tr, W ((digs 18446744073709551616 4 r448))⟩]) rfl (by simp only [List.nodup_cons, List.mem_cons, List.not_mem_nil, or_false, not_or, not_false_eq_true, List.nodup_nil, and_true] <;> omega) rfl (idxc hO (idxc hR idx0)) (neg_ct (M := []) hkq) (by rintro _ _ ⟨rfl, rfl⟩; exact ⟨_, rfl, rfl, rfl⟩))) ?_
  refine at_nil ?_
  refine at_then ?_
  refine at_seq ?_
  refine at_draw (by kernel_rfl) (by kernel_rfl) (by kernel_rfl) (List.cons_ne_nil _ _) ?_
  refine dr_op rfl rfl (opr_move rfl rfl) ?_
  refine dr_op rfl rfl (opr_move rfl rfl) ?_
  refine dr_op rfl rfl (opr_nilCheck rfl rfl) ?_
  refine dr_op rfl rfl (opr_sliceAll rfl rfl Tryz.underlying44 rfl size5) ?_
  refine dr_op rfl rfl (opr_sliceAll rfl rfl Tryz.underlying44 rfl size5) ?_
  refine dr_last rfl rfl (opr_call rfl rfl rfl Tryz.func49 (by kernel_rfl) rfl (ct_frame (iz := 5) (idx := [0]) (L := [⟨g4, 44, EE [(ssub qq (sel b0 (K % qq) qq))]⟩]) rfl (by simp only [List.nodup_cons, List.mem_cons, List.not_mem_nil, or_false, not_or, not_false_eq_true, List.nodup_nil, and_true] <;> omega) rfl (idxc rfl idx0) (ctCopy_ct (M := []) (v := (1 - (sel b0 (K % qq) qq) % 2)) (by omega)) (by rintro _ _ ⟨rfl, rfl⟩; exact ⟨_, rfl, rfl, rfl⟩))) ?_
  refine at_then ?_
  refine at_seq ?_
  obtain ⟨hK2o, hK2⟩ := K2_facts hk1 hkq
  obtain ⟨K2, hK2e⟩ : ∃ K2, K2 = sel (1 - (sel b0 (K % qq) qq) % 2) (sel b0 (K % qq) qq) (ssub qq (sel b0 (K % qq) qq)) := ⟨_, rfl⟩
  rw [← hK2e] at hK2o hK2 ⊢
  rw [← dl_zero K2]
  refine at_region ?_
  refine at_d rfl rfl (opr_move rfl rfl) ?_
  refine at_d rfl rfl (opr_call rfl rfl rfl Tryz.func51 (by kernel_rfl) rfl (ct_frame (iz := 1) (idx := [5]) (L := [⟨gk, Tk, EE [K2]⟩]) rfl (by simp only [List.nodup_cons, List.mem_cons, List.not_mem_nil, or_false, not_or, not_false_eq_true, List.nodup_nil, and_true] <;> omega) rfl (idxc rfl idx0) (recode_ct (M := []) (K := K2) hK2 hK2o) (by rintro _ _ ⟨rfl, rfl⟩; exact ⟨_, rfl, rfl, rfl⟩))) ?_
  refine at_nil ?_
  refine at_then ?_
  refine at_seq ?_
  refine at_perm (M' := ⟨g1, 93, EE [0, 0, 0, 0, 0, 0, 0, 0, 0, 0, 0, 0, 0, 0, 0, 0, 0, 0, 0, 0, 0, 0, 0, 0, 0, 0, 0, 0, 0, 0, 0, 0]⟩ :: ⟨g4, 44, EE [(ssub qq (sel b0 (K % qq) qq))]⟩ :: ⟨g3, 95, (dl K2 113).map i8V⟩ :: ⟨g2, 92, EE [0, 0, 0, 0]⟩ :: ⟨g0, 72, []⟩ :: ⟨gk, Tk, EE [K2]⟩ :: ⟨gP, TP, EE [X, Y, Z, A, B]⟩ :: M) (List.perm_middle (l₁ := ([⟨g4, 44, EE [(ssub qq (sel b0 (K % qq) qq))]⟩, ⟨g3, 95, (dl K2 113).map i8V⟩, ⟨g2, 92, EE [0, 0, 0, 0]⟩] : List Blk))).symm ?_
  refine at_perm (M' := ⟨gP, TP, EE [X, Y, Z, A, B]⟩ :: ⟨g1, 93, EE [0, 0, 0, 0, 0, 0, 0, 0, 0, 0, 0, 0, 0, 0, 0, 0, 0, 0, 0, 0, 0, 0, 0, 0, 0, 0, 0, 0, 0, 0, 0, 0]⟩ :: ⟨g4, 44, EE [(ssub qq (sel b0 (K % qq) qq))]⟩ :: ⟨g3, 95, (dl K2 113).map i8V⟩ :: ⟨g2, 92, EE [0, 0, 0, 0]⟩ :: ⟨g0, 72, []⟩ :: ⟨gk, Tk, EE [K2]⟩ :: M) (List.perm_middle (l₁ := ([⟨g1, 93, EE [0, 0, 0, 0, 0, 0, 0, 0, 0, 0, 0, 0, 0, 0, 0, 0, 0, 0, 0, 0, 0, 0, 0, 0, 0, 0, 0, 0, 0, 0, 0, 0]⟩, ⟨g4, 44, EE [(ssub qq (sel b0 (K % qq) qq))]⟩, ⟨g3, 95, (dl K2 113).map i8V⟩, ⟨g2, 92, EE [0, 0, 0, 0]⟩, ⟨g0, 72, []⟩, ⟨gk, Tk, EE [K2]⟩] : List Blk))).symm ?_
  refine at_region ?_
  refine at_d rfl rfl (opr_move rfl rfl) ?_
  refine at_d rfl rfl (opr_sliceAll rfl rfl Tryz.underlying93 rfl size92) ?_
  refine at_c rfl rfl (opr_call rfl rfl rfl Tryz.func52 (by kernel_rfl) rfl (oddM_ct (jt := jt + 5) hT hp rfl hT0)) ?_
  rintro _ _ ⟨Xo, Yo, Zo, Ao, Bo, lT, hlT, hTab, rfl, rfl⟩
  refine at_nil ?_
  refine at_then ?_
  refine at_seq ?_
  refine at_region ?_
  refine at_d rfl rfl (opr_load0 rfl rfl Tryz.underlying72 rfl size72) ?_
  refine at_c rfl rfl (opr_call rfl rfl rfl Tryz.func53 (by kernel_rfl) rfl (twId_ct)) ?_
  rintro _ _ ⟨gQ, rfl, rfl⟩
  refine at_d rfl rfl (opr_assign rfl rfl) ?_
  refine at_nil ?_
  refine at_then ?_
  refine at_seq ?_
  refine at_seq ?_
  refine at_region ?_
  refine at_d rfl rfl (opr_assign rfl rfl) ?_
  refine at_nil ?_
  refine at_then ?_
  refine at_block ?_
  refine at_loop3 (fun (r : Nat) (lq : List Nat) (ls : List Nat) => [(7, .pointer (some ⟨g1, 0, none⟩)), (8, .pointer (some ⟨g2, 0, none⟩)), (9, .pointer (some ⟨g3, 0, none⟩)), (12, .int .i64 (((1 - (sel b0 (K % qq) qq) % 2) : Nat) : Int)), (13, .pointer (some ⟨gQ, 0, none⟩)), (14, .int .i64 ((r : Int) - 1))]) (fun (r : Nat) (lq : List Nat) (ls : List Nat) => ⟨gQ, 111, EE lq⟩ :: ⟨gP, TP, EE [Xo, Yo, Zo, Ao, Bo]⟩ :: ⟨g1, 93, EE lT⟩ :: ⟨g4, 44, EE [(ssub qq (sel b0 (K % qq) qq))]⟩ :: ⟨g3, 95, (dl K2 113).map i8V⟩ :: ⟨g2, 92, EE ls⟩ :: ⟨g0, 72, []⟩ :: ⟨gk, Tk, EE [K2]⟩ :: M) (fun (r : Nat) (lq : List Nat) (ls : List Nat) => r) (fun (r : Nat) (lq : List Nat) (ls : List Nat) => r ≤ 113 ∧ MulI p K2 r lq ls) 113 [0, 1, 1, 0, 0] [0, 0, 0, 0] ⟨Nat.le_refl _, ⟨⟨_, _, _, _, _, rfl, TwB.zero RR_zero RR_zero el_zero el_zero⟩, ⟨_, _, _, _, rfl, RR_zero, RR_zero, RR_zero, RR_zero⟩⟩⟩ (allIn ⟨rfl, rfl, rfl, rfl, rfl, rfl, trivial⟩) (List.Sublist.refl _) ?_
  rintro r lq ls ⟨hr, ⟨⟨Xq, Yq, Zq, Aq, Bq, rfl, hQ0⟩, ⟨a0, s0, t0, u0, rfl, hba, hbs, hbt, hbu⟩⟩⟩
  dsimp only
  refine at_seq ?_
  refine at_seq ?_
  refine at_region ?_
  refine at_d rfl rfl (opr_move rfl rfl) ?_
  refine at_d rfl rfl (opr_geqZ rfl rfl rfl) ?_
  refine at_nil ?_
  refine at_then ?_
  refine at_cond rfl (fun ht => ?_) (fun ht => ?_)
  ·
    have hk0 : 0 ≤ (r : Int) - 1 := of_decide_eq_true ht
    obtain ⟨m, rfl⟩ : ∃ m, r = m + 1 := ⟨r - 1, by omega⟩
    clear ht hk0
    rw [show ((m + 1 : Nat) : Int) - 1 = (m : Int) by omega]
    have hm : m < 113 := by omega
    have hdg := dg_odd (m := m) hK2o
    refine at_skip ?_
    refine at_then ?_
    refine at_seq ?_
    refine at_block ?_
    refine at_seq ?_
    refine at_region ?_
    refine at_d rfl rfl (opr_move rfl rfl) ?_
    refine at_c rfl rfl (opr_call rfl rfl rfl Tryz.func54 (by kernel_rfl) rfl (twDbl_ct (ip := 0) rfl (pG_on hp _) hQ0)) ?_
    rintro _ _ ⟨Xd0, Yd0, Zd0, Ad0, Bd0, hQ1, rfl, rfl⟩
    rw [show pa _ _ = _ from (pm_two goldC hp _).symm] at hQ1
    refine at_nil ?_
    refine at_then ?_
    refine at_seq ?_
    refine at_region ?_
    refine at_d rfl rfl (opr_move rfl rfl) ?_
    refine at_c rfl rfl (opr_call rfl rfl rfl Tryz.func54 (by kernel_rfl) rfl (twDbl_ct (ip := 0) rfl (pG_on hp _) hQ1)) ?_
    rintro _ _ ⟨Xd1, Yd1, Zd1, Ad1, Bd1, hQ2, rfl, rfl⟩
    rw [show pa _ _ = _ from (pm_two goldC hp _).symm] at hQ2
    refine at_nil ?_
    refine at_then ?_
    refine at_seq ?_
    refine at_region ?_
    refine at_d rfl rfl (opr_move rfl rfl) ?_
    refine at_c rfl rfl (opr_call rfl rfl rfl Tryz.func54 (by kernel_rfl) rfl (twDbl_ct (ip := 0) rfl (pG_on hp _) hQ2)) ?_
    rintro _ _ ⟨Xd2, Yd2, Zd2, Ad2, Bd2, hQ3, rfl, rfl⟩
    rw [show pa _ _ = _ from (pm_two goldC hp _).symm] at hQ3
    refine at_nil ?_
    refine at_then ?_
    refine at_seq ?_
    refine at_region ?_
    refine at_d rfl rfl (opr_move rfl rfl) ?_
    refine at_c rfl rfl (opr_call rfl rfl rfl Tryz.func54 (by kernel_rfl) rfl (twDbl_ct (ip := 0) rfl (pG_on hp _) hQ3)) ?_
    rintro _ _ ⟨Xd3, Yd3, Zd3, Ad3, Bd3, hQ4, rfl, rfl⟩
    rw [show pa _ _ = _ from (pm_two goldC hp _).symm] at hQ4
    refine at_nil ?_
    refine at_then ?_
    refine at_seq ?_
    refine at_region ?_
    refine at_d rfl rfl (opr_move rfl rfl) ?_
    refine at_d rfl rfl (opr_indexAddr (j := m) (off' := m) rfl rfl rfl Tryz.underlying95 hm size94 (by omega)) ?_
    refine at_d rfl rfl (opr_eq' (v' := .int .i8 (dg K2 m)) (opr_load1 (i := 4) rfl rfl rfl Tryz.underlying94 rfl (dl_at hm hm)) rfl) ?_
    refine at_d rfl rfl (opr_shrK (n := 7) (c := -(dsg (dg K2 m) : Int)) rfl rfl rfl (shr7 hdg.2)) ?_
    refine at_d rfl rfl (opr_assign rfl rfl) ?_
    refine at_nil ?_
    refine at_then ?_
    refine at_seq ?_
    refine at_region ?_
    refine at_d rfl rfl (opr_move rfl rfl) ?_
    refine at_d rfl rfl (opr_indexAddr (j := m) (off' := m) rfl rfl rfl Tryz.underlying95 hm size94 (by omega)) ?_
    refine at_d rfl rfl (opr_eq' (v' := .int .i8 (dg K2 m)) (opr_load1 (i := 4) rfl rfl rfl Tryz.underlying94 rfl (dl_at hm hm)) rfl) ?_
    refine at_d rfl rfl (opr_move rfl rfl) ?_
    refine at_d rfl rfl (opr_addK (c := (dg K2 m) - (dsg (dg K2 m) : Int)) rfl rfl rfl (by have := dsg_or (dg K2 m); rw [wrap_i8 _ (by omega) (by omega)]; omega)) ?_
    refine at_d rfl rfl (opr_move rfl rfl) ?_
    refine at_d rfl rfl (opr_xorK (c := (((dg K2 m).natAbs : Nat) : Int)) rfl rfl rfl (xor_abs hdg)) ?_
    refine at_d rfl rfl (opr_assign rfl rfl) ?_
    refine at_nil ?_
    refine at_then ?_
    refine at_seq ?_
    refine at_region ?_
    refine at_d rfl rfl (opr_move rfl rfl) ?_
    refine at_d rfl rfl (opr_subK (c := (((dg K2 m).natAbs - 1 : Nat) : Int)) rfl rfl rfl (by rw [wrap_i8 _ (by omega) (by omega)]; omega)) ?_
    refine at_d rfl rfl (opr_shrK (n := 1) (c := ((dix (dg K2 m) : Nat) : Int)) rfl rfl rfl (shr1 _)) ?_
    refine at_d rfl rfl (opr_conv (c := ((dix (dg K2 m) : Nat) : Int)) rfl rfl Tryz.underlying94 Tryz.underlying21 (by have := (dix_abs hdg).2; exact wrap_i32 _ (by omega) (by omega))) ?_
    refine at_d rfl rfl (opr_assign rfl rfl) ?_
    refine at_nil ?_
    refine at_then ?_
    refine at_seq ?_
    refine at_region ?_
    refine at_d rfl rfl (opr_move rfl rfl) ?_
    refine at_d rfl rfl (opr_indexAddr (j := m) (off' := m) rfl rfl rfl Tryz.underlying95 hm size94 (by omega)) ?_
    refine at_d rfl rfl (opr_eq' (v' := .int .i8 (dg K2 m)) (opr_load1 (i := 4) rfl rfl rfl Tryz.underlying94 rfl (dl_at hm hm)) rfl) ?_
    refine at_d rfl rfl (opr_shrK (n := 7) (c := -(dsg (dg K2 m) : Int)) rfl rfl rfl (shr7 hdg.2)) ?_
    refine at_d rfl rfl (opr_andK (c := (dsg (dg K2 m) : Int)) rfl rfl rfl (and_sg _)) ?_
    refine at_d rfl rfl (opr_toI (n := dsg (dg K2 m)) rfl rfl Tryz.underlying94 Tryz.underlying3 (by have := dsg_or (dg K2 m); omega)) ?_
    refine at_d rfl rfl (opr_assign rfl rfl) ?_
    refine at_nil ?_
    refine at_then ?_
    refine at_seq ?_
    refine at_seq ?_
    refine at_region ?_
    refine at_d rfl rfl (opr_move rfl rfl) ?_
    refine at_nil ?_
    refine at_then ?_
    refine at_block ?_
    refine at_loop2 (fun (j : Nat) (ls : List Nat) => [(7, .pointer (some ⟨g1, 0, none⟩)), (8, .pointer (some ⟨g2, 0, none⟩)), (9, .pointer (some ⟨g3, 0, none⟩)), (12, .int .i64 (((1 - (sel b0 (K % qq) qq) % 2) : Nat) : Int)), (13, .pointer (some ⟨gQ, 0, none⟩)), (14, .int .i64 (m : Int)), (17, .int .i32 ((dix (dg K2 m) : Nat) : Int)), (18, .int .i64 ((dsg (dg K2 m) : Nat) : Int)), (85, .int .i64 (j : Int))]) (fun (j : Nat) (ls : List Nat) => ⟨gQ, 111, EE [Xd3, Yd3, Zd3, Ad3, Bd3]⟩ :: ⟨gP, TP, EE [Xo, Yo, Zo, Ao, Bo]⟩ :: ⟨g1, 93, EE lT⟩ :: ⟨g4, 44, EE [(ssub qq (sel b0 (K % qq) qq))]⟩ :: ⟨g3, 95, (dl K2 113).map i8V⟩ :: ⟨g2, 92, EE ls⟩ :: ⟨g0, 72, []⟩ :: ⟨gk, Tk, EE [K2]⟩ :: M) (fun (j : Nat) (ls : List Nat) => 8 - j) (fun (j : Nat) (ls : List Nat) => j ≤ 8 ∧ SelI (pG p (2 * dix (dg K2 m) + 1)) (dix (dg K2 m)) j ls) 0 [a0, s0, t0, u0] ⟨Nat.zero_le _, _, _, _, _, rfl, ⟨hba, hbs, hbt, hbu⟩, fun h => absurd h (by omega)⟩ (allIn ⟨rfl, rfl, rfl, rfl, rfl, rfl, rfl, rfl, rfl, trivial⟩) (List.Sublist.refl _) ?_
    rintro j ls ⟨hj8, a, s, t, u, rfl, hbd, hsj⟩
    dsimp only
    refine at_seq ?_
    refine at_region ?_
    refine at_d rfl rfl (opr_lss (a := j) (b := 8) rfl rfl rfl) ?_
    refine at_nil ?_
    refine at_then ?_
    refine at_seq ?_
    refine at_cond rfl (fun ht => ?_) (fun ht => ?_)
    ·
      have hlt : j < 8 := of_decide_eq_true ht
      obtain ⟨a', s', t', u', q0, q1, q2, q3, hkj⟩ := hTab j hlt
      refine at_skip ?_
      refine at_then ?_
      refine at_seq ?_
      refine at_block ?_
      refine at_seq ?_
      refine at_region ?_
      refine at_d rfl rfl (opr_move rfl rfl) ?_
      refine at_d rfl rfl (opr_assign rfl rfl) ?_
      refine at_nil ?_
      refine at_then ?_
      refine at_draw (by kernel_rfl) (by kernel_rfl) (by kernel_rfl) (List.cons_ne_nil _ _) ?_
      refine dr_op rfl rfl (opr_move rfl rfl) ?_
      refine dr_op rfl rfl (opr_indexAddr (j := j) (off' := 224 * j) rfl rfl rfl Tryz.underlying93 hlt size92 (by omega)) ?_
      refine dr_op rfl rfl (opr_move rfl rfl) ?_
      refine dr_op rfl rfl (opr_move rfl rfl) ?_
      refine dr_op rfl rfl (opr_conv (c := (j : Int)) rfl rfl Tryz.underlying3 Tryz.underlying21 (wrap_i32 _ (by omega) (by omega))) ?_
      refine dr_op rfl rfl (opr_call rfl rfl rfl Tryz.func56 (by kernel_rfl) rfl (ctEq_ct)) ?_
      refine dr_op rfl rfl (opr_to64 (n := (if dix (dg K2 m) = j then 1 else 0)) rfl rfl Tryz.underlying3 Tryz.underlying104 (by split <;> omega)) ?_
      refine dr_last rfl rfl (opr_call rfl rfl rfl Tryz.func55 (by kernel_rfl) rfl (cmovP_ct (b := (if dix (dg K2 m) = j then 1 else 0)) (is := 5) (iz := 2) (kz := 4 * j) (by split <;> simp) rfl rfl (by rw [hlT]; omega) (show 56 * (4 * j) = 224 * j by omega) q0 q1 q2 q3 (by decide) hbd.1 hbd.2.1 hbd.2.2.1 hbd.2.2.2 hkj.ha hkj.hs hkj.ht hkj.hz)) ?_
      refine at_inBlock_normal ?_
      refine at_then ?_
      refine at_region ?_
      refine at_d rfl rfl (opr_addI (a := j) (b := 1) rfl rfl rfl (by omega)) ?_
      refine at_d rfl rfl (opr_move rfl rfl) ?_
      refine at_nil ?_
      exact at_round2 (j + 1) _ ⟨by omega, sel_next rfl hbd hsj hkj (fun e => by rw [e])⟩ (by omega) (allIn ⟨rfl, rfl, rfl, rfl, rfl, rfl, rfl, rfl, rfl, trivial⟩) (List.Sublist.refl _)
    ·
      have hsel := hsj (by have := of_decide_eq_false ht; have := (dix_abs hdg).2; omega)
      refine at_exit ?_
      refine at_then_exit ?_
      refine at_then_exit ?_
      refine at_inBlock_same ?_
      refine at_then ?_
      refine at_seq ?_
      refine at_region ?_
      refine at_d rfl rfl (opr_fieldAddr rfl rfl Tryz.underlying92 rfl size90 rfl rfl) ?_
      refine at_d rfl rfl (opr_move rfl rfl) ?_
      refine at_c rfl rfl (opr_call rfl rfl rfl Tryz.func57 (by kernel_rfl) rfl (cnegP_ct (ig := ig + 8) (is := 5) hG (dsg_or (dg K2 m)) rfl (by omega) hsel)) ?_
      rintro _ _ ⟨a5, s5, t5, u5, hk5, rfl, rfl⟩
      refine at_nil ?_
      refine at_then ?_
      refine at_region ?_
      refine at_d rfl rfl (opr_move rfl rfl) ?_
      refine at_c rfl rfl (opr_call rfl rfl rfl Tryz.func58 (by kernel_rfl) rfl (twMix_ct (ip := 0) (iq := 5) rfl rfl (by decide) (pG_on hp _) (pif_on (pG_on hp _)) hQ4 hk5)) ?_
      rintro _ _ ⟨X6, Y6, Z6, A6, B6, hQ6, rfl, rfl⟩
      rw [acc_sum hp hK2o hK2 hm] at hQ6
      refine at_nil ?_
      refine at_inBlock_normal ?_
      refine at_then ?_
      refine at_region ?_
      refine at_d rfl rfl (opr_move rfl rfl) ?_
      refine at_d rfl rfl (opr_subIZ (c := (m : Int) - 1) rfl rfl rfl (by omega) (by omega) rfl) ?_
      refine at_d rfl rfl (opr_assign rfl rfl) ?_
      refine at_nil ?_
      exact at_round3 m _ _ ⟨by omega, ⟨⟨_, _, _, _, _, rfl, hQ6⟩, ⟨_, _, _, _, rfl, hk5.ha, hk5.hs, hk5.ht, hk5.hz⟩⟩⟩ (by omega) (allIn ⟨rfl, rfl, rfl, rfl, rfl, rfl, trivial⟩) (by repeat (first | exact List.Sublist.refl _ | apply List.Sublist.cons_cons | apply List.Sublist.cons))
  ·
    obtain rfl : r = 0 := by have := of_decide_eq_false ht; omega
    rw [acc_zero] at hQ0
    refine at_exit ?_
    refine at_then_exit ?_
    refine at_then_exit ?_
    refine at_inBlock_same ?_
    refine at_then ?_
    refine at_seq ?_
    rw [hK2e] at hQ0
    refine at_region ?_
    refine at_d rfl rfl (opr_move rfl rfl) ?_
    refine at_d rfl rfl (opr_move rfl rfl) ?_
    refine at_d rfl rfl (opr_to64 (n := (1 - (sel b0 (K % qq) qq) % 2)) rfl rfl Tryz.underlying3 Tryz.underlying104 (by omega)) ?_
    refine at_c rfl rfl (opr_call rfl rfl rfl Tryz.func59 (by kernel_rfl) rfl (cnegT_ct (ig := ig + 8) (ip := 0) hG (b := (1 - (sel b0 (K % qq) qq) % 2)) (by omega) rfl (by omega) hQ0)) ?_
    rintro _ _ ⟨X7, Y7, Z7, A7, B7, hQ7, rfl, rfl⟩
    refine at_nil ?_
    refine at_then ?_
    refine at_seq ?_
    refine at_region ?_
    refine at_d rfl rfl (opr_move rfl rfl) ?_
    refine at_d rfl rfl (opr_assign rfl rfl) ?_
    refine at_nil ?_
    refine at_then ?_
    refine at_ret ?_
    rw [tmul_end hp hq hb0] at hQ7
    exact done_of (res1 Tryz.results31 (res_tmp rfl)) ⟨gQ, X7, Y7, Z7, A7, B7, hQ7, rfl, rfl⟩ (by repeat (first | exact List.Sublist.refl _ | apply List.Sublist.cons_cons | apply List.Sublist.cons))
end Go.Proofs.YtjlhhcdefcofkaaGreatDoor

/- A point so many times, by the package. -/
namespace Go.Proofs.YtjlhhcdefcofkaaGreatDoor
open Go
set_option maxRecDepth 100000
theorem size47 : (Tryz.prog.info? 47).map (·.size) = some 0 := by kernel_rfl
theorem builte72 : Tryz.prog.built 72 [] = some ([] : List Value).toArray := by kernel_rfl
def i4n : Nat := 45427420268475430659332737993000283397102585042957378767593137448786500990384896429048938822923093990827573427272915576193438964912445
theorem i4n_RR : i4n < RR := by decide +kernel
theorem i4n_four : 4 * i4n % qq = 1 := by decide +kernel
theorem k4_four (K : Nat) : 4 * (K * i4n % qq) % qq = K % qq := by
  rw [Nat.mul_mod_mod, show 4 * (K * i4n) = K * (4 * i4n) from Nat.mul_left_comm _ _ _, Nat.mul_mod, i4n_four, Nat.mul_one, Nat.mod_mod]
theorem pull_eq {p : Pt} (hp : OnG p) (hq : pG p qq = (0, 1)) (K : Nat) : pa (pa (pG p (K * i4n % qq)) (pG p (K * i4n % qq))) (pa (pG p (K * i4n % qq)) (pG p (K * i4n % qq))) = pG p K := by
  have h1 : ∀ n, pa (pG p n) (pG p n) = pG p (2 * n) := fun n => (pm_two goldC hp n).symm
  rw [h1, h1]
  exact pm_eq goldC hp hq (by rw [show 2 * (2 * (K * i4n % qq)) = 4 * (K * i4n % qq) by omega]; exact k4_four K)
theorem push_one {x y : Nat} : el x = ((el x, el y) : Pt).1 * el 1 ∧ el y = ((el x, el y) : Pt).2 * el 1 := by
  rw [el_one]
  exact ⟨by grind, by grind⟩
theorem one_ne : el 1 ≠ 0 := by rw [el_one]; exact isF_pp.one
/-- What stands there of a point. -/
structure PtB_ (p : Pt) (x y z : Nat) : Prop where
  hx : x < RR
  hy : y < RR
  hz : z < RR
  nz : el z ≠ 0
  ex : el x = p.1 * el z
  ey : el y = p.2 * el z
theorem aff_of {p : Pt} {x y z : Nat} (h : PtB_ p x y z) : el (x * invp z % pp) = p.1 ∧ el (y * invp z % pp) = p.2 := by
  obtain ⟨_, _, _, nz, ex, ey⟩ := h
  constructor
  · apply isF_pp.cancel nz
    have h1 := aff_mul (x := x) nz
    rw [ex] at h1
    generalize el (x * invp z % pp) = a at *
    generalize el z = c at *
    clear ex ey nz; grind
  · apply isF_pp.cancel nz
    have h1 := aff_mul (x := y) nz
    rw [ey] at h1
    generalize el (y * invp z % pp) = a at *
    generalize el z = c at *
    clear ex ey nz; grind
theorem divBy4_ct {M : Mem} {jo To jr Tr ji Ti : Nat} (hO : M[jo]? = some ⟨1, To, EE [qq]⟩) (hR : M[jr]? = some ⟨5, Tr, W (digs 18446744073709551616 4 r448)⟩) (hjr : jo ≠ jr) (hI : M[ji]? = some ⟨0, Ti, EE [i4n]⟩) {gz Tz gx Tx c X : Nat} (hX : X < RR) : Ct Tryz.prog 29 #[.pointer (some ⟨gz, 0, none⟩), .pointer (some ⟨gx, 0, none⟩)] (⟨gz, Tz, EE [c]⟩ :: ⟨gx, Tx, EE [X]⟩ :: M) (Det (.tuple #[]) (⟨gz, Tz, EE [X * i4n % qq]⟩ :: ⟨gx, Tx, EE [X]⟩ :: M)) := by
  refine ct_of (vs := [.pointer (some ⟨gz, 0, none⟩), .pointer (some ⟨gx, 0, none⟩)]) Tryz.func29 rfl Tryz.ntmps29 rfl fun w0 => ?_
  refine at_seq ?_
  refine at_region ?_
  refine at_d rfl rfl (opr_load (i := ji + 2) rfl rfl hI Tryz.underlying44 rfl size44 (E_length _) (EE_at (k := 0) rfl rfl rfl)) ?_
  refine at_n rfl rfl (opr_alloc rfl zero44 rfl) ?_
  intro g0
  refine at_d rfl rfl (opr_store (i := 0) rfl rfl rfl rfl rfl size44 (E_length _) (by rw [EE_length]; exact Nat.le_of_ble_eq_true rfl) (E_flat _) (EE_set (k := 0) (Nat.le_of_ble_eq_true rfl) rfl)) ?_
  refine at_nil ?_
  refine at_then ?_
  refine at_region ?_
  refine at_d rfl rfl (opr_move rfl rfl) ?_
  refine at_d rfl rfl (opr_move rfl rfl) ?_
  refine at_d rfl rfl (opr_call rfl rfl rfl Tryz.func46 (by kernel_rfl) rfl (ct_frame (iz := 1) (idx := [2, 0, jo + 3, jr + 3]) (L := [⟨gx, Tx, EE [X]⟩, ⟨g0, 44, EE [i4n]⟩, ⟨1, To, EE [qq]⟩, ⟨5, Tr, W ((digs 18446744073709551616 4 r448))⟩]) rfl (by simp only [List.nodup_cons, List.mem_cons, List.not_mem_nil, or_false, not_or, not_false_eq_true, List.nodup_nil, and_true] <;> omega) rfl (idxc rfl (idxc rfl (idxc hO (idxc hR idx0)))) (sMul'_ct (M := []) hX i4n_RR) (by rintro _ _ ⟨rfl, rfl⟩; exact ⟨_, rfl, rfl, rfl⟩))) ?_
  refine at_nil ?_
  exact done_of (res0 Tryz.results29) ⟨rfl, rfl⟩ (by repeat (first | exact List.Sublist.refl _ | apply List.Sublist.cons_cons | apply List.Sublist.cons))
theorem q_RR' (K : Nat) : K * i4n % qq < RR := Nat.lt_trans (Nat.mod_lt _ (by decide)) qq_RR
theorem pullC_ct {M : Mem} {ig Tp : Nat} (hG : M[ig]? = some ⟨3, Tp, EE [pp]⟩) {ip gP TP X Y Z A B : Nat} (hP : M[ip]? = some ⟨gP, TP, EE [X, Y, Z, A, B]⟩) (hX : X < RR) (hY : Y < RR) (hZ : Z < RR) : Ct Tryz.prog 30 #[.agg ([] : List Value).toArray, .pointer (some ⟨gP, 0, none⟩)] M (fun v M' => ∃ g x3 y3 z3 a3 b3, x3 < RR ∧ y3 < RR ∧ z3 < RR ∧ a3 < RR ∧ b3 < RR ∧ el x3 = (2 * (el X * el Y)) * (2 * (el Z * el Z) - (el Y * el Y - el X * el X)) ∧ el y3 = (el Y * el Y + el X * el X) * (el Y * el Y - el X * el X) ∧ el z3 = (2 * (el Z * el Z) - (el Y * el Y - el X * el X)) * (el Y * el Y + el X * el X) ∧ el a3 = (2 * (el X * el Y)) ∧ el b3 = (el Y * el Y - el X * el X) ∧ v = .pointer (some ⟨g, 0, none⟩) ∧ M' = ⟨g, 82, EE [x3, y3, z3, a3, b3]⟩ :: M) := by
  refine ct_of (vs := [.agg ([] : List Value).toArray, .pointer (some ⟨gP, 0, none⟩)]) Tryz.func30 rfl Tryz.ntmps30 rfl fun w0 => ?_
  refine at_seq ?_
  refine at_region ?_
  refine at_n rfl rfl (opr_box rfl rfl rfl) ?_
  intro g0
  refine at_d rfl rfl (opr_assign rfl rfl) ?_
  refine at_nil ?_
  refine at_then ?_
  refine at_seq ?_
  refine at_region ?_
  refine at_d rfl rfl (opr_buildE (ds := []) rfl rfl builte72 rfl) ?_
  refine at_d rfl rfl (opr_move rfl rfl) ?_
  refine at_c rfl rfl (opr_call rfl rfl rfl Tryz.func47 (by kernel_rfl) rfl (pullR_ct (ig := ig + 1) (ip := ip + 1) hG hP hX hY hZ)) ?_
  rintro _ _ ⟨g9, x3, y3, z3, a3, b3, h1, h2, h3, h4, h5, e1, e2, e3, e4, e5, rfl, rfl⟩
  refine at_d rfl rfl (opr_assign rfl rfl) ?_
  refine at_nil ?_
  refine at_then ?_
  refine at_ret ?_
  exact done_of (res1 Tryz.results30 (res_tmp rfl)) ⟨g9, x3, y3, z3, a3, b3, h1, h2, h3, h4, h5, e1, e2, e3, e4, e5, rfl, rfl⟩ (by repeat (first | exact List.Sublist.refl _ | apply List.Sublist.cons_cons | apply List.Sublist.cons))
theorem cMul_ct {M : Mem} {ig Tp jt Tt : Nat} (hG : M[ig]? = some ⟨3, Tp, EE [pp]⟩) (hT : M[jt]? = some ⟨6, Tt, EE [dT]⟩) {jo To jr Tr ji Ti : Nat} (hO : M[jo]? = some ⟨1, To, EE [qq]⟩) (hR : M[jr]? = some ⟨5, Tr, W (digs 18446744073709551616 4 r448)⟩) (hjr : jo ≠ jr) (hI : M[ji]? = some ⟨0, Ti, EE [i4n]⟩) {gk Tk gP TP K x y : Nat} (hK : K < RR) (hx : x < RR) (hy : y < RR) (hp : OnG ((el x, el y) : Pt)) (hq : pG ((el x, el y) : Pt) qq = (0, 1)) : Ct Tryz.prog 15 #[.agg ([] : List Value).toArray, .pointer (some ⟨gk, 0, none⟩), .pointer (some ⟨gP, 0, none⟩)] (⟨gk, Tk, EE [K]⟩ :: ⟨gP, TP, EE [x, y, 1, x, y]⟩ :: M) (fun v M' => ∃ g x3 y3 z3 a3 b3, PtB_ (pG ((el x, el y) : Pt) K) x3 y3 z3 ∧ v = .pointer (some ⟨g, 0, none⟩) ∧ M' = ⟨g, 82, EE [x3, y3, z3, a3, b3]⟩ :: ⟨gk, Tk, EE [K]⟩ :: ⟨gP, TP, EE [x, y, 1, x, y]⟩ :: M) := by
  have hji1 : ji ≠ jo := fun e => by subst e; have := hO.symm.trans hI; simp at this
  have hji2 : ji ≠ jr := fun e => by subst e; have := hR.symm.trans hI; simp at this
  refine ct_of (vs := [.agg ([] : List Value).toArray, .pointer (some ⟨gk, 0, none⟩), .pointer (some ⟨gP, 0, none⟩)]) Tryz.func15 rfl Tryz.ntmps15 rfl fun w0 => ?_
  refine at_seq ?_
  refine at_region ?_
  refine at_n rfl rfl (opr_box rfl rfl rfl) ?_
  intro g0
  refine at_d rfl rfl (opr_assign rfl rfl) ?_
  refine at_nil ?_
  refine at_then ?_
  refine at_seq ?_
  refine at_region ?_
  refine at_d rfl rfl (opr_buildE (ds := E 0) rfl rfl builtz44 rfl) ?_
  refine at_n rfl rfl (opr_box (cs := EE [0]) rfl rfl (E_box _)) ?_
  intro g1
  refine at_d rfl rfl (opr_assign rfl rfl) ?_
  refine at_nil ?_
  refine at_then ?_
  refine at_seq ?_
  refine at_region ?_
  refine at_d rfl rfl (opr_move rfl rfl) ?_
  refine at_d rfl rfl (opr_move rfl rfl) ?_
  refine at_d rfl rfl (opr_call rfl rfl rfl Tryz.func29 (by kernel_rfl) rfl (ct_frame (iz := 0) (idx := [2, jo + 4, jr + 4, ji + 4]) (L := [⟨gk, Tk, EE [K]⟩, ⟨1, To, EE [qq]⟩, ⟨5, Tr, W ((digs 18446744073709551616 4 r448))⟩, ⟨0, Ti, EE [i4n]⟩]) rfl (by simp only [List.nodup_cons, List.mem_cons, List.not_mem_nil, or_false, not_or, not_false_eq_true, List.nodup_nil, and_true] <;> omega) rfl (idxc rfl (idxc hO (idxc hR (idxc hI idx0)))) (divBy4_ct (M := [⟨1, To, EE [qq]⟩, ⟨5, Tr, W ((digs 18446744073709551616 4 r448))⟩, ⟨0, Ti, EE [i4n]⟩]) (jo := 0) (jr := 1) (ji := 2) rfl rfl (by decide) rfl hK) (by rintro _ _ ⟨rfl, rfl⟩; exact ⟨_, rfl, rfl, rfl⟩))) ?_
  refine at_nil ?_
  refine at_then ?_
  refine at_seq ?_
  refine at_draw_chain rfl (by kernel_rfl) (by kernel_rfl) (List.elem_iff.1 (by kernel_rfl)) (List.elem_iff.1 (by kernel_rfl)) (List.elem_iff.1 (by kernel_rfl)) (.agg ([] : List Value).toArray) (.agg ([] : List Value).toArray) (.pointer (some ⟨g1, 0, none⟩)) (.agg ([] : List Value).toArray) (.pointer (some ⟨gP, 0, none⟩)) (R5 := fun v M5 => ∃ g X Y Z A B, TwB ((el x, el y) : Pt) X Y Z A B ∧ v = .pointer (some ⟨g, 0, none⟩) ∧ M5 = ⟨g1, 44, EE [K * i4n % qq]⟩ :: ⟨g, 111, EE [X, Y, Z, A, B]⟩ :: ⟨g0, 47, []⟩ :: ⟨gk, Tk, EE [K]⟩ :: ⟨gP, TP, EE [x, y, 1, x, y]⟩ :: M) (R6 := fun _ v M6 => ∃ g X Y Z A B, TwB (pG ((el x, el y) : Pt) (K * i4n % qq)) X Y Z A B ∧ v = .pointer (some ⟨g, 0, none⟩) ∧ M6 = ⟨g, 111, EE [X, Y, Z, A, B]⟩ :: ⟨g0, 47, []⟩ :: ⟨gk, Tk, EE [K]⟩ :: ⟨gP, TP, EE [x, y, 1, x, y]⟩ :: M) (R7 := fun _ _ v M7 => ∃ g gq x3 y3 z3 a3 b3 X Y Z A B, PtB_ (pG ((el x, el y) : Pt) K) x3 y3 z3 ∧ v = .pointer (some ⟨g, 0, none⟩) ∧ M7 = ⟨g, 82, EE [x3, y3, z3, a3, b3]⟩ :: ⟨gq, 111, EE [X, Y, Z, A, B]⟩ :: ⟨g0, 47, []⟩ :: ⟨gk, Tk, EE [K]⟩ :: ⟨gP, TP, EE [x, y, 1, x, y]⟩ :: M) ?_ ?_ ?_ ?_ ?_ ?_ ?_ ?_ ?_ ?_
  · exact ⟨rfl, rfl, fun _ => opr_load0 rfl rfl Tryz.underlying47 rfl size47⟩
  · exact ⟨rfl, rfl, fun _ => opr_buildE (ds := []) rfl rfl builte72 rfl⟩
  · exact ⟨rfl, rfl, fun _ => opr_move rfl rfl⟩
  · exact ⟨rfl, rfl, fun _ => opr_load0 rfl rfl Tryz.underlying47 rfl size47⟩
  · exact ⟨rfl, rfl, fun _ => opr_move rfl rfl⟩
  · refine ⟨rfl, rfl, (opr_call rfl rfl rfl Tryz.func32 (by kernel_rfl) rfl (pushR_ct (ig := ig + 4) (ip := 3) hG rfl hx hy RR_one)).mono ?_⟩
    rintro _ _ ⟨g, x3, y3, z3, a3, b3, h1, h2, h3, h4, h5, e1, e2, e3, e4, e5, rfl, rfl⟩
    exact ⟨_, List.Perm.swap _ _ _, g, x3, y3, z3, a3, b3, TwB.push hp one_ne push_one.1 push_one.2 h1 h2 h3 h4 h5 e1 e2 e3 e4 e5, rfl, rfl⟩
  · rintro _ _ ⟨g, X, Y, Z, A, B, hTw, rfl, rfl⟩
    refine ⟨rfl, rfl, (opr_call rfl rfl rfl Tryz.func31 (by kernel_rfl) rfl (twMul_ct (ig := ig + 3) (jo := jo + 3) (jr := jr + 3) (jt := jt + 3) hG hO hR (by omega) hT (q_RR' K) hp hq hTw)).mono ?_⟩
    rintro _ _ ⟨g, X, Y, Z, A, B, hTw, rfl, rfl⟩
    exact ⟨_, .refl _, g, X, Y, Z, A, B, hTw, rfl, rfl⟩
  · rintro _ _ _ ⟨g, X, Y, Z, A, B, hTw, rfl, rfl⟩
    refine ⟨rfl, rfl, (opr_call rfl rfl rfl Tryz.func30 (by kernel_rfl) rfl (pullC_ct (ig := ig + 4) (ip := 0) hG rfl hTw.hX hTw.hY hTw.hZ)).mono ?_⟩
    rintro _ _ ⟨g2, x3, y3, z3, a3, b3, h1, h2, h3, h4, h5, e1, e2, e3, e4, e5, rfl, rfl⟩
    have hpl := hTw.pull (pG_on hp _) e1 e2 e3
    rw [pull_eq hp hq K] at hpl
    exact ⟨_, .refl _, g2, g, x3, y3, z3, a3, b3, X, Y, Z, A, B, ⟨h1, h2, h3, hpl.1, hpl.2.1, hpl.2.2⟩, rfl, rfl⟩
  · rintro _ _ _ _ ⟨g, gq, x3, y3, z3, a3, b3, X, Y, Z, A, B, hPt, rfl, rfl⟩
    exact ⟨rfl, rfl, fun _ => opr_assign rfl rfl⟩
  rintro _ _ _ _ ⟨g9, gq, x3, y3, z3, a3, b3, X, Y, Z, A, B, hPt, rfl, rfl⟩
  refine at_then ?_
  refine at_ret ?_
  exact done_of (res1 Tryz.results15 (res_tmp rfl)) ⟨g9, x3, y3, z3, a3, b3, hPt, rfl, rfl⟩ (by repeat (first | exact List.Sublist.refl _ | apply List.Sublist.cons_cons | apply List.Sublist.cons))
theorem iTimes_ct {M : Mem} {ig Tp jt Tt : Nat} (hG : M[ig]? = some ⟨3, Tp, EE [pp]⟩) (hT : M[jt]? = some ⟨6, Tt, EE [dT]⟩) {jo To jr Tr ji Ti : Nat} (hO : M[jo]? = some ⟨1, To, EE [qq]⟩) (hR : M[jr]? = some ⟨5, Tr, W (digs 18446744073709551616 4 r448)⟩) (hjr : jo ≠ jr) (hI : M[ji]? = some ⟨0, Ti, EE [i4n]⟩) {jd Td : Nat} (hD : M[jd]? = some ⟨2, Td, EE [dP]⟩) {K x y : Nat} (hK : K < RR) (hx : x < RR) (hy : y < RR) (hp : OnG ((el x, el y) : Pt)) (hq : pG ((el x, el y) : Pt) qq = (0, 1)) : Ct Tryz.prog 5 #[.agg (E K).toArray, .agg (EE [x, y]).toArray] M (fun v M' => ∃ xa ya, xa < pp ∧ ya < pp ∧ el xa = (pG ((el x, el y) : Pt) K).1 ∧ el ya = (pG ((el x, el y) : Pt) K).2 ∧ v = .tuple #[.agg (EE [xa, ya]).toArray, .bool true] ∧ M' = M) := by
  refine ct_of (vs := [.agg (E K).toArray, .agg (EE [x, y]).toArray]) Tryz.func5 rfl Tryz.ntmps5 rfl fun w0 => ?_
  refine at_seq ?_
  refine at_region ?_
  refine at_n rfl rfl (opr_box (cs := EE [K]) rfl rfl (E_box _)) ?_
  intro g0
  refine at_n rfl rfl (opr_box rfl rfl rfl) ?_
  intro g1
  refine at_n rfl rfl (opr_alloc rfl zero24 rfl) ?_
  intro g2
  refine at_d rfl rfl (opr_assign rfl rfl) ?_
  refine at_nil ?_
  refine at_then ?_
  refine at_seq ?_
  refine at_region ?_
  refine at_d rfl rfl (opr_load (i := 1) rfl rfl rfl Tryz.underlying24 rfl size24 (EE_length _) (EE_all rfl)) ?_
  refine at_c rfl rfl (opr_call rfl rfl rfl Tryz.func13 (by kernel_rfl) rfl (pointT_ct (ig := ig + 3) (jd := jd + 3) hG hD hx hy hp)) ?_
  rintro _ _ ⟨gN1, rfl, rfl⟩
  refine at_d rfl rfl (opr_move rfl rfl) ?_
  refine at_d rfl rfl (opr_extract rfl rfl rfl) ?_
  refine at_d rfl rfl (opr_extract rfl rfl rfl) ?_
  refine at_d rfl rfl (opr_assign rfl rfl) ?_
  refine at_d rfl rfl (opr_assign rfl rfl) ?_
  refine at_nil ?_
  refine at_then ?_
  refine at_seq ?_
  refine at_seq ?_
  refine at_region ?_
  refine at_d rfl rfl (opr_move rfl rfl) ?_
  refine at_d rfl rfl (opr_unOp (u := .bool false) rfl rfl (fun _ => rfl)) ?_
  refine at_nil ?_
  refine at_then ?_
  refine at_cond_false rfl ?_
  refine at_skip ?_
  refine at_then ?_
  refine at_seq ?_
  refine at_region ?_
  refine at_d rfl rfl (opr_load (i := 3) rfl rfl rfl Tryz.underlying22 rfl size22 (E_length _) (EE_at (k := 0) rfl rfl rfl)) ?_
  refine at_n rfl rfl (opr_alloc rfl zero44 rfl) ?_
  intro g3
  refine at_d rfl rfl (opr_store (i := 0) rfl rfl rfl rfl rfl size44 (E_length _) (by rw [EE_length]; exact Nat.le_of_ble_eq_true rfl) (E_flat _) (EE_set (k := 0) (Nat.le_of_ble_eq_true rfl) rfl)) ?_
  refine at_nil ?_
  refine at_then ?_
  refine at_seq ?_
  refine at_region ?_
  refine at_d rfl rfl (opr_buildE (ds := []) rfl rfl builte47 rfl) ?_
  refine at_d rfl rfl (opr_move rfl rfl) ?_
  refine at_c rfl rfl (opr_call rfl rfl rfl Tryz.func15 (by kernel_rfl) rfl (cMul_ct (ig := ig + 3) (jt := jt + 3) (jo := jo + 3) (jr := jr + 3) (ji := ji + 3) hG hT hO hR (by omega) hI hK hx hy hp hq)) ?_
  rintro _ _ ⟨g9, x3, y3, z3, a3, b3, hPt, rfl, rfl⟩
  refine at_d rfl rfl (opr_call rfl rfl rfl Tryz.func14 (by kernel_rfl) rfl (plain_ct (ig := ig + 6) (ip := 0) hG rfl (by omega) hPt.hx hPt.hy hPt.hz)) ?_
  refine at_d rfl rfl (opr_store (i := 3) rfl rfl rfl rfl rfl size24 (EE_length _) (by rw [EE_length]; exact Nat.le_of_ble_eq_true rfl) (EE_flat _) (EE_over rfl)) ?_
  refine at_d rfl rfl (opr_assign rfl rfl) ?_
  refine at_nil ?_
  refine at_then ?_
  refine at_ret ?_
  exact done_of (res2 Tryz.results5 (res_cell (i := 3) rfl rfl Tryz.underlying24 rfl size24 (EE_length _) (EE_all rfl)) (res_tmp rfl)) ⟨_, _, aff_lt _ _, aff_lt _ _, (aff_of hPt).1, (aff_of hPt).2, rfl, rfl⟩ (by repeat (first | exact List.Sublist.refl _ | apply List.Sublist.cons_cons | apply List.Sublist.cons))
end Go.Proofs.YtjlhhcdefcofkaaGreatDoor

/- The law FnTimesIs. -/
namespace Go.Proofs.YtjlhhcdefcofkaaGreatDoor
open Go
set_option maxRecDepth 100000

theorem builts22 (c : Nat) : Tryz.prog.built 22 [(0, .int .u8 (c : Int))] = some (.int .u8 (c : Int) :: List.replicate 55 (.int .u8 0)).toArray := by kernel_rfl
theorem builtz22 : Tryz.prog.built 22 [] = some (List.replicate 56 (Value.int .u8 0)).toArray := by kernel_rfl
/-- The reference's steps. -/
def pl3 (a b : Nat × Nat × Nat) : Nat × Nat × Nat := (plX a.1 a.2.1 a.2.2 b.1 b.2.1 b.2.2, plY a.1 a.2.1 a.2.2 b.1 b.2.1 b.2.2, plZ a.1 a.2.1 a.2.2 b.1 b.2.1 b.2.2)
def ts (x y e : Nat) : Nat → Nat × Nat × Nat
  | 0 => (0, 1, 1)
  | k + 1 => if bitN e (447 - k) = 1 then pl3 (pl3 (ts x y e k) (ts x y e k)) (x, y, 1) else pl3 (ts x y e k) (ts x y e k)
def B3 (a : Nat × Nat × Nat) : Prop := a.1 < RR ∧ a.2.1 < RR ∧ a.2.2 < RR
theorem pl3_lt (a b : Nat × Nat × Nat) : B3 (pl3 a b) := ⟨plX_lt _ _ _ _ _ _, plY_lt _ _ _ _ _ _, plZ_lt _ _ _ _ _ _⟩
theorem ts_lt (x y e : Nat) : ∀ k, B3 (ts x y e k)
  | 0 => ⟨RR_zero, RR_one, RR_one⟩
  | k + 1 => by
    unfold ts
    split
    · exact pl3_lt _ _
    · exact pl3_lt _ _
/-- Three numbers stand for a point. -/
def Rp (p : Pt) (a : Nat × Nat × Nat) : Prop := Rep p.1 p.2 (el a.1) (el a.2.1) (el a.2.2)
theorem Rp.plus {p q : Pt} {a b : Nat × Nat × Nat} (hp : OnG p) (hq : OnG q) (ha : Rp p a) (hb : Rp q b) : Rp (pa p q) (pl3 a b) := Rep.plus hp hq ha hb (pa_sum hp hq) (pl_el _ _ _ _ _ _)
theorem ts_rp {x y e : Nat} (hp : OnG ((el x, el y) : Pt)) (he : e < RR) : ∀ k, k ≤ 448 → Rp (pG (el x, el y) (tops e k)) (ts x y e k)
  | 0, _ => by
    rw [tops_zero he]
    show Rep _ _ (el 0) (el 1) (el 1)
    rw [el_zero, el_one]
    exact ⟨isF_pp.one, by show (0 : Fin pp) * 1 = 0; grind, by show (1 : Fin pp) * 1 = 1; grind⟩
  | k + 1, hk => by
    have h := ts_rp hp he k (by omega)
    have hd := Rp.plus (pG_on hp _) (pG_on hp _) h h
    rw [show pa _ _ = _ from (pm_two goldC hp _).symm] at hd
    have hb := half_bit (e := e) (k := k) (by omega)
    unfold ts
    by_cases e1 : bitN e (447 - k) = 1
    · rw [if_pos e1, hb, e1]
      exact Rp.plus (pG_on hp _) hp hd (rep_one _ _)
    · have := bitN_or e (447 - k)
      rw [if_neg e1, hb, show bitN e (447 - k) = 0 by omega, Nat.add_zero]
      exact hd
theorem ts_end {x y e : Nat} (hp : OnG ((el x, el y) : Pt)) (he : e < RR) : Rp (pG (el x, el y) e) (ts x y e 448) := by
  have h := ts_rp hp he 448 (Nat.le_refl _)
  rw [show tops e 448 = e from topn_end 448 e] at h
  exact h
theorem is_zero {p : Pt} {a : Nat × Nat × Nat} (h : Rp p a) (hi : isB a.1 a.2.1 a.2.2 0 1 = true) : p = (0, 1) := by
  obtain ⟨nz, hx, hy⟩ := h
  unfold isB at hi
  simp only [Bool.and_eq_true, decide_eq_true_eq] at hi
  have h1 : el a.1 = 0 := by rw [el_eq_zero, ← hi.1, Nat.zero_mul, Nat.zero_mod]
  have h2 : el a.2.1 = el a.2.2 := by rw [el_eq, ← hi.2, Nat.one_mul]
  rw [h1] at hx
  rw [h2] at hy
  refine Prod.ext ?_ ?_
  · apply isF_pp.cancel nz
    generalize el a.2.2 = c at *
    clear hy h2 hi h1 nz
    grind
  · apply isF_pp.cancel nz
    generalize el a.2.2 = c at *
    clear hx h2 hi h1 nz
    grind
/-- What is known of a point that lies within. -/
def Wi (x y : Nat) : Prop := OnG ((el x, el y) : Pt) ∧ pG ((el x, el y) : Pt) qq = (0, 1)
theorem sTimes_ct {M : Mem} {x y e : Nat} (hx : x < RR) (hy : y < RR) (he : e < RR) : Ct Tryz.prog 8 #[.agg (NN [x, y, 1]).toArray, .agg (N e).toArray] M (Det (.agg (NN [(ts x y e 448).1, (ts x y e 448).2.1, (ts x y e 448).2.2]).toArray) M) := by
  refine ct_of (vs := [.agg (NN [x, y, 1]).toArray, .agg (N e).toArray]) Tryz.func8 rfl Tryz.ntmps8 rfl fun w0 => ?_
  refine at_seq ?_
  refine at_region ?_
  refine at_n rfl rfl (opr_box rfl rfl rfl) ?_
  intro g0
  refine at_n rfl rfl (opr_box rfl rfl rfl) ?_
  intro g1
  refine at_n rfl rfl (opr_alloc rfl zero33 rfl) ?_
  intro g2
  refine at_nil ?_
  refine at_then ?_
  refine at_seq ?_
  refine at_region ?_
  refine at_d rfl rfl (opr_call rfl rfl rfl Tryz.func19 (by kernel_rfl) rfl (sZero_ct)) ?_
  refine at_n rfl rfl (opr_alloc rfl zero33 rfl) ?_
  intro g3
  refine at_d rfl rfl (opr_store (i := 0) rfl rfl rfl rfl rfl size33 (NN_length _) (by rw [NN_length]; exact Nat.le_of_ble_eq_true rfl) (NN_flat _) (NN_over rfl)) ?_
  refine at_nil ?_
  refine at_then ?_
  refine at_seq ?_
  refine at_seq ?_
  refine at_region ?_
  refine at_d rfl rfl (opr_assign rfl rfl) ?_
  refine at_nil ?_
  refine at_then ?_
  refine at_block ?_
  refine at_loop (fun (i : Nat) => [(2, .pointer (some ⟨g0, 0, none⟩)), (3, .pointer (some ⟨g1, 0, none⟩)), (4, .pointer (some ⟨g2, 0, none⟩)), (5, .pointer (some ⟨g3, 0, none⟩)), (6, .int .i64 (447 - (i : Int)))]) (fun (i : Nat) => ⟨g3, 33, NN [(ts x y e i).1, (ts x y e i).2.1, (ts x y e i).2.2]⟩ :: ⟨g2, 33, NN [0, 0, 0]⟩ :: ⟨g1, 31, N (e)⟩ :: ⟨g0, 33, NN [x, y, 1]⟩ :: M) (fun (i : Nat) => 448 - i) (fun (i : Nat) => i ≤ 448) 0 (Nat.zero_le _) (allIn ⟨rfl, rfl, rfl, rfl, rfl, trivial⟩) (List.Sublist.refl _) ?_
  intro k hk
  dsimp only
  refine at_seq ?_
  refine at_seq ?_
  refine at_region ?_
  refine at_d rfl rfl (opr_move rfl rfl) ?_
  refine at_d rfl rfl (opr_geqZ rfl rfl rfl) ?_
  refine at_nil ?_
  refine at_then ?_
  refine at_cond rfl (fun ht => ?_) (fun ht => ?_)
  ·
    have hk0 := of_decide_eq_true ht
    have hlt : k < 448 := by omega
    have ej : 447 - (k : Int) = ((447 - k : Nat) : Int) := by omega
    refine at_skip ?_
    refine at_then ?_
    refine at_seq ?_
    refine at_block ?_
    refine at_seq ?_
    refine at_region ?_
    refine at_d rfl rfl (opr_load (i := 0) rfl rfl rfl Tryz.underlying33 rfl size33 (NN_length _) (NN_all rfl)) ?_
    refine at_d rfl rfl (opr_load (i := 0) rfl rfl rfl Tryz.underlying33 rfl size33 (NN_length _) (NN_all rfl)) ?_
    refine at_d rfl rfl (opr_call rfl rfl rfl Tryz.func20 (by kernel_rfl) rfl ((show Ct _ _ _ _ (Det (.agg (NN [(pl3 (ts x y e k) (ts x y e k)).1, (pl3 (ts x y e k) (ts x y e k)).2.1, (pl3 (ts x y e k) (ts x y e k)).2.2]).toArray) _) from sPlus_ct (ts_lt x y e k).1 (ts_lt x y e k).2.1 (ts_lt x y e k).2.2 (ts_lt x y e k).1 (ts_lt x y e k).2.1 (ts_lt x y e k).2.2))) ?_
    refine at_d rfl rfl (opr_store (i := 0) rfl rfl rfl rfl rfl size33 (NN_length _) (by rw [NN_length]; exact Nat.le_of_ble_eq_true rfl) (NN_flat _) (NN_over rfl)) ?_
    refine at_nil ?_
    refine at_then ?_
    refine at_seq ?_
    refine at_region ?_
    refine at_d rfl rfl (opr_load (i := 2) rfl rfl rfl Tryz.underlying31 rfl size31 (N_length _) (N_at _)) ?_
    refine at_d rfl rfl (opr_move rfl rfl) ?_
    refine at_d rfl rfl (opr_call rfl rfl (by exact congrArg (fun n => some [Value.agg (N (e)).toArray, Value.int .i64 n]) ej) Tryz.func21 (by kernel_rfl) rfl (bit_ct (a := e) (i := 447 - k) (by omega))) ?_
    refine at_d rfl rfl (opr_eql (a := bitN e (447 - k)) (b := 1) rfl rfl rfl) ?_
    refine at_nil ?_
    refine at_then ?_
    refine at_cond rfl (fun hb => ?_) (fun hb => ?_)
    ·
      have hb1 := of_decide_eq_true hb
      refine at_region ?_
      refine at_d rfl rfl (opr_load (i := 0) rfl rfl rfl Tryz.underlying33 rfl size33 (NN_length _) (NN_all rfl)) ?_
      refine at_d rfl rfl (opr_load (i := 3) rfl rfl rfl Tryz.underlying33 rfl size33 (NN_length _) (NN_all rfl)) ?_
      refine at_d rfl rfl (opr_call rfl rfl rfl Tryz.func20 (by kernel_rfl) rfl ((show Ct _ _ _ _ (Det (.agg (NN [(pl3 (pl3 (ts x y e k) (ts x y e k)) (x, y, 1)).1, (pl3 (pl3 (ts x y e k) (ts x y e k)) (x, y, 1)).2.1, (pl3 (pl3 (ts x y e k) (ts x y e k)) (x, y, 1)).2.2]).toArray) _) from sPlus_ct (pl3_lt _ _).1 (pl3_lt _ _).2.1 (pl3_lt _ _).2.2 hx hy RR_one))) ?_
      refine at_d rfl rfl (opr_store (i := 0) rfl rfl rfl rfl rfl size33 (NN_length _) (by rw [NN_length]; exact Nat.le_of_ble_eq_true rfl) (NN_flat _) (NN_over rfl)) ?_
      refine at_nil ?_
      refine at_inBlock_normal ?_
      refine at_then ?_
      refine at_region ?_
      refine at_d rfl rfl (opr_move rfl rfl) ?_
      refine at_d rfl rfl (opr_subIZ (c := 447 - ((k + 1 : Nat) : Int)) rfl rfl rfl (by omega) (by omega) (by omega)) ?_
      refine at_d rfl rfl (opr_assign rfl rfl) ?_
      refine at_nil ?_
      rw [show (NN [(pl3 (pl3 (ts x y e k) (ts x y e k)) (x, y, 1)).1, (pl3 (pl3 (ts x y e k) (ts x y e k)) (x, y, 1)).2.1, (pl3 (pl3 (ts x y e k) (ts x y e k)) (x, y, 1)).2.2]) = NN [(ts x y e (k + 1)).1, (ts x y e (k + 1)).2.1, (ts x y e (k + 1)).2.2] from (by rw [ts, if_pos hb1])] 
      exact at_round (k + 1) (by omega) (by omega) (allIn ⟨rfl, rfl, rfl, rfl, rfl, trivial⟩) (List.Sublist.refl _)
    ·
      have hb1 := of_decide_eq_false hb
      refine at_skip ?_
      refine at_inBlock_normal ?_
      refine at_then ?_
      refine at_region ?_
      refine at_d rfl rfl (opr_move rfl rfl) ?_
      refine at_d rfl rfl (opr_subIZ (c := 447 - ((k + 1 : Nat) : Int)) rfl rfl rfl (by omega) (by omega) (by omega)) ?_
      refine at_d rfl rfl (opr_assign rfl rfl) ?_
      refine at_nil ?_
      rw [show (NN [(pl3 (ts x y e k) (ts x y e k)).1, (pl3 (ts x y e k) (ts x y e k)).2.1, (pl3 (ts x y e k) (ts x y e k)).2.2]) = NN [(ts x y e (k + 1)).1, (ts x y e (k + 1)).2.1, (ts x y e (k + 1)).2.2] from (by rw [ts, if_neg hb1])] 
      exact at_round (k + 1) (by omega) (by omega) (allIn ⟨rfl, rfl, rfl, rfl, rfl, trivial⟩) (List.Sublist.refl _)
  ·
    have hk0 := of_decide_eq_false ht
    obtain rfl : k = 448 := by omega
    refine at_exit ?_
    refine at_then_exit ?_
    refine at_then_exit ?_
    refine at_inBlock_same ?_
    refine at_then ?_
    refine at_seq ?_
    refine at_region ?_
    refine at_d rfl rfl (opr_load (i := 0) rfl rfl rfl Tryz.underlying33 rfl size33 (NN_length _) (NN_all rfl)) ?_
    refine at_d rfl rfl (opr_store (i := 1) rfl rfl rfl rfl rfl size33 (NN_length _) (by rw [NN_length]; exact Nat.le_of_ble_eq_true rfl) (NN_flat _) (NN_over rfl)) ?_
    refine at_nil ?_
    refine at_then ?_
    refine at_ret ?_
    refine done_of (res1 Tryz.results8 (res_cell (i := 1) rfl rfl Tryz.underlying33 rfl size33 (NN_length _) (NN_all rfl))) ⟨rfl, rfl⟩ (by repeat (first | exact List.Sublist.refl _ | apply List.Sublist.cons))
theorem within_ct {M : Mem} {il gl Tl c x y : Nat} (hL : M[il]? = some ⟨gl, Tl, EE [x, y]⟩) (hx : x < RR) (hy : y < RR) : Ct Tryz.prog 4 #[.slice (some ⟨gl, 0, none⟩) 1 c] M (fun v M' => ∃ b, v = .bool b ∧ (b = true → Wi x y) ∧ M' = M) := by
  refine ct_of (vs := [.slice (some ⟨gl, 0, none⟩) 1 c]) Tryz.func4 rfl Tryz.ntmps4 rfl fun w0 => ?_
  refine at_seq ?_
  refine at_region ?_
  refine at_d rfl rfl (opr_assign rfl rfl) ?_
  refine at_nil ?_
  refine at_then ?_
  refine at_seq ?_
  refine at_seq ?_
  refine at_region ?_
  refine at_d rfl rfl (opr_move rfl rfl) ?_
  refine at_d rfl rfl (opr_lenS (n := 1) rfl rfl Tryz.underlying38) ?_
  refine at_d rfl rfl (opr_move rfl rfl) ?_
  refine at_nil ?_
  refine at_then ?_
  refine at_block ?_
  refine at_loop (fun (i : Nat) => [(5, .slice (some ⟨gl, 0, none⟩) 1 c), (6, .int .i64 1), (7, .int .i64 (i : Int))]) (fun (i : Nat) => M) (fun (i : Nat) => 1 - i) (fun (i : Nat) => i ≤ 1 ∧ (i = 1 → Wi x y)) 0 ⟨by decide, fun h => absurd h (by decide)⟩ (allIn ⟨rfl, rfl, rfl, trivial⟩) (List.Sublist.refl _) ?_
  rintro k ⟨hk, hW⟩
  dsimp only
  refine at_seq ?_
  refine at_region ?_
  refine at_d rfl rfl (opr_lss (a := k) (b := 1) rfl rfl rfl) ?_
  refine at_nil ?_
  refine at_then ?_
  refine at_seq ?_
  refine at_cond rfl (fun ht => ?_) (fun ht => ?_)
  ·
    obtain rfl : k = 0 := by have := of_decide_eq_true ht; omega
    refine at_skip ?_
    refine at_then ?_
    refine at_seq ?_
    refine at_block ?_
    refine at_seq ?_
    refine at_region ?_
    refine at_d rfl rfl (opr_indexAddrS (j := 0) (off' := 0) rfl rfl rfl Tryz.underlying38 (by decide) size24 rfl) ?_
    refine at_d rfl rfl (opr_load (i := il) rfl rfl hL Tryz.underlying24 rfl size24 (EE_length _) (EE_all rfl)) ?_
    refine at_n rfl rfl (opr_alloc rfl zero24 rfl) ?_
    intro g0
    refine at_d rfl rfl (opr_store (i := 0) rfl rfl rfl rfl rfl size24 (EE_length _) (by rw [EE_length]; exact Nat.le_of_ble_eq_true rfl) (EE_flat _) (EE_over rfl)) ?_
    refine at_nil ?_
    refine at_then ?_
    refine at_seq ?_
    cases hA : onAll [x, y] 1 with
    | false =>
      refine at_region ?_
      refine at_d rfl rfl (opr_load (i := 0) rfl rfl rfl Tryz.underlying24 rfl size24 (EE_length _) (EE_all rfl)) ?_
      refine at_c rfl rfl (opr_buildSlice (s := 112) (zs := List.replicate 112 (.int .u8 0)) (cs := EE [0, 0]) (ds := EE [x, y]) rfl rfl Tryz.underlying38 (by kernel_rfl) (by decide) (by decide) (by kernel_rfl) (fill_pairs [(0, x, y)] _ rfl)) ?_
      rintro _ _ ⟨gS1, rfl, rfl⟩
      refine at_d rfl rfl (opr_eq' (opr_call rfl rfl rfl Tryz.func10 (by kernel_rfl) rfl (on_ct (il := 0) (l := [x, y]) rfl rfl (by intro x hx; simp only [List.mem_cons, List.not_mem_nil, or_false] at hx; rcases hx with rfl | rfl <;> assumption) (by decide))) (congrArg Value.bool hA)) ?_
      refine at_d rfl rfl (opr_unOp (u := .bool true) rfl rfl (fun _ => rfl)) ?_
      refine at_d rfl rfl (opr_move rfl rfl) ?_
      refine at_op_skip rfl rfl ?_
      refine at_op_skip rfl rfl ?_
      refine at_op_skip rfl rfl ?_
      refine at_op_skip rfl rfl ?_
      refine at_op_skip rfl rfl ?_
      refine at_op_skip rfl rfl ?_
      refine at_op_skip rfl rfl ?_
      refine at_op_skip rfl rfl ?_
      refine at_d rfl rfl (opr_pickT rfl rfl rfl) ?_
      refine at_nil ?_
      refine at_then ?_
      refine at_cond_true rfl ?_
      refine at_seq ?_
      refine at_region ?_
      refine at_d rfl rfl (opr_assign rfl rfl) ?_
      refine at_nil ?_
      refine at_then ?_
      refine at_ret ?_
      refine at_inBlock_ret ?_
      refine at_then_ret ?_
      refine at_then_ret ?_
      refine at_inBlock_ret ?_
      refine at_then_ret ?_
      exact done_of (res1 Tryz.results4 (res_tmp rfl)) ⟨false, rfl, fun h => absurd h (by decide), rfl⟩ (by repeat (first | exact List.Sublist.refl _ | apply List.Sublist.cons_cons | apply List.Sublist.cons))
    | true =>
      have hOn : OnG ((el x, el y) : Pt) := onAll_one (by rw [hA]; rfl)
      refine at_region ?_
      refine at_d rfl rfl (opr_load (i := 0) rfl rfl rfl Tryz.underlying24 rfl size24 (EE_length _) (EE_all rfl)) ?_
      refine at_c rfl rfl (opr_buildSlice (s := 112) (zs := List.replicate 112 (.int .u8 0)) (cs := EE [0, 0]) (ds := EE [x, y]) rfl rfl Tryz.underlying38 (by kernel_rfl) (by decide) (by decide) (by kernel_rfl) (fill_pairs [(0, x, y)] _ rfl)) ?_
      rintro _ _ ⟨gS2, rfl, rfl⟩
      refine at_d rfl rfl (opr_eq' (opr_call rfl rfl rfl Tryz.func10 (by kernel_rfl) rfl (on_ct (il := 0) (l := [x, y]) rfl rfl (by intro x hx; simp only [List.mem_cons, List.not_mem_nil, or_false] at hx; rcases hx with rfl | rfl <;> assumption) (by decide))) (congrArg Value.bool hA)) ?_
      refine at_d rfl rfl (opr_unOp (u := .bool false) rfl rfl (fun _ => rfl)) ?_
      refine at_d rfl rfl (opr_move rfl rfl) ?_
      refine at_d rfl rfl (opr_load (i := 1) rfl rfl rfl Tryz.underlying24 rfl size24 (EE_length _) (EE_all rfl)) ?_
      refine at_d rfl rfl (opr_call rfl rfl rfl Tryz.func7 (by kernel_rfl) rfl (at_ct)) ?_
      refine at_d rfl rfl (opr_call rfl rfl rfl Tryz.func11 (by kernel_rfl) rfl (sOrder_ct)) ?_
      refine at_d rfl rfl (opr_call rfl rfl rfl Tryz.func8 (by kernel_rfl) rfl (sTimes_ct hx hy qq_RR)) ?_
      refine at_d rfl rfl (opr_buildE (ds := E 0) rfl rfl builtz22 rfl) ?_
      refine at_d rfl rfl (opr_buildE rfl rfl (builts22 1) (E_small (by decide))) ?_
      refine at_d rfl rfl (opr_call rfl rfl rfl Tryz.func12 (by kernel_rfl) rfl (sIs_ct (ts_lt _ _ _ _).1 (ts_lt _ _ _ _).2.1 (ts_lt _ _ _ _).2.2 RR_zero RR_one)) ?_
      refine at_d rfl rfl (opr_unOp (u := .bool (!(isB (ts x y qq 448).1 (ts x y qq 448).2.1 (ts x y qq 448).2.2 0 1))) rfl rfl (fun _ => rfl)) ?_
      refine at_d rfl rfl (opr_pickN rfl rfl rfl) ?_
      refine at_nil ?_
      refine at_then ?_
      refine at_cond rfl (fun hn => ?_) (fun hn => ?_)
      ·
        refine at_seq ?_
        refine at_region ?_
        refine at_d rfl rfl (opr_assign rfl rfl) ?_
        refine at_nil ?_
        refine at_then ?_
        refine at_ret ?_
        refine at_inBlock_ret ?_
        refine at_then_ret ?_
        refine at_then_ret ?_
        refine at_inBlock_ret ?_
        refine at_then_ret ?_
        exact done_of (res1 Tryz.results4 (res_tmp rfl)) ⟨false, rfl, fun h => absurd h (by decide), rfl⟩ (by repeat (first | exact List.Sublist.refl _ | apply List.Sublist.cons_cons | apply List.Sublist.cons))
      ·
        have hI : isB (ts x y qq 448).1 (ts x y qq 448).2.1 (ts x y qq 448).2.2 0 1 = true := by simpa using hn
        refine at_skip ?_
        refine at_inBlock_normal ?_
        refine at_then ?_
        refine at_region ?_
        refine at_d rfl rfl (opr_addI (a := 0) (b := 1) rfl rfl rfl (by decide)) ?_
        refine at_d rfl rfl (opr_move rfl rfl) ?_
        refine at_nil ?_
        exact at_round 1 ⟨by decide, fun _ => ⟨hOn, is_zero (ts_end hOn qq_RR) hI⟩⟩ (by decide) (allIn ⟨rfl, rfl, rfl, trivial⟩) (by repeat (first | exact List.Sublist.refl _ | apply List.Sublist.cons_cons | apply List.Sublist.cons))
  ·
    have hW1 := hW (by have := of_decide_eq_false ht; omega)
    refine at_exit ?_
    refine at_then_exit ?_
    refine at_then_exit ?_
    refine at_inBlock_same ?_
    refine at_then ?_
    refine at_seq ?_
    refine at_region ?_
    refine at_d rfl rfl (opr_assign rfl rfl) ?_
    refine at_nil ?_
    refine at_then ?_
    refine at_ret ?_
    exact done_of (res1 Tryz.results4 (res_tmp rfl)) ⟨true, rfl, fun _ => hW1, rfl⟩ (by repeat (first | exact List.Sublist.refl _ | apply List.Sublist.cons_cons | apply List.Sublist.cons))
theorem fnTimesIs_ct {M : Mem} {ig Tp jt Tt jo To jr Tr ji Ti jd Td : Nat} (hI : M[ji]? = some ⟨0, Ti, EE [i4n]⟩) (hO : M[jo]? = some ⟨1, To, EE [qq]⟩) (hD : M[jd]? = some ⟨2, Td, EE [dP]⟩) (hT : M[jt]? = some ⟨6, Tt, EE [dT]⟩) (hR : M[jr]? = some ⟨5, Tr, W (digs 18446744073709551616 4 r448)⟩) (hG : M[ig]? = some ⟨3, Tp, EE [pp]⟩) (hjr : jo ≠ jr) {K x y : Nat} (hK : K < RR) (hx : x < RR) (hy : y < RR) : Ct Tryz.prog 3 #[.agg (E K).toArray, .agg (EE [x, y]).toArray] M (Det (.bool true) M) := by
  refine ct_of (vs := [.agg (E K).toArray, .agg (EE [x, y]).toArray]) Tryz.func3 rfl Tryz.ntmps3 rfl fun w0 => ?_
  refine at_seq ?_
  refine at_region ?_
  refine at_n rfl rfl (opr_box (cs := EE [K]) rfl rfl (E_box _)) ?_
  intro g0
  refine at_n rfl rfl (opr_box rfl rfl rfl) ?_
  intro g1
  refine at_d rfl rfl (opr_assign rfl rfl) ?_
  refine at_nil ?_
  refine at_then ?_
  refine at_seq ?_
  refine at_seq ?_
  refine at_region ?_
  refine at_d rfl rfl (opr_load (i := 0) rfl rfl rfl Tryz.underlying24 rfl size24 (EE_length _) (EE_all rfl)) ?_
  refine at_c rfl rfl (opr_buildSlice (s := 112) (zs := List.replicate 112 (.int .u8 0)) (cs := EE [0, 0]) (ds := EE [x, y]) rfl rfl Tryz.underlying38 (by kernel_rfl) (by decide) (by decide) (by kernel_rfl) (fill_pairs [(0, x, y)] _ rfl)) ?_
  rintro _ _ ⟨gS1, rfl, rfl⟩
  refine at_c rfl rfl (opr_call rfl rfl rfl Tryz.func4 (by kernel_rfl) rfl (within_ct (il := 0) rfl hx hy)) ?_
  rintro _ _ ⟨b, rfl, hW, rfl⟩
  refine at_d rfl rfl (opr_unOp (u := .bool (!(b))) rfl rfl (fun _ => rfl)) ?_
  refine at_nil ?_
  refine at_then ?_
  refine at_cond rfl (fun ht => ?_) (fun ht => ?_)
  ·
    refine at_seq ?_
    refine at_region ?_
    refine at_d rfl rfl (opr_assign rfl rfl) ?_
    refine at_nil ?_
    refine at_then ?_
    refine at_ret ?_
    refine at_then_ret ?_
    refine done_of (res1 Tryz.results3 (res_tmp rfl)) ⟨rfl, rfl⟩ (by repeat (first | exact List.Sublist.refl _ | apply List.Sublist.cons))
  ·
    obtain ⟨hp, hq⟩ := hW (by simpa using ht)
    refine at_skip ?_
    refine at_then ?_
    refine at_seq ?_
    refine at_region ?_
    refine at_d rfl rfl (opr_load (i := 2) rfl rfl rfl Tryz.underlying22 rfl size22 (E_length _) (EE_at (k := 0) rfl rfl rfl)) ?_
    refine at_d rfl rfl (opr_load (i := 1) rfl rfl rfl Tryz.underlying24 rfl size24 (EE_length _) (EE_all rfl)) ?_
    refine at_c rfl rfl (opr_call rfl rfl rfl Tryz.func5 (by kernel_rfl) rfl (iTimes_ct (ig := ig + 3) (jt := jt + 3) (jo := jo + 3) (jr := jr + 3) (ji := ji + 3) (jd := jd + 3) hG hT hO hR (by omega) hI hD hK hx hy hp hq)) ?_
    rintro _ _ ⟨xa, ya, hxa, hya, exa, eya, rfl, rfl⟩
    refine at_d rfl rfl (opr_move rfl rfl) ?_
    refine at_d rfl rfl (opr_extract rfl rfl rfl) ?_
    refine at_d rfl rfl (opr_extract rfl rfl rfl) ?_
    refine at_n rfl rfl (opr_alloc rfl zero24 rfl) ?_
    intro g2
    refine at_d rfl rfl (opr_store (i := 0) rfl rfl rfl rfl rfl size24 (EE_length _) (by rw [EE_length]; exact Nat.le_of_ble_eq_true rfl) (EE_flat _) (EE_over rfl)) ?_
    refine at_d rfl rfl (opr_assign rfl rfl) ?_
    refine at_nil ?_
    refine at_then ?_
    refine at_seq ?_
    refine at_drawQ (by kernel_rfl) (by kernel_rfl) (List.cons_ne_nil _ _) ?_
    refine dr_op rfl rfl (opr_load (i := 0) rfl rfl rfl Tryz.underlying24 rfl size24 (EE_length _) (EE_all rfl)) ?_
    refine dr_op rfl rfl (opr_move rfl rfl) ?_
    refine dr_op rfl rfl (opr_load (i := 2) rfl rfl rfl Tryz.underlying24 rfl size24 (EE_length _) (EE_all rfl)) ?_
    refine dr_op rfl rfl (opr_call rfl rfl rfl Tryz.func7 (by kernel_rfl) rfl (at_ct)) ?_
    refine dr_op rfl rfl (opr_load (i := 3) rfl rfl rfl Tryz.underlying22 rfl size22 (E_length _) (EE_at (k := 0) rfl rfl rfl)) ?_
    refine dr_op rfl rfl (opr_call rfl rfl rfl Tryz.func9 (by kernel_rfl) rfl (of_ct K)) ?_
    refine dr_op rfl rfl (opr_call rfl rfl rfl Tryz.func8 (by kernel_rfl) rfl (sTimes_ct hx hy hK)) ?_
    refine dr_op rfl rfl (opr_call rfl rfl rfl Tryz.func6 (by kernel_rfl) rfl (told_ct (ts_lt _ _ _ _).1 (ts_lt _ _ _ _).2.1 (ts_lt _ _ _ _).2.2 hxa hya (by rw [exa, eya]; exact ts_end hp hK))) ?_
    refine dr_last rfl rfl (opr_assign rfl rfl) ?_
    refine ⟨rfl, ?_⟩
    refine at_then ?_
    refine at_ret ?_
    refine done_of (res1 Tryz.results3 (res_tmp rfl)) ⟨rfl, rfl⟩ (by repeat (first | exact List.Sublist.refl _ | apply List.Sublist.cons))
end Go.Proofs.YtjlhhcdefcofkaaGreatDoor
