/- Numbers of any bytes made scalars. -/
import Derived.Test.YtflbkfjemmmipaaDoorScalC
import Derived.Test.YtflbkfjemmmipaaDoorSlice
import Derived.Test.YtflbkfjemmmipaaDoorRo
import Derived.Test.YtflbkfjemmmipaaDoorRefR
namespace Go.Proofs.YtflbkfjemmmipaaDoor
open Go
set_option maxRecDepth 100000

theorem byteW {n j : Nat} {bs : List Nat} (hn : bs.length = n) (hj : j < n) : (bs.map u8V)[j]? = some (.int .u8 ((bs.getD j 0 : Nat) : Int)) := by
  rw [List.getElem?_map, List.getElem?_eq_getElem (by omega), List.getD_eq_getElem?_getD, List.getElem?_eq_getElem (by omega)]
  rfl
theorem digs_zero (b : Nat) : ∀ n, digs b n 0 = List.replicate n 0
  | 0 => rfl
  | n + 1 => by rw [digs, Nat.zero_mod, Nat.zero_div, digs_zero b n]; rfl
theorem digs_pad {b n : Nat} (l : List Nat) (h : ∀ d ∈ l, d < b) (hn : l.length ≤ n) : digs b n (dval b l) = l ++ List.replicate (n - l.length) 0 := by
  obtain ⟨m, rfl⟩ := Nat.exists_eq_add_of_le hn
  rw [digs_add, digs_dval l h, Nat.div_eq_of_lt (dval_lt l h), digs_zero, Nat.add_sub_cancel_left]
theorem E_pad {bs : List Nat} (hb : ∀ d ∈ bs, d < 256) (hl : bs.length ≤ 56) : splice (EE [0]) 0 (bs.map u8V) = EE [dval 256 bs] := by
  rw [EE_one, EE_one, E, E, digs_zero, digs_pad bs hb hl, splice, List.take_zero, List.nil_append, List.map_append, List.map_replicate, List.map_replicate, List.drop_replicate, Nat.zero_add, List.length_map]
theorem E0_put {k : Nat} (hk : k < 56) : splice (EE [0]) k [.int .u8 0] = EE [0] := by
  rw [EE_one, E, digs_zero, List.map_replicate, splice, List.take_replicate, List.drop_replicate, show ([Value.int .u8 0] : List Value) = List.replicate 1 (u8V 0) from rfl, List.replicate_append_replicate, List.replicate_append_replicate, List.length_replicate, Nat.min_eq_left (Nat.le_of_lt hk)]
  congr 1
  omega
theorem i64_eq {a b : Nat} (h : a = b) : Value.int .i64 (a : Int) = Value.int .i64 (b : Int) := congrArg (fun n : Nat => Value.int .i64 (n : Int)) h
theorem opr_shrI {P : Program} {St : Slots} {M : Mem} {o : Oper} {x y : Operand} {T T' : Nat} {k' : IntKind} {a n : Nat} (ho : o.op = .binOp .shr T x y T') (hx : evalS St x = some (.int .i64 (a : Int))) (hy : evalS St y = some (.int k' (n : Int))) (hn : n ≤ 64) : OpR P St M o (Det (.int .i64 ((a / 2 ^ n : Nat) : Int)) M) := by
  have h := opr_binOp (P := P) (M := M) ho hx hy (fun w => run_shr .i64 k' a n P T w)
  have e0 : min n (IntKind.i64.bits) = n := Nat.min_eq_left hn
  rw [e0, fdiv_nat] at h; exact h
theorem opr_copy0 {P : Program} {St : Slots} {M : Mem} {o : Oper} {dT sT e : TypeId} {x y : Operand} {a a' : Option Addr} {dl dc sc : Nat} (ho : o.op = .call { callee := .builtin .copy, args := #[x, y], argTypes := #[dT, sT] })
    (hx : evalS St x = some (.slice a dl dc)) (hy : evalS St y = some (.slice a' 0 sc)) (hu : P.underlying dT = some (.slice e)) (hs : (P.info? e).map (·.size) = some 1) : OpR P St M o (Det (goInt 0) M) :=
  opr_value fun ρ w0 S w hρ hw => by
    obtain ⟨i, hi, hs'⟩ := Option.map_eq_some_iff.1 hs
    have hf : (Builtin.firstCells 1 0 (.slice a' 0 sc)).run P w = .ok #[] w := by
      cases a' with
      | none => simp [Builtin.firstCells]
      | some ad => exact run_firstCells_some (P := P) w 1 0 ad 0 sc [] rfl (fun j v h => by simp at h)
    have hst : ∀ ad : Addr, (storeCells ad []).run P w = .ok () w := fun ad => by simp [storeCells]
    have hr : (Builtin.copy_ #[dT, sT] o.type #[.slice a dl dc, .slice a' 0 sc]).run P w = .ok (goInt 0) w := by
      cases a with
      | none => simp [Builtin.copy_, run_underlying hu, sizeOf, typeInfo, hi, hs', Builtin.lenOf, hf]
      | some ad => simp [Builtin.copy_, run_underlying hu, sizeOf, typeInfo, hi, hs', Builtin.lenOf, hf, hst]
    simp only [execOp, ho, resolve, List.map_toArray, List.map_cons, List.map_nil, hρ _ _ hx, hρ _ _ hy, Sem.run_bind, Sem.run_pure, Result.andThen_ok, invoke, builtin, hr]
theorem run_sliceNil {P : Program} {w : World} {t e : TypeId} {a : Option Addr} {l c : Nat} (h : P.underlying t = some (.slice e)) : (binOp .eql t (.slice a l c) (.slice none 0 0)).run P w = .ok (.bool a.isNone) w := by
  have h0 : ∀ d, (Op.equalIn (d + 1) t (.slice a l c) (.slice none 0 0)).run P w = .ok a.isNone w := fun d => by cases a <;> simp [Op.equalIn, run_underlying h]
  have h1 : (Op.equal t (.slice a l c) (.slice none 0 0)).run P w = .ok a.isNone w := h0 9999
  simp only [binOp]
  simp [h1]
theorem opr_sliceNil {P : Program} {St : Slots} {M : Mem} {o : Oper} {T T' e : Nat} {x : Operand} {a : Option Addr} {n c : Nat} {t : Bool} (ho : o.op = .binOp .eql T x (.const (.slice none 0 0)) T') (hx : evalS St x = some (.slice a n c)) (hu : P.underlying T = some (.slice e)) (ht : a.isNone = t) : OpR P St M o (Det (.bool t) M) :=
  opr_value fun ρ w0 S w hρ hw => by
    have hy : ρ (.const (.slice none 0 0)) = .slice none 0 0 := hρ _ _ rfl
    have hg : (eqGuard .eql T x (.const (.slice none 0 0)) (.slice a n c) (.slice none 0 0)).run P w = .ok () w := rfl
    have hb : (binOp .eql T (.slice a n c) (.slice none 0 0)).run P w = .ok (.bool t) w := ht ▸ run_sliceNil hu
    simp only [execOp, ho, hρ _ _ hx, hy, Sem.run_bind, hg, hb, Result.andThen_ok, Sem.run_pure]
theorem opr_append0 {P : Program} {St : Slots} {M : Mem} {o : Oper} {t e g cap c : Nat} {x y : Operand} {a : Option Addr} (ho : o.op = .call { callee := .builtin .append, args := #[x, y], argTypes := #[t, t] })
    (hx : evalS St x = some (.slice (some ⟨g, 0, none⟩) 0 cap)) (hy : evalS St y = some (.slice a 0 c)) (hu : P.underlying t = some (.slice e)) (hs : (P.info? e).map (·.size) = some 1) :
    OpR P St M o (Det (.slice (some ⟨g, 0, none⟩) 0 cap) M) :=
  opr_value fun ρ w0 S w hρ hw => by
    obtain ⟨ii, hi, hs'⟩ := Option.map_eq_some_iff.1 hs
    have hf : (Builtin.firstCells 1 0 (.slice a 0 c)).run P w = .ok #[] w := by
      cases a with
      | none => simp [Builtin.firstCells]
      | some ad => exact run_firstCells_some (P := P) w 1 0 ad 0 c [] rfl (fun j v h => by simp at h)
    have hst : ∀ ad : Addr, (storeCells ad []).run P w = .ok () w := fun ad => by simp [storeCells]
    have hr : (Builtin.append_ #[t, t] o.type #[.slice (some ⟨g, 0, none⟩) 0 cap, .slice a 0 c]).run P w = .ok (.slice (some ⟨g, 0, none⟩) 0 cap) w := by
      simp [Builtin.append_, run_underlying hu, sizeOf, typeInfo, hi, hs', Builtin.lenOf, hf, hst]
    simp only [execOp, ho, resolve, List.map_toArray, List.map_cons, List.map_nil, hρ _ _ hx, hρ _ _ hy, Sem.run_bind, Sem.run_pure, Result.andThen_ok, invoke, builtin, hr]
theorem bytes_from {cs : List Value} {bs : List Nat} {n j : Nat} (h : cs.take n = bs.map u8V) : (cs.drop j).take (n - j) = (bs.drop j).map u8V := by
  rw [← List.drop_take, h, List.map_drop]
theorem bytes8 {cs : List Value} {bs : List Nat} {n j : Nat} (h : cs.take n = bs.map u8V) (hl : bs.length = n) (hb : ∀ d ∈ bs, d < 256) (hj : j + 8 ≤ n) : (cs.drop j).take 8 = B8 (dval 256 (bs.drop j)) := by
  have h1 := bytes_from (j := j) h
  have h2 : (cs.drop j).take 8 = ((cs.drop j).take (n - j)).take 8 := by rw [List.take_take, Nat.min_eq_left (by omega)]
  have hb' : ∀ d ∈ bs.drop j, d < 256 := fun d hd => hb d (List.mem_of_mem_drop hd)
  have h3 := digs_dval (bs.drop j) hb'
  rw [h2, h1, B8, ← digs_take 256 (j := 8) (k := (bs.drop j).length) (by rw [List.length_drop]; omega), h3, List.map_take]
theorem dval_drop8 {l : List Nat} {j : Nat} (hb : ∀ d ∈ l, d < 256) (hj : j + 8 ≤ l.length) : dval 256 (l.drop j) / 18446744073709551616 = dval 256 (l.drop (j + 8)) := by
  have e : l.drop j = (l.drop j).take 8 ++ l.drop (j + 8) := by rw [← List.drop_drop, List.take_append_drop]
  have hl : ((l.drop j).take 8).length = 8 := by simp; omega
  have hlt := dval_lt ((l.drop j).take 8) (fun d hd => hb d (List.mem_of_mem_drop (List.mem_of_mem_take hd)))
  conv => lhs; rw [e, dval_append]
  rw [hl] at hlt ⊢
  rw [show (18446744073709551616 : Nat) = 256 ^ 8 from rfl, Nat.add_mul_div_left _ _ (by decide), Nat.div_eq_of_lt hlt, Nat.zero_add]
theorem shl_word {y X : Nat} (hy : y < RR) (h : y % qq = X / 18446744073709551616 % qq) : rone ((X % 18446744073709551616 + 18446744073709551616 * y) % RR) (y / 18446744073709551616 ^ 6 % 18446744073709551616) % qq = X % qq := by
  have hm : X % 18446744073709551616 < 18446744073709551616 := Nat.mod_lt _ (by decide)
  have hR : RR = 18446744073709551616 * 18446744073709551616 ^ 6 := by rw [RR_B]
  have e1 : (X % 18446744073709551616 + 18446744073709551616 * y) / RR = y / 18446744073709551616 ^ 6 := by
    rw [hR, ← Nat.div_div_eq_div_mul, Nat.add_mul_div_left _ _ (by decide), Nat.div_eq_of_lt hm, Nat.zero_add]
  have e2 : y / 18446744073709551616 ^ 6 % 18446744073709551616 = y / 18446744073709551616 ^ 6 := by
    refine Nat.mod_eq_of_lt ?_
    rw [Nat.div_lt_iff_lt_mul (powB_pos 6)]
    rw [hR] at hy; exact hy
  rw [rone_mod, e2, ← e1, Nat.mod_add_div, Nat.add_mod, Nat.mul_mod, h, ← Nat.mul_mod, ← Nat.add_mod, Nat.mod_add_div]
theorem dval_short {bs : List Nat} (hb : ∀ d ∈ bs, d < 256) (hl : bs.length ≤ 48) : dval 256 bs % qq = dval 256 bs :=
  Nat.mod_eq_of_lt (Nat.lt_of_lt_of_le (dval_lt bs hb) (Nat.le_trans (Nat.pow_le_pow_right (by decide) hl) (by decide +kernel)))
theorem dval_top {bs : List Nat} (hb : ∀ d ∈ bs, d < 256) (hl : bs.length ≤ 56) : dval 256 bs < RR :=
  Nat.lt_of_lt_of_le (dval_lt bs hb) (Nat.le_trans (Nat.pow_le_pow_right (by decide) hl) (by decide +kernel))
theorem flat_bytes (bs : List Nat) : ∀ v ∈ bs.map u8V, flat v = true := by
  intro v hv
  obtain ⟨d, _, rfl⟩ := List.mem_map.1 hv
  rfl
theorem clone_ct {M : Mem} {il gl Tl off n c : Nat} {cs : List Value} {bs : List Nat} (hl : M[il]? = some ⟨gl, Tl, cs⟩) (hcs : (cs.drop off).take n = bs.map u8V) (hbn : bs.length = n) (hn : n ≤ 200) : Ct Tryd.prog 36 #[.slice (some ⟨gl, off, none⟩) n c] M (fun v M' => ∃ s : Sl, v = .slice (some ⟨s.g, 0, none⟩) n s.cap ∧ s.cs.length = s.cap ∧ n ≤ s.cap ∧ s.cs.take n = bs.map u8V ∧ M' = ⟨s.g, 5, s.cs⟩ :: M) := by
  refine ct_of (vs := [.slice (some ⟨gl, off, none⟩) n c]) Tryd.func36 rfl Tryd.ntmps36 rfl fun w0 => ?_
  refine at_seq ?_
  refine at_region ?_
  refine at_d rfl rfl (opr_assign rfl rfl) ?_
  refine at_nil ?_
  refine at_then ?_
  refine at_seq ?_
  refine at_seq ?_
  refine at_region ?_
  refine at_d rfl rfl (opr_move rfl rfl) ?_
  refine at_d rfl rfl (opr_sliceNil rfl rfl Tryd.underlying27 rfl) ?_
  refine at_nil ?_
  refine at_then ?_
  refine at_cond_false rfl ?_
  refine at_skip ?_
  refine at_then ?_
  refine at_seq ?_
  refine at_region ?_
  refine at_c rfl rfl (opr_buildSlice0 rfl Tryd.underlying27 size5) ?_
  rintro _ _ ⟨g0, rfl, rfl⟩
  refine at_d rfl rfl (opr_move rfl rfl) ?_
  refine at_c rfl rfl (opr_append (e := 5) (i := 0) (j := il + 1) (cs := []) (news := bs.map u8V) (z := .int .u8 0) rfl rfl rfl rfl rfl (Nat.le_refl _) (by rw [List.getElem?_cons_succ]; exact hl) (by rw [List.length_map]; exact hbn) hcs (flat_bytes bs) Tryd.underlying27 (by kernel_rfl) (by decide) (by kernel_rfl) (by omega)) ?_
  rintro _ _ ⟨s, rfl, hs1, hs2, hs3, rfl⟩
  rw [List.take_zero, List.nil_append] at hs3
  rw [Nat.zero_add] at hs2 hs3 ⊢
  refine at_d rfl rfl (opr_assign rfl rfl) ?_
  refine at_nil ?_
  refine at_then ?_
  refine at_ret ?_
  refine done_of (res1 Tryd.results36 (res_tmp rfl)) ⟨s, rfl, hs1, hs2, hs3, rfl⟩ (by repeat (first | exact List.Sublist.refl _ | apply List.Sublist.cons))
theorem cloneW_ct {M : Mem} {gl off n c : Nat} {bs : List Nat} (hbn : bs.length = n) (hn : n ≤ 200) : CtW Tryd.prog 36 #[.slice (some ⟨gl, off, none⟩) n c] gl off (bs.map u8V) M (fun v M' => ∃ s : Sl, v = .slice (some ⟨s.g, 0, none⟩) n s.cap ∧ s.cs.length = s.cap ∧ n ≤ s.cap ∧ s.cs.take n = bs.map u8V ∧ M' = ⟨s.g, 5, s.cs⟩ :: M) := by
  refine ct_ofW (vs := [.slice (some ⟨gl, off, none⟩) n c]) Tryd.func36 rfl Tryd.ntmps36 rfl fun w0 hro => ?_
  refine at_seq ?_
  refine at_region ?_
  refine at_d rfl rfl (opr_assign rfl rfl) ?_
  refine at_nil ?_
  refine at_then ?_
  refine at_seq ?_
  refine at_seq ?_
  refine at_region ?_
  refine at_d rfl rfl (opr_move rfl rfl) ?_
  refine at_d rfl rfl (opr_sliceNil rfl rfl Tryd.underlying27 rfl) ?_
  refine at_nil ?_
  refine at_then ?_
  refine at_cond_false rfl ?_
  refine at_skip ?_
  refine at_then ?_
  refine at_seq ?_
  refine at_region ?_
  refine at_c rfl rfl (opr_buildSlice0 rfl Tryd.underlying27 size5) ?_
  rintro _ _ ⟨g0, rfl, rfl⟩
  refine at_d rfl rfl (opr_move rfl rfl) ?_
  refine at_cW hro rfl rfl (opr_appendW (e := 5) (i := 0) (cs := []) (z := .int .u8 0) rfl rfl rfl rfl rfl (Nat.le_refl _) (by rw [List.length_map]; exact hbn) (flat_bytes bs) Tryd.underlying27 (by kernel_rfl) (by decide) (by kernel_rfl) (by omega)) ?_
  rintro _ _ ⟨s, rfl, hs1, hs2, hs3, rfl⟩
  rw [List.take_zero, List.nil_append] at hs3
  rw [Nat.zero_add] at hs2 hs3 ⊢
  refine at_d rfl rfl (opr_assign rfl rfl) ?_
  refine at_nil ?_
  refine at_then ?_
  refine at_ret ?_
  refine done_of (res1 Tryd.results36 (res_tmp rfl)) ⟨s, rfl, hs1, hs2, hs3, rfl⟩ (by repeat (first | exact List.Sublist.refl _ | apply List.Sublist.cons))
theorem cloneE_ct {M : Mem} {ad : Addr} {c : Nat} : Ct Tryd.prog 36 #[.slice (some ad) 0 c] M (fun v M' => ∃ g, v = .slice (some ⟨g, 0, none⟩) 0 0 ∧ M' = ⟨g, 5, []⟩ :: M) := by
  refine ct_of (vs := [.slice (some ad) 0 c]) Tryd.func36 rfl Tryd.ntmps36 rfl fun w0 => ?_
  refine at_seq ?_
  refine at_region ?_
  refine at_d rfl rfl (opr_assign rfl rfl) ?_
  refine at_nil ?_
  refine at_then ?_
  refine at_seq ?_
  refine at_seq ?_
  refine at_region ?_
  refine at_d rfl rfl (opr_move rfl rfl) ?_
  refine at_d rfl rfl (opr_sliceNil rfl rfl Tryd.underlying27 rfl) ?_
  refine at_nil ?_
  refine at_then ?_
  refine at_cond_false rfl ?_
  refine at_skip ?_
  refine at_then ?_
  refine at_seq ?_
  refine at_region ?_
  refine at_c rfl rfl (opr_buildSlice0 rfl Tryd.underlying27 size5) ?_
  rintro _ _ ⟨g0, rfl, rfl⟩
  refine at_d rfl rfl (opr_move rfl rfl) ?_
  refine at_d rfl rfl (opr_append0 rfl rfl rfl Tryd.underlying27 size5) ?_
  refine at_d rfl rfl (opr_assign rfl rfl) ?_
  refine at_nil ?_
  refine at_then ?_
  refine at_ret ?_
  refine done_of (res1 Tryd.results36 (res_tmp rfl)) ⟨g0, rfl, rfl⟩ (by repeat (first | exact List.Sublist.refl _ | apply List.Sublist.cons))
theorem cloneN_ct {M : Mem} : Ct Tryd.prog 36 #[.slice none 0 0] M (Det (.slice none 0 0) M) := by
  refine ct_of (vs := [.slice none 0 0]) Tryd.func36 rfl Tryd.ntmps36 rfl fun w0 => ?_
  refine at_seq ?_
  refine at_region ?_
  refine at_d rfl rfl (opr_assign rfl rfl) ?_
  refine at_nil ?_
  refine at_then ?_
  refine at_seq ?_
  refine at_seq ?_
  refine at_region ?_
  refine at_d rfl rfl (opr_move rfl rfl) ?_
  refine at_d rfl rfl (opr_sliceNil rfl rfl Tryd.underlying27 rfl) ?_
  refine at_nil ?_
  refine at_then ?_
  refine at_cond_true rfl ?_
  refine at_seq ?_
  refine at_region ?_
  refine at_d rfl rfl (opr_assign rfl rfl) ?_
  refine at_nil ?_
  refine at_then ?_
  refine at_ret ?_
  refine at_then_ret ?_
  refine done_of (res1 Tryd.results36 (res_tmp rfl)) ⟨rfl, rfl⟩ (by repeat (first | exact List.Sublist.refl _ | apply List.Sublist.cons))
theorem from0_ct {M : Mem} {gz Tz c : Nat} {a : Option Addr} : Ct Tryd.prog 35 #[.pointer (some ⟨gz, 0, none⟩), .slice a 0 c] (⟨gz, Tz, EE [0]⟩ :: M) (Det (.tuple #[]) (⟨gz, Tz, EE [0]⟩ :: M)) := by
  refine ct_of (vs := [.pointer (some ⟨gz, 0, none⟩), .slice a 0 c]) Tryd.func35 rfl Tryd.ntmps35 rfl fun w0 => ?_
  refine at_seq ?_
  refine at_region ?_
  refine at_d rfl rfl (opr_move rfl rfl) ?_
  refine at_d rfl rfl (opr_lenS (n := 0) rfl rfl Tryd.underlying27) ?_
  refine at_d rfl rfl (opr_assign rfl rfl) ?_
  refine at_nil ?_
  refine at_then ?_
  refine at_seq ?_
  refine at_region ?_
  refine at_d rfl rfl (opr_move rfl rfl) ?_
  refine at_d rfl rfl (opr_addI (a := 0) (b := 7) rfl rfl rfl (by omega)) ?_
  refine at_d rfl rfl (opr_eq' (opr_shrI (a := 0 + 7) (n := 3) rfl rfl rfl (by decide)) (i64_eq (b := 0) (by omega))) ?_
  refine at_d rfl rfl (opr_assign rfl rfl) ?_
  refine at_nil ?_
  refine at_then ?_
  refine at_seq ?_
  refine at_seq ?_
  refine at_region ?_
  refine at_d rfl rfl (opr_move rfl rfl) ?_
  refine at_nil ?_
  refine at_then ?_
  refine at_block ?_
  refine at_loop (fun (x : Nat) => [(0, .pointer (some ⟨gz, 0, none⟩)), (1, .slice a 0 c), (5, .int .i64 ((0 : Nat) : Int)), (16, .int .i64 (x : Int))]) (fun (x : Nat) => ⟨gz, Tz, EE [0]⟩ :: M) (fun (x : Nat) => 56 - x) (fun (x : Nat) => x ≤ 56) 0 (Nat.zero_le _) (allIn ⟨rfl, rfl, rfl, rfl, trivial⟩) (List.Sublist.refl _) ?_
  intro k hk0
  dsimp only
  refine at_seq ?_
  refine at_region ?_
  refine at_d rfl rfl (opr_lss (a := k) (b := 56) rfl rfl rfl) ?_
  refine at_nil ?_
  refine at_then ?_
  refine at_seq ?_
  refine at_cond rfl (fun ht => ?_) (fun ht => ?_)
  ·
    have hk : k < 56 := of_decide_eq_true ht
    refine at_skip ?_
    refine at_then ?_
    refine at_seq ?_
    refine at_block ?_
    refine at_seq ?_
    refine at_region ?_
    refine at_d rfl rfl (opr_move rfl rfl) ?_
    refine at_d rfl rfl (opr_assign rfl rfl) ?_
    refine at_nil ?_
    refine at_then ?_
    refine at_region ?_
    refine at_d rfl rfl (opr_move rfl rfl) ?_
    refine at_d rfl rfl (opr_move rfl rfl) ?_
    refine at_d rfl rfl (opr_nilCheck rfl rfl) ?_
    refine at_d rfl rfl (opr_indexAddr (j := k) (off' := k) rfl rfl rfl Tryd.underlying42 hk size5 (by omega)) ?_
    refine at_d rfl rfl (opr_store (i := 0) rfl rfl rfl rfl rfl size5 rfl (by rw [EE_one, E_length]; exact hk) flat_one (E0_put hk)) ?_
    refine at_nil ?_
    refine at_inBlock_normal ?_
    refine at_then ?_
    refine at_region ?_
    refine at_d rfl rfl (opr_addI (a := k) (b := 1) rfl rfl rfl (by omega)) ?_
    refine at_d rfl rfl (opr_move rfl rfl) ?_
    refine at_nil ?_
    exact at_round (k + 1) (by omega) (by omega) (allIn ⟨rfl, rfl, rfl, rfl, trivial⟩) (List.Sublist.refl _)
  ·
    obtain rfl : k = 56 := by have := of_decide_eq_false ht; omega
    refine at_exit ?_
    refine at_then_exit ?_
    refine at_then_exit ?_
    refine at_inBlock_same ?_
    refine at_then ?_
    refine at_seq ?_
    refine at_seq ?_
    refine at_region ?_
    refine at_d rfl rfl (opr_move rfl rfl) ?_
    refine at_d rfl rfl (opr_lss (a := 0) (b := 7) rfl rfl rfl) ?_
    refine at_nil ?_
    refine at_then ?_
    refine at_cond_true rfl ?_
    refine at_seq ?_
    refine at_region ?_
    refine at_d rfl rfl (opr_move rfl rfl) ?_
    refine at_d rfl rfl (opr_nilCheck rfl rfl) ?_
    refine at_d rfl rfl (opr_sliceAll rfl rfl Tryd.underlying42 rfl size5) ?_
    refine at_d rfl rfl (opr_move rfl rfl) ?_
    refine at_d rfl rfl (opr_copy0 rfl rfl rfl Tryd.underlying27 size5) ?_
    refine at_nil ?_
    refine at_then ?_
    refine at_ret ?_
    refine at_then_ret ?_
    exact done_of (res0 Tryd.results35) ⟨rfl, rfl⟩ (by repeat (first | exact List.Sublist.refl _ | apply List.Sublist.cons))
theorem fromA_ct {M : Mem} {gz gx Tz Tx To Tr n c q : Nat} {cs : List Value} {bs : List Nat} (hcs : cs.take n = bs.map u8V) (hbn : bs.length = n) (hb : ∀ d ∈ bs, d < 256) (hn : n ≤ 48) (hq : (n + 7) / 8 = q) : Ct Tryd.prog 35 #[.pointer (some ⟨gz, 0, none⟩), .slice (some ⟨gx, 0, none⟩) n c] (⟨gz, Tz, EE [0]⟩ :: ⟨gx, Tx, cs⟩ :: ⟨0, To, EE [qq]⟩ :: ⟨1, Tr, W (digs 18446744073709551616 4 r448)⟩ :: M) (Det (.tuple #[]) (⟨gz, Tz, EE [dval 256 bs]⟩ :: ⟨gx, Tx, cs⟩ :: ⟨0, To, EE [qq]⟩ :: ⟨1, Tr, W (digs 18446744073709551616 4 r448)⟩ :: M)) := by
  refine ct_of (vs := [.pointer (some ⟨gz, 0, none⟩), .slice (some ⟨gx, 0, none⟩) n c]) Tryd.func35 rfl Tryd.ntmps35 rfl fun w0 => ?_
  refine at_seq ?_
  refine at_region ?_
  refine at_d rfl rfl (opr_move rfl rfl) ?_
  refine at_d rfl rfl (opr_lenS (n := n) rfl rfl Tryd.underlying27) ?_
  refine at_d rfl rfl (opr_assign rfl rfl) ?_
  refine at_nil ?_
  refine at_then ?_
  refine at_seq ?_
  refine at_region ?_
  refine at_d rfl rfl (opr_move rfl rfl) ?_
  refine at_d rfl rfl (opr_addI (a := n) (b := 7) rfl rfl rfl (by omega)) ?_
  refine at_d rfl rfl (opr_eq' (opr_shrI (a := n + 7) (n := 3) rfl rfl rfl (by decide)) (i64_eq (b := q) (by omega))) ?_
  refine at_d rfl rfl (opr_assign rfl rfl) ?_
  refine at_nil ?_
  refine at_then ?_
  refine at_seq ?_
  refine at_seq ?_
  refine at_region ?_
  refine at_d rfl rfl (opr_move rfl rfl) ?_
  refine at_nil ?_
  refine at_then ?_
  refine at_block ?_
  refine at_loop (fun (x : Nat) => [(0, .pointer (some ⟨gz, 0, none⟩)), (1, .slice (some ⟨gx, 0, none⟩) n c), (5, .int .i64 ((q : Nat) : Int)), (16, .int .i64 (x : Int))]) (fun (x : Nat) => ⟨gz, Tz, EE [0]⟩ :: ⟨gx, Tx, cs⟩ :: ⟨0, To, EE [qq]⟩ :: ⟨1, Tr, W ((digs 18446744073709551616 4 r448))⟩ :: M) (fun (x : Nat) => 56 - x) (fun (x : Nat) => x ≤ 56) 0 (Nat.zero_le _) (allIn ⟨rfl, rfl, rfl, rfl, trivial⟩) (List.Sublist.refl _) ?_
  intro k hk0
  dsimp only
  refine at_seq ?_
  refine at_region ?_
  refine at_d rfl rfl (opr_lss (a := k) (b := 56) rfl rfl rfl) ?_
  refine at_nil ?_
  refine at_then ?_
  refine at_seq ?_
  refine at_cond rfl (fun ht => ?_) (fun ht => ?_)
  ·
    have hk : k < 56 := of_decide_eq_true ht
    refine at_skip ?_
    refine at_then ?_
    refine at_seq ?_
    refine at_block ?_
    refine at_seq ?_
    refine at_region ?_
    refine at_d rfl rfl (opr_move rfl rfl) ?_
    refine at_d rfl rfl (opr_assign rfl rfl) ?_
    refine at_nil ?_
    refine at_then ?_
    refine at_region ?_
    refine at_d rfl rfl (opr_move rfl rfl) ?_
    refine at_d rfl rfl (opr_move rfl rfl) ?_
    refine at_d rfl rfl (opr_nilCheck rfl rfl) ?_
    refine at_d rfl rfl (opr_indexAddr (j := k) (off' := k) rfl rfl rfl Tryd.underlying42 hk size5 (by omega)) ?_
    refine at_d rfl rfl (opr_store (i := 0) rfl rfl rfl rfl rfl size5 rfl (by rw [EE_one, E_length]; exact hk) flat_one (E0_put hk)) ?_
    refine at_nil ?_
    refine at_inBlock_normal ?_
    refine at_then ?_
    refine at_region ?_
    refine at_d rfl rfl (opr_addI (a := k) (b := 1) rfl rfl rfl (by omega)) ?_
    refine at_d rfl rfl (opr_move rfl rfl) ?_
    refine at_nil ?_
    exact at_round (k + 1) (by omega) (by omega) (allIn ⟨rfl, rfl, rfl, rfl, trivial⟩) (List.Sublist.refl _)
  ·
    obtain rfl : k = 56 := by have := of_decide_eq_false ht; omega
    refine at_exit ?_
    refine at_then_exit ?_
    refine at_then_exit ?_
    refine at_inBlock_same ?_
    refine at_then ?_
    refine at_seq ?_
    refine at_seq ?_
    refine at_region ?_
    refine at_d rfl rfl (opr_move rfl rfl) ?_
    refine at_d rfl rfl (opr_lss (a := q) (b := 7) rfl rfl rfl) ?_
    refine at_nil ?_
    refine at_then ?_
    refine at_cond rfl (fun _ => ?_) (fun ht => absurd (of_decide_eq_false ht) (by omega))
    refine at_seq ?_
    refine at_region ?_
    refine at_d rfl rfl (opr_move rfl rfl) ?_
    refine at_d rfl rfl (opr_nilCheck rfl rfl) ?_
    refine at_d rfl rfl (opr_sliceAll rfl rfl Tryd.underlying42 rfl size5) ?_
    refine at_d rfl rfl (opr_move rfl rfl) ?_
    refine at_d rfl rfl (opr_copy (i := 0) (j := 1) (n := n) (vs := bs.map u8V) rfl rfl rfl rfl rfl Tryd.underlying27 size5 (Nat.min_eq_left (by omega)) (by rw [List.length_map]; exact hbn) (by rw [List.drop_zero]; exact hcs) (by rw [EE_one, E_length]; omega) (flat_bytes bs) (E_pad hb (by omega))) ?_
    refine at_nil ?_
    refine at_then ?_
    refine at_ret ?_
    refine at_then_ret ?_
    exact done_of (res0 Tryd.results35) ⟨rfl, rfl⟩ (by repeat (first | exact List.Sublist.refl _ | apply List.Sublist.cons))
theorem fromB_ct {M : Mem} {gz gx Tz Tx To Tr n c m : Nat} {cs : List Value} {bs : List Nat} (hcs : cs.take n = bs.map u8V) (hbn : bs.length = n) (hb : ∀ d ∈ bs, d < 256) (hc : n ≤ c) (hn : n ≤ 200) (hm : (n + 7) / 8 = m + 7) : Ct Tryd.prog 35 #[.pointer (some ⟨gz, 0, none⟩), .slice (some ⟨gx, 0, none⟩) n c] (⟨gz, Tz, EE [0]⟩ :: ⟨gx, Tx, cs⟩ :: ⟨0, To, EE [qq]⟩ :: ⟨1, Tr, W (digs 18446744073709551616 4 r448)⟩ :: M) (Det (.tuple #[]) (⟨gz, Tz, EE [dval 256 bs % qq]⟩ :: ⟨gx, Tx, cs⟩ :: ⟨0, To, EE [qq]⟩ :: ⟨1, Tr, W (digs 18446744073709551616 4 r448)⟩ :: M)) := by
  refine ct_of (vs := [.pointer (some ⟨gz, 0, none⟩), .slice (some ⟨gx, 0, none⟩) n c]) Tryd.func35 rfl Tryd.ntmps35 rfl fun w0 => ?_
  refine at_seq ?_
  refine at_region ?_
  refine at_d rfl rfl (opr_move rfl rfl) ?_
  refine at_d rfl rfl (opr_lenS (n := n) rfl rfl Tryd.underlying27) ?_
  refine at_d rfl rfl (opr_assign rfl rfl) ?_
  refine at_nil ?_
  refine at_then ?_
  refine at_seq ?_
  refine at_region ?_
  refine at_d rfl rfl (opr_move rfl rfl) ?_
  refine at_d rfl rfl (opr_addI (a := n) (b := 7) rfl rfl rfl (by omega)) ?_
  refine at_d rfl rfl (opr_eq' (opr_shrI (a := n + 7) (n := 3) rfl rfl rfl (by decide)) (i64_eq (b := (m + 7)) (by omega))) ?_
  refine at_d rfl rfl (opr_assign rfl rfl) ?_
  refine at_nil ?_
  refine at_then ?_
  refine at_seq ?_
  refine at_seq ?_
  refine at_region ?_
  refine at_d rfl rfl (opr_move rfl rfl) ?_
  refine at_nil ?_
  refine at_then ?_
  refine at_block ?_
  refine at_loop (fun (x : Nat) => [(0, .pointer (some ⟨gz, 0, none⟩)), (1, .slice (some ⟨gx, 0, none⟩) n c), (5, .int .i64 ((m + 7 : Nat) : Int)), (16, .int .i64 (x : Int))]) (fun (x : Nat) => ⟨gz, Tz, EE [0]⟩ :: ⟨gx, Tx, cs⟩ :: ⟨0, To, EE [qq]⟩ :: ⟨1, Tr, W ((digs 18446744073709551616 4 r448))⟩ :: M) (fun (x : Nat) => 56 - x) (fun (x : Nat) => x ≤ 56) 0 (Nat.zero_le _) (allIn ⟨rfl, rfl, rfl, rfl, trivial⟩) (List.Sublist.refl _) ?_
  intro k hk0
  dsimp only
  refine at_seq ?_
  refine at_region ?_
  refine at_d rfl rfl (opr_lss (a := k) (b := 56) rfl rfl rfl) ?_
  refine at_nil ?_
  refine at_then ?_
  refine at_seq ?_
  refine at_cond rfl (fun ht => ?_) (fun ht => ?_)
  ·
    have hk : k < 56 := of_decide_eq_true ht
    refine at_skip ?_
    refine at_then ?_
    refine at_seq ?_
    refine at_block ?_
    refine at_seq ?_
    refine at_region ?_
    refine at_d rfl rfl (opr_move rfl rfl) ?_
    refine at_d rfl rfl (opr_assign rfl rfl) ?_
    refine at_nil ?_
    refine at_then ?_
    refine at_region ?_
    refine at_d rfl rfl (opr_move rfl rfl) ?_
    refine at_d rfl rfl (opr_move rfl rfl) ?_
    refine at_d rfl rfl (opr_nilCheck rfl rfl) ?_
    refine at_d rfl rfl (opr_indexAddr (j := k) (off' := k) rfl rfl rfl Tryd.underlying42 hk size5 (by omega)) ?_
    refine at_d rfl rfl (opr_store (i := 0) rfl rfl rfl rfl rfl size5 rfl (by rw [EE_one, E_length]; exact hk) flat_one (E0_put hk)) ?_
    refine at_nil ?_
    refine at_inBlock_normal ?_
    refine at_then ?_
    refine at_region ?_
    refine at_d rfl rfl (opr_addI (a := k) (b := 1) rfl rfl rfl (by omega)) ?_
    refine at_d rfl rfl (opr_move rfl rfl) ?_
    refine at_nil ?_
    exact at_round (k + 1) (by omega) (by omega) (allIn ⟨rfl, rfl, rfl, rfl, trivial⟩) (List.Sublist.refl _)
  ·
    obtain rfl : k = 56 := by have := of_decide_eq_false ht; omega
    refine at_exit ?_
    refine at_then_exit ?_
    refine at_then_exit ?_
    refine at_inBlock_same ?_
    refine at_then ?_
    refine at_seq ?_
    refine at_seq ?_
    refine at_region ?_
    refine at_d rfl rfl (opr_move rfl rfl) ?_
    refine at_d rfl rfl (opr_lss (a := (m + 7)) (b := 7) rfl rfl rfl) ?_
    refine at_nil ?_
    refine at_then ?_
    refine at_cond rfl (fun ht => absurd (of_decide_eq_true ht) (by omega)) (fun _ => ?_)
    refine at_skip ?_
    refine at_then ?_
    refine at_seq ?_
    refine at_draw (by kernel_rfl) (by kernel_rfl) (by kernel_rfl) (List.cons_ne_nil _ _) ?_
    refine dr_op rfl rfl (opr_move rfl rfl) ?_
    refine dr_op rfl rfl (opr_nilCheck rfl rfl) ?_
    refine dr_op rfl rfl (opr_sliceAll rfl rfl Tryd.underlying42 rfl size5) ?_
    refine dr_op rfl rfl (opr_move rfl rfl) ?_
    refine dr_op rfl rfl (opr_move rfl rfl) ?_
    refine dr_op rfl rfl (opr_subIZ (c := (m : Int)) rfl rfl rfl (by omega) (by omega) (by omega)) ?_
    refine dr_op rfl rfl (opr_mulI (a := 8) (b := m) rfl rfl rfl (by omega)) ?_
    refine dr_op rfl rfl (opr_sliceSLo (a := 8 * m) (off' := 8 * m) rfl rfl rfl Tryd.underlying27 size5 (by omega) hc (by omega) (by omega)) ?_
    refine dr_last rfl rfl (opr_copy (i := 0) (j := 1) (n := n - 8 * m) (vs := (bs.drop (8 * m)).map u8V) rfl rfl rfl rfl rfl Tryd.underlying27 size5 (Nat.min_eq_left (by omega)) (by rw [List.length_map, List.length_drop, hbn]) (bytes_from hcs) (by rw [EE_one, E_length]; omega) (flat_bytes _) (E_pad (fun d hd => hb d (List.mem_of_mem_drop hd)) (by rw [List.length_drop]; omega))) ?_
    refine at_then ?_
    refine at_seq ?_
    refine at_region ?_
    refine at_n rfl rfl (opr_alloc rfl zero59 rfl) ?_
    intro g0
    refine at_nil ?_
    refine at_then ?_
    refine at_seq ?_
    refine at_region ?_
    refine at_d rfl rfl (opr_move rfl rfl) ?_
    refine at_d rfl rfl (opr_call rfl rfl rfl Tryd.func38 (by kernel_rfl) rfl (ct_frame (iz := 0) (idx := [1]) (L := [⟨gz, Tz, EE [dval 256 (bs.drop (8 * m))]⟩]) rfl (by simp only [List.nodup_cons, List.mem_cons, List.not_mem_nil, or_false, not_or, not_false_eq_true, List.nodup_nil, and_true] <;> omega) rfl (idxc rfl idx0) (fromS_ct (M := []) (a := dval 256 (bs.drop (8 * m))) List.length_replicate) (by rintro _ _ ⟨rfl, rfl⟩; exact ⟨_, rfl, rfl, rfl⟩))) ?_
    refine at_nil ?_
    refine at_then ?_
    refine at_seq ?_
    refine at_seq ?_
    refine at_region ?_
    refine at_d rfl rfl (opr_move rfl rfl) ?_
    refine at_d rfl rfl (opr_subIZ (c := (m : Int)) rfl rfl rfl (by omega) (by omega) (by omega)) ?_
    refine at_d rfl rfl (opr_subIZ (c := (m : Int) - 1 - ((0 : Nat) : Int)) rfl rfl rfl (by omega) (by omega) (by omega)) ?_
    refine at_d rfl rfl (opr_assign rfl rfl) ?_
    refine at_nil ?_
    refine at_then ?_
    refine at_block ?_
    refine at_loop2 (fun (x : Nat) (y : Nat) => [(0, .pointer (some ⟨gz, 0, none⟩)), (1, .slice (some ⟨gx, 0, none⟩) n c), (7, .pointer (some ⟨g0, 0, none⟩)), (8, .int .i64 ((m : Int) - 1 - (x : Int)))]) (fun (x : Nat) (y : Nat) => ⟨g0, 59, W ((digs 18446744073709551616 7 y))⟩ :: ⟨gz, Tz, EE [dval 256 (bs.drop (8 * m))]⟩ :: ⟨gx, Tx, cs⟩ :: ⟨0, To, EE [qq]⟩ :: ⟨1, Tr, W ((digs 18446744073709551616 4 r448))⟩ :: M) (fun (x : Nat) (y : Nat) => m - x) (fun (x : Nat) (y : Nat) => x ≤ m ∧ y < RR ∧ y % qq = dval 256 (bs.drop (8 * (m - x))) % qq) 0 (dval 256 (bs.drop (8 * m))) ⟨Nat.zero_le _, dval_top (fun d hd => hb d (List.mem_of_mem_drop hd)) (by rw [List.length_drop]; omega), rfl⟩ (allIn ⟨rfl, rfl, rfl, rfl, trivial⟩) (List.Sublist.refl _) ?_
    rintro j y ⟨hj, hy, hyq⟩
    dsimp only
    refine at_seq ?_
    refine at_seq ?_
    refine at_region ?_
    refine at_d rfl rfl (opr_move rfl rfl) ?_
    refine at_d rfl rfl (opr_geqZ rfl rfl rfl) ?_
    refine at_nil ?_
    refine at_then ?_
    refine at_cond rfl (fun ht => ?_) (fun ht => ?_)
    ·
      have ht' := of_decide_eq_true ht
      have hjm : j < m := by omega
      have ej : (m : Int) - 1 - (j : Int) = ((m - 1 - j : Nat) : Int) := by omega
      refine at_skip ?_
      refine at_then ?_
      refine at_seq ?_
      refine at_block ?_
      refine at_seq ?_
      refine at_draw (by kernel_rfl) (by kernel_rfl) (by kernel_rfl) (List.cons_ne_nil _ _) ?_
      refine dr_op rfl rfl (opr_load0 rfl rfl Tryd.underlying72 rfl size72) ?_
      refine dr_op rfl rfl (opr_move rfl rfl) ?_
      refine dr_op rfl rfl (opr_move rfl rfl) ?_
      refine dr_op rfl rfl (opr_mulI (a := 8) (b := m - 1 - j) rfl rfl (by exact congrArg (fun n => some (Value.int .i64 n)) ej) (by omega)) ?_
      refine dr_op rfl rfl (opr_sliceSLo (a := 8 * (m - 1 - j)) (off' := 8 * (m - 1 - j)) rfl rfl rfl Tryd.underlying27 size5 (by omega) hc (by omega) (by omega)) ?_
      refine dr_op rfl rfl (opr_call rfl rfl rfl Tryd.func48 (by kernel_rfl) rfl (uint64_ct (i := 2) (x := dval 256 (bs.drop (8 * (m - 1 - j)))) rfl (bytes8 hcs hbn hb (by omega)) (by omega))) ?_
      refine dr_last rfl rfl (opr_assign rfl rfl) ?_
      refine at_then ?_
      refine at_seq ?_
      refine at_region ?_
      refine at_d rfl rfl (opr_move rfl rfl) ?_
      refine at_d rfl rfl (opr_call rfl rfl rfl Tryd.func47 (by kernel_rfl) rfl (ct_frame (iz := 0) (idx := []) (L := []) rfl (by simp only [List.nodup_cons, List.mem_cons, List.not_mem_nil, or_false, not_or, not_false_eq_true, List.nodup_nil, and_true] <;> omega) rfl idx0 (leftShift_ct (M := []) (Z := y) (low := dval 256 (bs.drop (8 * (m - 1 - j))) % 18446744073709551616) (Nat.mod_lt _ (by decide))) (by rintro _ _ ⟨rfl, rfl⟩; exact ⟨_, rfl, rfl, rfl⟩))) ?_
      refine at_d rfl rfl (opr_assign rfl rfl) ?_
      refine at_nil ?_
      rw [show (digs 18446744073709551616 7 (dval 256 (bs.drop (8 * (m - 1 - j))) % 18446744073709551616 + 18446744073709551616 * y)) = (digs 18446744073709551616 7 ((dval 256 (bs.drop (8 * (m - 1 - j))) % 18446744073709551616 + 18446744073709551616 * y) % RR)) from by rw [digs_RR]]
      refine at_then ?_
      refine at_region ?_
      refine at_d rfl rfl (opr_move rfl rfl) ?_
      refine at_d rfl rfl (opr_call rfl rfl rfl Tryd.func46 (by kernel_rfl) rfl (ct_frame (iz := 0) (idx := [4]) (L := [⟨1, Tr, W ((digs 18446744073709551616 4 r448))⟩]) rfl (by simp only [List.nodup_cons, List.mem_cons, List.not_mem_nil, or_false, not_or, not_false_eq_true, List.nodup_nil, and_true] <;> omega) rfl (idxc rfl idx0) (redOne_ct (M := []) (Z := (dval 256 (bs.drop (8 * (m - 1 - j))) % 18446744073709551616 + 18446744073709551616 * y) % RR) (x := y / 18446744073709551616 ^ 6 % 18446744073709551616) (Nat.mod_lt _ (by decide)) (dig_lt _ 6)) (by rintro _ _ ⟨rfl, rfl⟩; exact ⟨_, rfl, rfl, rfl⟩))) ?_
      refine at_nil ?_
      refine at_inBlock_normal ?_
      refine at_then ?_
      refine at_region ?_
      refine at_d rfl rfl (opr_move rfl rfl) ?_
      refine at_d rfl rfl (opr_subIZ (c := (m : Int) - 1 - ((j + 1 : Nat) : Int)) rfl rfl rfl (by omega) (by omega) (by omega)) ?_
      refine at_d rfl rfl (opr_assign rfl rfl) ?_
      refine at_nil ?_
      exact at_round2 (j + 1) (rone ((dval 256 (bs.drop (8 * (m - 1 - j))) % 18446744073709551616 + 18446744073709551616 * y) % RR) (y / 18446744073709551616 ^ 6 % 18446744073709551616)) ⟨by omega, rone_lt (Nat.mod_lt _ (by decide)) (dig_lt _ 6), by rw [show 8 * (m - (j + 1)) = 8 * (m - 1 - j) from by omega]; exact shl_word hy (by rw [dval_drop8 hb (by omega), show 8 * (m - 1 - j) + 8 = 8 * (m - j) from by omega]; exact hyq)⟩ (by omega) (allIn ⟨rfl, rfl, rfl, rfl, trivial⟩) (List.Sublist.refl _)
    ·
      have ht' := of_decide_eq_false ht
      obtain rfl : j = m := by omega
      rw [Nat.sub_self, Nat.mul_zero, List.drop_zero] at hyq
      refine at_exit ?_
      refine at_then_exit ?_
      refine at_then_exit ?_
      refine at_inBlock_same ?_
      refine at_then ?_
      refine at_seq ?_
      refine at_region ?_
      refine at_d rfl rfl (opr_call rfl rfl rfl Tryd.func39 (by kernel_rfl) rfl (ct_frame (iz := 0) (idx := [3]) (L := [⟨0, To, EE [qq]⟩]) rfl (by simp only [List.nodup_cons, List.mem_cons, List.not_mem_nil, or_false, not_or, not_false_eq_true, List.nodup_nil, and_true] <;> omega) rfl (idxc rfl idx0) (modOrder_ct (M := []) (Z := y) hy) (by rintro _ _ ⟨rfl, rfl⟩; exact ⟨_, rfl, rfl, rfl⟩))) ?_
      refine at_nil ?_
      refine at_then ?_
      refine at_region ?_
      refine at_d rfl rfl (opr_move rfl rfl) ?_
      refine at_d rfl rfl (opr_call rfl rfl rfl Tryd.func40 (by kernel_rfl) rfl (ct_frame (iz := 1) (idx := [0]) (L := [⟨g0, 59, W ((digs 18446744073709551616 7 (y % qq)))⟩]) rfl (by simp only [List.nodup_cons, List.mem_cons, List.not_mem_nil, or_false, not_or, not_false_eq_true, List.nodup_nil, and_true] <;> omega) rfl (idxc rfl idx0) (toS_ct (M := []) (Z := y % qq)) (by rintro _ _ ⟨rfl, rfl⟩; exact ⟨_, rfl, rfl, rfl⟩))) ?_
      refine at_nil ?_
      rw [hyq]
      exact done_of (res0 Tryd.results35) ⟨rfl, rfl⟩ (by repeat (first | exact List.Sublist.refl _ | apply List.Sublist.cons))
theorem reduceW_ct {M : Mem} {gl off n c : Nat} {bs : List Nat} (hbn : bs.length = n) (hb : ∀ b ∈ bs, b < 256) (hn : n < 4611686018427387904) : CtW Tryd.prog 8 #[.slice (some ⟨gl, off, none⟩) n c] gl off (bs.map u8V) M (Det (.agg (N (dval 256 bs % qq)).toArray) M) := by
  refine ct_ofW (vs := [.slice (some ⟨gl, off, none⟩) n c]) Tryd.func8 rfl Tryd.ntmps8 rfl fun w0 hro => ?_
  refine at_seq ?_
  refine at_region ?_
  refine at_n rfl rfl (opr_alloc rfl zero25 rfl) ?_
  intro g0
  refine at_nil ?_
  refine at_then ?_
  refine at_seq ?_
  refine at_region ?_
  refine at_d rfl rfl (opr_buildE (ds := N 0) rfl rfl builtn25 rfl) ?_
  refine at_n rfl rfl (opr_alloc rfl zero25 rfl) ?_
  intro g1
  refine at_d rfl rfl (opr_store (i := 0) rfl rfl rfl rfl rfl size25 (N_length _) (by rw [N_length]; decide) (N_flat _) N_over) ?_
  refine at_nil ?_
  refine at_then ?_
  refine at_seq ?_
  refine at_seq ?_
  refine at_region ?_
  refine at_d rfl rfl (opr_move rfl rfl) ?_
  refine at_d rfl rfl (opr_lenS rfl rfl Tryd.underlying27) ?_
  refine at_d rfl rfl (opr_subIZ (c := (n : Int) - 1 - ((0 : Nat) : Int)) rfl rfl rfl (by omega) (by omega) (by omega)) ?_
  refine at_d rfl rfl (opr_assign rfl rfl) ?_
  refine at_nil ?_
  refine at_then ?_
  refine at_block ?_
  refine at_loop (fun (x : Nat) => [(0, .slice (some ⟨gl, off, none⟩) n c), (2, .pointer (some ⟨g0, 0, none⟩)), (3, .pointer (some ⟨g1, 0, none⟩)), (4, .int .i64 ((n : Int) - 1 - (x : Int)))]) (fun (x : Nat) => ⟨g1, 25, N (rtop bs x)⟩ :: ⟨g0, 25, N (0)⟩ :: M) (fun (x : Nat) => n - x) (fun (x : Nat) => x ≤ n) 0 (Nat.zero_le _) (allIn ⟨rfl, rfl, rfl, rfl, trivial⟩) (by rw [rtop_zero]; exact List.Sublist.refl _) ?_
  intro xk hxk
  dsimp only
  refine at_seq ?_
  refine at_seq ?_
  refine at_region ?_
  refine at_d rfl rfl (opr_move rfl rfl) ?_
  refine at_d rfl rfl (opr_geqZ rfl rfl rfl) ?_
  refine at_nil ?_
  refine at_then ?_
  refine at_cond rfl (fun ht => ?_) (fun ht => ?_)
  ·
    have ht' := of_decide_eq_true ht
    have hx : xk < n := by omega
    have ej : (n : Int) - 1 - (xk : Int) = ((n - 1 - xk : Nat) : Int) := by omega
    have rbn8 : N (rbit (rtop bs xk) (bs.getD (n - 1 - xk) 0) 8) = N (rtop bs (xk + 1)) := by
      subst hbn; rw [rtop_next hx]
    refine at_skip ?_
    refine at_then ?_
    refine at_seq ?_
    refine at_block ?_
    refine at_seq ?_
    refine at_region ?_
    refine at_d rfl rfl (opr_assign rfl rfl) ?_
    refine at_nil ?_
    refine at_then ?_
    refine at_block ?_
    refine at_loop (fun (x : Nat) => [(0, .slice (some ⟨gl, off, none⟩) n c), (2, .pointer (some ⟨g0, 0, none⟩)), (3, .pointer (some ⟨g1, 0, none⟩)), (4, .int .i64 ((n : Int) - 1 - (xk : Int))), (5, .int .i64 (7 - (x : Int)))]) (fun (x : Nat) => ⟨g1, 25, N (rbit (rtop bs xk) (bs.getD (n - 1 - xk) 0) x)⟩ :: ⟨g0, 25, N (0)⟩ :: M) (fun (x : Nat) => 8 - x) (fun (x : Nat) => x ≤ 8) 0 (Nat.zero_le _) (allIn ⟨rfl, rfl, rfl, rfl, rfl, trivial⟩) (by rw [rbit_zero (rtop_lt _ _) (getD_256 hb _)]; exact List.Sublist.refl _) ?_
    intro yk hyk
    dsimp only
    refine at_seq ?_
    refine at_seq ?_
    refine at_region ?_
    refine at_d rfl rfl (opr_move rfl rfl) ?_
    refine at_d rfl rfl (opr_geqZ rfl rfl rfl) ?_
    refine at_nil ?_
    refine at_then ?_
    refine at_cond rfl (fun ht => ?_) (fun ht => ?_)
    ·
      have ht2 := of_decide_eq_true ht
      have hy : yk < 8 := by omega
      have ejy : 7 - (yk : Int) = ((7 - yk : Nat) : Int) := by omega
      have hbt : ((bs.getD (n - 1 - xk) 0) / 2 ^ (7 - yk) % 2) ≤ 1 := by have := Nat.mod_lt ((bs.getD (n - 1 - xk) 0) / 2 ^ (7 - yk)) (show 0 < 2 by decide); omega
      refine at_skip ?_
      refine at_then ?_
      refine at_seq ?_
      refine at_block ?_
      refine at_seq ?_
      refine at_region ?_
      refine at_d rfl rfl (opr_move rfl rfl) ?_
      refine at_d rfl rfl (opr_move rfl rfl) ?_
      refine at_d rfl rfl (opr_indexAddrS (j := (n - 1 - xk)) (off' := off + (n - 1 - xk)) rfl rfl (by exact congrArg (fun n => some (Value.int .i64 n)) ej) Tryd.underlying27 (by omega) size5 (by omega)) ?_
      refine at_dW hro rfl rfl (opr_loadW (j := (n - 1 - xk)) rfl rfl Tryd.underlying5 rfl rfl (byteW hbn (by omega))) ?_
      refine at_d rfl rfl (opr_to64 (n := (bs.getD (n - 1 - xk) 0)) rfl rfl Tryd.underlying5 Tryd.underlying23 (Nat.lt_trans (getD_256 hb _) (by decide))) ?_
      refine at_d rfl rfl (opr_move rfl rfl) ?_
      refine at_d rfl rfl (opr_shr64 (n := 7 - yk) rfl rfl (by exact congrArg (fun n => some (Value.int .i64 n)) ejy) (by omega)) ?_
      refine at_d rfl rfl (opr_eq' (opr_and64 (b := 1) rfl rfl rfl (Nat.lt_of_le_of_lt (Nat.div_le_self _ _) (Nat.lt_trans (getD_256 hb _) (by decide))) (by decide)) (u64_eq' (Nat.and_one_is_mod _))) ?_
      refine at_d rfl rfl (opr_eq' (opr_assign rfl rfl) (u64_eq' (cdbl_zero (rbit (rtop bs xk) (bs.getD (n - 1 - xk) 0) yk) ((bs.getD (n - 1 - xk) 0) / 2 ^ (7 - yk) % 2)).symm)) ?_
      refine at_nil ?_
      refine at_then ?_
      refine at_seq ?_
      refine at_seq ?_
      refine at_region ?_
      refine at_d rfl rfl (opr_move rfl rfl) ?_
      refine at_nil ?_
      refine at_then ?_
      refine at_block ?_
      refine at_loop (fun (x : Nat) => [(0, .slice (some ⟨gl, off, none⟩) n c), (2, .pointer (some ⟨g0, 0, none⟩)), (3, .pointer (some ⟨g1, 0, none⟩)), (4, .int .i64 ((n : Int) - 1 - (xk : Int))), (5, .int .i64 (7 - (yk : Int))), (6, .int .u64 ((cdbl (rbit (rtop bs xk) (bs.getD (n - 1 - xk) 0) yk) ((bs.getD (n - 1 - xk) 0) / 2 ^ (7 - yk) % 2) x : Nat) : Int)), (29, .int .i64 (x : Int))]) (fun (x : Nat) => ⟨g1, 25, W ((mixl (digs 65536 28 (2 * (rbit (rtop bs xk) (bs.getD (n - 1 - xk) 0) yk) + ((bs.getD (n - 1 - xk) 0) / 2 ^ (7 - yk) % 2))) (digs 65536 28 (rbit (rtop bs xk) (bs.getD (n - 1 - xk) 0) yk)) x))⟩ :: ⟨g0, 25, N (0)⟩ :: M) (fun (x : Nat) => 28 - x) (fun (x : Nat) => x ≤ 28) 0 (Nat.zero_le _) (allIn ⟨rfl, rfl, rfl, rfl, rfl, rfl, rfl, trivial⟩) (by rw [mixl_zero]; exact List.Sublist.refl _) ?_
      intro j hjl
      dsimp only
      refine at_seq ?_
      refine at_region ?_
      refine at_d rfl rfl (opr_lss (a := j) (b := 28) rfl rfl rfl) ?_
      refine at_nil ?_
      refine at_then ?_
      refine at_seq ?_
      refine at_cond rfl (fun ht => ?_) (fun ht => ?_)
      ·
        have hj : j < 28 := of_decide_eq_true ht
        refine at_skip ?_
        refine at_then ?_
        refine at_seq ?_
        refine at_block ?_
        refine at_seq ?_
        refine at_region ?_
        refine at_d rfl rfl (opr_move rfl rfl) ?_
        refine at_d rfl rfl (opr_assign rfl rfl) ?_
        refine at_nil ?_
        refine at_then ?_
        refine at_seq ?_
        refine at_region ?_
        refine at_d rfl rfl (opr_move rfl rfl) ?_
        refine at_d rfl rfl (opr_indexAddr (j := j) (off' := j) rfl rfl rfl Tryd.underlying25 hj size23 (by omega)) ?_
        refine at_d rfl rfl (opr_load1 (i := 0) rfl rfl rfl Tryd.underlying23 rfl (W_get ((mixl_get (digs_length 65536 28 _) hjl).trans (digs_get 28 (rbit (rtop bs xk) (bs.getD (n - 1 - xk) 0) yk) j hj)))) ?_
        refine at_d rfl rfl (opr_eq' (opr_mul64 (a := 2) rfl rfl rfl) (u64_eq' (Nat.mod_eq_of_lt (by have := Nat.mod_lt ((rbit (rtop bs xk) (bs.getD (n - 1 - xk) 0) yk) / 65536 ^ j) (show 0 < 65536 by decide); omega)))) ?_
        refine at_d rfl rfl (opr_move rfl rfl) ?_
        refine at_d rfl rfl (opr_eq' (opr_add64 (a := 2 * ((rbit (rtop bs xk) (bs.getD (n - 1 - xk) 0) yk) / 65536 ^ j % 65536)) rfl rfl rfl) (u64_eq' (Nat.mod_eq_of_lt (by have := Nat.mod_lt ((rbit (rtop bs xk) (bs.getD (n - 1 - xk) 0) yk) / 65536 ^ j) (show 0 < 65536 by decide); have := cdbl_le (O := (rbit (rtop bs xk) (bs.getD (n - 1 - xk) 0) yk)) (j := j) hbt; omega)))) ?_
        refine at_d rfl rfl (opr_assign rfl rfl) ?_
        refine at_nil ?_
        refine at_then ?_
        refine at_seq ?_
        refine at_region ?_
        refine at_d rfl rfl (opr_move rfl rfl) ?_
        refine at_d rfl rfl (opr_move rfl rfl) ?_
        refine at_d rfl rfl (opr_eq' (opr_rem64 rfl rfl rfl (by decide)) (u64_eq' (dbl_digit (rbit (rtop bs xk) (bs.getD (n - 1 - xk) 0) yk) ((bs.getD (n - 1 - xk) 0) / 2 ^ (7 - yk) % 2) j).symm)) ?_
        refine at_d rfl rfl (opr_indexAddr (j := j) (off' := j) rfl rfl rfl Tryd.underlying25 hj size23 (by omega)) ?_
        refine at_d rfl rfl (opr_store (i := 0) rfl rfl rfl rfl rfl size23 rfl (by rw [W_length, mixl_length (digs_length 65536 28 _) (digs_length _ _ _) hjl]; omega) flat_one (W_put (by rw [mixl_length (digs_length 65536 28 _) (digs_length _ _ _) hjl]; omega) (mixl_put (digs_length 65536 28 _) (digs_length _ _ _) hj (digs_get 28 (2 * (rbit (rtop bs xk) (bs.getD (n - 1 - xk) 0) yk) + ((bs.getD (n - 1 - xk) 0) / 2 ^ (7 - yk) % 2)) j hj)))) ?_
        refine at_nil ?_
        refine at_then ?_
        refine at_region ?_
        refine at_d rfl rfl (opr_move rfl rfl) ?_
        refine at_d rfl rfl (opr_eq' (opr_quo64 rfl rfl rfl (by decide) (by have := Nat.mod_lt ((rbit (rtop bs xk) (bs.getD (n - 1 - xk) 0) yk) / 65536 ^ j) (show 0 < 65536 by decide); have := cdbl_le (O := (rbit (rtop bs xk) (bs.getD (n - 1 - xk) 0) yk)) (j := j) hbt; omega)) (u64_eq' (cdbl_next (rbit (rtop bs xk) (bs.getD (n - 1 - xk) 0) yk) ((bs.getD (n - 1 - xk) 0) / 2 ^ (7 - yk) % 2) j).symm)) ?_
        refine at_d rfl rfl (opr_assign rfl rfl) ?_
        refine at_nil ?_
        refine at_inBlock_normal ?_
        refine at_then ?_
        refine at_region ?_
        refine at_d rfl rfl (opr_addI (a := j) (b := 1) rfl rfl rfl (by omega)) ?_
        refine at_d rfl rfl (opr_move rfl rfl) ?_
        refine at_nil ?_
        exact at_round (j + 1) (by omega) (by omega) (allIn ⟨rfl, rfl, rfl, rfl, rfl, rfl, rfl, trivial⟩) (List.Sublist.refl _)
      ·
        obtain rfl : j = 28 := by have := of_decide_eq_false ht; omega
        rw [mixl_end (digs_length 65536 28 _) (digs_length _ _ _)]
        refine (show At _ _ (⟨g1, 25, N ((2 * (rbit (rtop bs xk) (bs.getD (n - 1 - xk) 0) yk) + ((bs.getD (n - 1 - xk) 0) / 2 ^ (7 - yk) % 2)))⟩ :: ⟨g0, 25, N (0)⟩ :: _) _ from ?_)
        refine at_exit ?_
        refine at_then_exit ?_
        refine at_then_exit ?_
        refine at_inBlock_same ?_
        refine at_then ?_
        refine at_seq ?_
        refine at_drawQ (by kernel_rfl) (by kernel_rfl) (List.cons_ne_nil _ _) ?_
        refine dr_op rfl rfl (opr_load (i := 0) rfl rfl rfl Tryd.underlying25 rfl size25 (N_length _) (N_at _)) ?_
        refine dr_op rfl rfl (opr_call rfl rfl rfl Tryd.func14 (by kernel_rfl) rfl (sOrder_ct)) ?_
        refine dr_op rfl rfl (opr_call rfl rfl rfl Tryd.func12 (by kernel_rfl) rfl (less_ct rbit_RR qq28)) ?_
        refine dr_last rfl rfl (opr_unOp (u := .bool (!decide ((2 * (rbit (rtop bs xk) (bs.getD (n - 1 - xk) 0) yk) + ((bs.getD (n - 1 - xk) 0) / 2 ^ (7 - yk) % 2)) < qq))) rfl rfl (fun _ => rfl)) ?_
        refine ⟨rfl, ?_⟩
        refine at_then ?_
        refine at_cond rfl (fun ht => ?_) (fun ht => ?_)
        ·
          have hge : qq ≤ (2 * (rbit (rtop bs xk) (bs.getD (n - 1 - xk) 0) yk) + ((bs.getD (n - 1 - xk) 0) / 2 ^ (7 - yk) % 2)) := by simpa using ht
          refine at_draw (by kernel_rfl) (by kernel_rfl) (by kernel_rfl) (List.cons_ne_nil _ _) ?_
          refine dr_op rfl rfl (opr_load (i := 0) rfl rfl rfl Tryd.underlying25 rfl size25 (N_length _) (N_at _)) ?_
          refine dr_op rfl rfl (opr_call rfl rfl rfl Tryd.func14 (by kernel_rfl) rfl (sOrder_ct)) ?_
          refine dr_op rfl rfl (opr_call rfl rfl rfl Tryd.func24 (by kernel_rfl) rfl (minus_ct rbit_RR hge)) ?_
          refine dr_last rfl rfl (opr_store (i := 0) rfl rfl rfl rfl rfl size25 (N_length _) (by rw [N_length]; decide) (N_flat _) N_over) ?_
          rw [rbit_sub hy hge]
          refine at_inBlock_normal ?_
          refine at_then ?_
          refine at_region ?_
          refine at_d rfl rfl (opr_move rfl rfl) ?_
          refine at_d rfl rfl (opr_subIZ (c := 7 - ((yk + 1 : Nat) : Int)) rfl rfl rfl (by omega) (by omega) (by omega)) ?_
          refine at_d rfl rfl (opr_assign rfl rfl) ?_
          refine at_nil ?_
          exact at_round (yk + 1) (by omega) (by omega) (allIn ⟨rfl, rfl, rfl, rfl, rfl, trivial⟩) (List.Sublist.refl _)
        ·
          have hlt : (2 * (rbit (rtop bs xk) (bs.getD (n - 1 - xk) 0) yk) + ((bs.getD (n - 1 - xk) 0) / 2 ^ (7 - yk) % 2)) < qq := by simpa using ht
          rw [rbit_keep hy hlt]
          refine at_skip ?_
          refine at_inBlock_normal ?_
          refine at_then ?_
          refine at_region ?_
          refine at_d rfl rfl (opr_move rfl rfl) ?_
          refine at_d rfl rfl (opr_subIZ (c := 7 - ((yk + 1 : Nat) : Int)) rfl rfl rfl (by omega) (by omega) (by omega)) ?_
          refine at_d rfl rfl (opr_assign rfl rfl) ?_
          refine at_nil ?_
          exact at_round (yk + 1) (by omega) (by omega) (allIn ⟨rfl, rfl, rfl, rfl, rfl, trivial⟩) (List.Sublist.refl _)
    ·
      have ht2 := of_decide_eq_false ht
      obtain rfl : yk = 8 := by omega
      refine at_exit ?_
      refine at_then_exit ?_
      refine at_then_exit ?_
      refine at_inBlock_same ?_
      refine at_inBlock_normal ?_
      refine at_then ?_
      refine at_region ?_
      refine at_d rfl rfl (opr_move rfl rfl) ?_
      refine at_d rfl rfl (opr_subIZ (c := (n : Int) - 1 - ((xk + 1 : Nat) : Int)) rfl rfl rfl (by omega) (by omega) (by omega)) ?_
      refine at_d rfl rfl (opr_assign rfl rfl) ?_
      refine at_nil ?_
      rw [rbn8]
      exact at_round (xk + 1) (by omega) (by omega) (allIn ⟨rfl, rfl, rfl, rfl, trivial⟩) (List.Sublist.refl _)
  ·
    have ht' := of_decide_eq_false ht
    obtain rfl : xk = n := by omega
    refine at_exit ?_
    refine at_then_exit ?_
    refine at_then_exit ?_
    refine at_inBlock_same ?_
    refine at_then ?_
    refine at_seq ?_
    refine at_region ?_
    refine at_d rfl rfl (opr_load (i := 0) rfl rfl rfl Tryd.underlying25 rfl size25 (N_length _) (N_at _)) ?_
    refine at_d rfl rfl (opr_store (i := 1) rfl rfl rfl rfl rfl size25 (N_length _) (by rw [N_length]; decide) (N_flat _) N_over) ?_
    refine at_nil ?_
    refine at_then ?_
    refine at_ret ?_
    refine done_of (res1 Tryd.results8 (res_cell (i := 1) rfl rfl Tryd.underlying25 rfl size25 (N_length _) (N_at _))) ⟨?_, rfl⟩ (by repeat (first | exact List.Sublist.refl _ | apply List.Sublist.cons))
    subst hbn
    rw [rtop_end]
theorem fromX_ct {M : Mem} {gz gx Tz Tx To Tr n c : Nat} {cs : List Value} {bs : List Nat} (hcs : cs.take n = bs.map u8V) (hbn : bs.length = n) (hb : ∀ d ∈ bs, d < 256) (hc : n ≤ c) (hn : n ≤ 200) : Ct Tryd.prog 35 #[.pointer (some ⟨gz, 0, none⟩), .slice (some ⟨gx, 0, none⟩) n c] (⟨gz, Tz, EE [0]⟩ :: ⟨gx, Tx, cs⟩ :: ⟨0, To, EE [qq]⟩ :: ⟨1, Tr, W (digs 18446744073709551616 4 r448)⟩ :: M) (Det (.tuple #[]) (⟨gz, Tz, EE [dval 256 bs % qq]⟩ :: ⟨gx, Tx, cs⟩ :: ⟨0, To, EE [qq]⟩ :: ⟨1, Tr, W (digs 18446744073709551616 4 r448)⟩ :: M)) := by
  rcases Nat.lt_or_ge 48 n with h | h
  · obtain ⟨m, hm⟩ : ∃ m, (n + 7) / 8 = m + 7 := ⟨(n + 7) / 8 - 7, by omega⟩
    exact fromB_ct hcs hbn hb hc hn hm
  · rw [dval_short hb (by omega)]
    exact fromA_ct hcs hbn hb h rfl
theorem iFromX_ct {M : Mem} {jo To : Nat} (hO : M[jo]? = some ⟨0, To, EE [qq]⟩) {jr Tr : Nat} (hR : M[jr]? = some ⟨1, Tr, W (digs 18446744073709551616 4 r448)⟩) (hjr : jo ≠ jr) {il gl Tl off n c : Nat} {cs : List Value} {bs : List Nat} (hl : M[il]? = some ⟨gl, Tl, cs⟩) (hcs : (cs.drop off).take n = bs.map u8V) (hbn : bs.length = n) (hb : ∀ d ∈ bs, d < 256) (hn : n ≤ 200) : Ct Tryd.prog 22 #[.slice (some ⟨gl, off, none⟩) n c] M (Det (.agg (E (dval 256 bs % qq)).toArray) M) := by
  refine ct_of (vs := [.slice (some ⟨gl, off, none⟩) n c]) Tryd.func22 rfl Tryd.ntmps22 rfl fun w0 => ?_
  refine at_seq ?_
  refine at_region ?_
  refine at_n rfl rfl (opr_alloc rfl zero22 rfl) ?_
  intro g0
  refine at_nil ?_
  refine at_then ?_
  refine at_seq ?_
  refine at_region ?_
  refine at_n rfl rfl (opr_alloc rfl zero42 rfl) ?_
  intro g1
  refine at_nil ?_
  refine at_then ?_
  refine at_seq ?_
  refine at_region ?_
  refine at_d rfl rfl (opr_move rfl rfl) ?_
  refine at_c rfl rfl (opr_call rfl rfl rfl Tryd.func36 (by kernel_rfl) rfl (clone_ct (il := il + 2) hl hcs hbn hn)) ?_
  rintro _ _ ⟨s, rfl, hs1, hs2, hs3, rfl⟩
  refine at_d rfl rfl (opr_call rfl rfl rfl Tryd.func35 (by kernel_rfl) rfl (ct_frame (iz := 1) (idx := [0, jo + 3, jr + 3]) (L := [⟨s.g, 5, s.cs⟩, ⟨0, To, EE [qq]⟩, ⟨1, Tr, W ((digs 18446744073709551616 4 r448))⟩]) rfl (by simp only [List.nodup_cons, List.mem_cons, List.not_mem_nil, or_false, not_or, not_false_eq_true, List.nodup_nil, and_true] <;> omega) rfl (idxc rfl (idxc hO (idxc hR idx0))) (fromX_ct (M := []) hs3 hbn hb hs2 hn) (by rintro _ _ ⟨rfl, rfl⟩; exact ⟨_, rfl, rfl, rfl⟩))) ?_
  refine at_nil ?_
  refine at_then ?_
  refine at_seq ?_
  refine at_region ?_
  refine at_d rfl rfl (opr_load (i := 1) rfl rfl rfl Tryd.underlying42 rfl size42 (E_length _) (EE_at (k := 0) rfl rfl rfl)) ?_
  refine at_d rfl rfl (opr_store (i := 2) rfl rfl rfl rfl rfl size22 (E_length _) (by rw [EE_length]; exact Nat.le_of_ble_eq_true rfl) (E_flat _) (EE_set (k := 0) (Nat.le_of_ble_eq_true rfl) rfl)) ?_
  refine at_nil ?_
  refine at_then ?_
  refine at_ret ?_
  refine done_of (res1 Tryd.results22 (res_cell (i := 2) rfl rfl Tryd.underlying22 rfl size22 (E_length _) (EE_at (k := 0) rfl rfl rfl))) ⟨rfl, rfl⟩ (by repeat (first | exact List.Sublist.refl _ | apply List.Sublist.cons))
theorem iFromW_ct {M : Mem} {jo To : Nat} (hO : M[jo]? = some ⟨0, To, EE [qq]⟩) {jr Tr : Nat} (hR : M[jr]? = some ⟨1, Tr, W (digs 18446744073709551616 4 r448)⟩) (hjr : jo ≠ jr) {gl off n c : Nat} {bs : List Nat} (hbn : bs.length = n) (hb : ∀ d ∈ bs, d < 256) (hn : n ≤ 200) : CtW Tryd.prog 22 #[.slice (some ⟨gl, off, none⟩) n c] gl off (bs.map u8V) M (Det (.agg (E (dval 256 bs % qq)).toArray) M) := by
  refine ct_ofW (vs := [.slice (some ⟨gl, off, none⟩) n c]) Tryd.func22 rfl Tryd.ntmps22 rfl fun w0 hro => ?_
  refine at_seq ?_
  refine at_region ?_
  refine at_n rfl rfl (opr_alloc rfl zero22 rfl) ?_
  intro g0
  refine at_nil ?_
  refine at_then ?_
  refine at_seq ?_
  refine at_region ?_
  refine at_n rfl rfl (opr_alloc rfl zero42 rfl) ?_
  intro g1
  refine at_nil ?_
  refine at_then ?_
  refine at_seq ?_
  refine at_region ?_
  refine at_d rfl rfl (opr_move rfl rfl) ?_
  refine at_cW hro rfl rfl (opr_callW rfl rfl rfl Tryd.func36 (by kernel_rfl) rfl (cloneW_ct hbn hn)) ?_
  rintro _ _ ⟨s, rfl, hs1, hs2, hs3, rfl⟩
  refine at_d rfl rfl (opr_call rfl rfl rfl Tryd.func35 (by kernel_rfl) rfl (ct_frame (iz := 1) (idx := [0, jo + 3, jr + 3]) (L := [⟨s.g, 5, s.cs⟩, ⟨0, To, EE [qq]⟩, ⟨1, Tr, W ((digs 18446744073709551616 4 r448))⟩]) rfl (by simp only [List.nodup_cons, List.mem_cons, List.not_mem_nil, or_false, not_or, not_false_eq_true, List.nodup_nil, and_true] <;> omega) rfl (idxc rfl (idxc hO (idxc hR idx0))) (fromX_ct (M := []) hs3 hbn hb hs2 hn) (by rintro _ _ ⟨rfl, rfl⟩; exact ⟨_, rfl, rfl, rfl⟩))) ?_
  refine at_nil ?_
  refine at_then ?_
  refine at_seq ?_
  refine at_region ?_
  refine at_d rfl rfl (opr_load (i := 1) rfl rfl rfl Tryd.underlying42 rfl size42 (E_length _) (EE_at (k := 0) rfl rfl rfl)) ?_
  refine at_d rfl rfl (opr_store (i := 2) rfl rfl rfl rfl rfl size22 (E_length _) (by rw [EE_length]; exact Nat.le_of_ble_eq_true rfl) (E_flat _) (EE_set (k := 0) (Nat.le_of_ble_eq_true rfl) rfl)) ?_
  refine at_nil ?_
  refine at_then ?_
  refine at_ret ?_
  refine done_of (res1 Tryd.results22 (res_cell (i := 2) rfl rfl Tryd.underlying22 rfl size22 (E_length _) (EE_at (k := 0) rfl rfl rfl))) ⟨rfl, rfl⟩ (by repeat (first | exact List.Sublist.refl _ | apply List.Sublist.cons))
theorem iFromE_ct {M : Mem} {ad : Addr} {c : Nat} : Ct Tryd.prog 22 #[.slice (some ad) 0 c] M (Det (.agg (E (0)).toArray) M) := by
  refine ct_of (vs := [.slice (some ad) 0 c]) Tryd.func22 rfl Tryd.ntmps22 rfl fun w0 => ?_
  refine at_seq ?_
  refine at_region ?_
  refine at_n rfl rfl (opr_alloc rfl zero22 rfl) ?_
  intro g0
  refine at_nil ?_
  refine at_then ?_
  refine at_seq ?_
  refine at_region ?_
  refine at_n rfl rfl (opr_alloc rfl zero42 rfl) ?_
  intro g1
  refine at_nil ?_
  refine at_then ?_
  refine at_seq ?_
  refine at_region ?_
  refine at_d rfl rfl (opr_move rfl rfl) ?_
  refine at_c rfl rfl (opr_call rfl rfl rfl Tryd.func36 (by kernel_rfl) rfl (cloneE_ct)) ?_
  rintro _ _ ⟨g, rfl, rfl⟩
  refine at_d rfl rfl (opr_call rfl rfl rfl Tryd.func35 (by kernel_rfl) rfl (ct_frame (iz := 1) (idx := []) (L := []) rfl (by simp only [List.nodup_cons, List.mem_cons, List.not_mem_nil, or_false, not_or, not_false_eq_true, List.nodup_nil, and_true] <;> omega) rfl idx0 (from0_ct (M := [])) (by rintro _ _ ⟨rfl, rfl⟩; exact ⟨_, rfl, rfl, rfl⟩))) ?_
  refine at_nil ?_
  refine at_then ?_
  refine at_seq ?_
  refine at_region ?_
  refine at_d rfl rfl (opr_load (i := 1) rfl rfl rfl Tryd.underlying42 rfl size42 (E_length _) (EE_at (k := 0) rfl rfl rfl)) ?_
  refine at_d rfl rfl (opr_store (i := 2) rfl rfl rfl rfl rfl size22 (E_length _) (by rw [EE_length]; exact Nat.le_of_ble_eq_true rfl) (E_flat _) (EE_set (k := 0) (Nat.le_of_ble_eq_true rfl) rfl)) ?_
  refine at_nil ?_
  refine at_then ?_
  refine at_ret ?_
  refine done_of (res1 Tryd.results22 (res_cell (i := 2) rfl rfl Tryd.underlying22 rfl size22 (E_length _) (EE_at (k := 0) rfl rfl rfl))) ⟨rfl, rfl⟩ (by repeat (first | exact List.Sublist.refl _ | apply List.Sublist.cons))
theorem iFromN_ct {M : Mem} : Ct Tryd.prog 22 #[.slice none 0 0] M (Det (.agg (E (0)).toArray) M) := by
  refine ct_of (vs := [.slice none 0 0]) Tryd.func22 rfl Tryd.ntmps22 rfl fun w0 => ?_
  refine at_seq ?_
  refine at_region ?_
  refine at_n rfl rfl (opr_alloc rfl zero22 rfl) ?_
  intro g0
  refine at_nil ?_
  refine at_then ?_
  refine at_seq ?_
  refine at_region ?_
  refine at_n rfl rfl (opr_alloc rfl zero42 rfl) ?_
  intro g1
  refine at_nil ?_
  refine at_then ?_
  refine at_seq ?_
  refine at_region ?_
  refine at_d rfl rfl (opr_move rfl rfl) ?_
  refine at_d rfl rfl (opr_call rfl rfl rfl Tryd.func36 (by kernel_rfl) rfl (cloneN_ct)) ?_
  refine at_d rfl rfl (opr_call rfl rfl rfl Tryd.func35 (by kernel_rfl) rfl (ct_frame (iz := 0) (idx := []) (L := []) rfl (by simp only [List.nodup_cons, List.mem_cons, List.not_mem_nil, or_false, not_or, not_false_eq_true, List.nodup_nil, and_true] <;> omega) rfl idx0 (from0_ct (M := [])) (by rintro _ _ ⟨rfl, rfl⟩; exact ⟨_, rfl, rfl, rfl⟩))) ?_
  refine at_nil ?_
  refine at_then ?_
  refine at_seq ?_
  refine at_region ?_
  refine at_d rfl rfl (opr_load (i := 0) rfl rfl rfl Tryd.underlying42 rfl size42 (E_length _) (EE_at (k := 0) rfl rfl rfl)) ?_
  refine at_d rfl rfl (opr_store (i := 1) rfl rfl rfl rfl rfl size22 (E_length _) (by rw [EE_length]; exact Nat.le_of_ble_eq_true rfl) (E_flat _) (EE_set (k := 0) (Nat.le_of_ble_eq_true rfl) rfl)) ?_
  refine at_nil ?_
  refine at_then ?_
  refine at_ret ?_
  refine done_of (res1 Tryd.results22 (res_cell (i := 1) rfl rfl Tryd.underlying22 rfl size22 (E_length _) (EE_at (k := 0) rfl rfl rfl))) ⟨rfl, rfl⟩ (by repeat (first | exact List.Sublist.refl _ | apply List.Sublist.cons))
end Go.Proofs.YtflbkfjemmmipaaDoor
