/- The reference's digits and bytes. -/
import Derived.Test.YtoagfplhcimghaaRefR
import Derived.Test.YtoagfplhcimghaaAppend
import Derived.Great.BuildSlice
import Derived.Test.YtoagfplhcimghaaNN
namespace Go.Proofs.Ytoagfplhcimghaa
open Go
set_option maxRecDepth 100000

theorem opr_buildSliceV {P : Program} {St : Slots} {M : Mem} {o : Oper} {T e n s : Nat} {ps : List (Nat × Operand)} {vs : List (Nat × Value)} {zv : Value} {cs : List Value} (ho : o.op = .buildSlice T n ps.toArray) (hps : evalP St ps = some vs) (hu : P.underlying T = some (.slice e)) (hi' : (P.info? e).map (fun i => (i.size, i.zero)) = some (s, some zv)) (hsm : ¬ n * s > 2 ^ 24) (hpos : ¬ n * s = 0)
    (hz : ((Array.range (n * s)).map (zv.cells[· % zv.cells.size]!)).toList = cs) {ds : List Value} (h : Instr.fill (fun i => some (i * s, s)) cs.toArray vs = some ds.toArray) :
    OpR P St M o (fun v M' => ∃ g, v = .slice (some ⟨g, 0, none⟩) n n ∧ M' = ⟨g, e, ds⟩ :: M) := by
  obtain ⟨i, hi, h3⟩ := Option.map_eq_some_iff.1 hi'
  simp only [Prod.mk.injEq] at h3
  obtain ⟨hs, hzz⟩ := h3
  subst hs
  intro ρ w0 S w hρ hw
  have e0 : (ps.toArray.map fun (i, x) => (i, ρ x)) = vs.toArray := by
    rw [List.map_toArray]; exact congrArg _ (evalP_map hρ _ _ hps)
  have hr := run_buildSlice (P := P) w T e n vs.toArray ds.toArray i zv hu hi hzz hsm hpos (by
    have e1 : (Array.range (n * i.size)).map (zv.cells[· % zv.cells.size]!) = cs.toArray := by
      rw [← hz]
    rw [e1]; exact h)
  have : (execOp ρ o).run P w = .ok (.value (.slice (some ⟨w.heap.size, 0, none⟩) n n)) (w.alloc (.cells ds.toArray e)) := by
    simp only [execOp, ho, e0, Sem.run_bind, hr, Result.andThen_ok, Sem.run_pure]
  rw [this]
  exact ⟨_, ⟨_, rfl, rfl⟩, hw.alloc e ds⟩
/-- Digits so far, and what is carried. -/
structure CarI (l : List Nat) (k c : Nat) (s : Sl) (r : List Nat) : Prop where
  len : r.length = k
  cs : s.cs.length = s.cap
  cap : k ≤ s.cap
  tk : s.cs.take k = W r
  lt : ∀ d ∈ r, d < 65536
  val : dval 65536 r + 65536 ^ k * c = dval 65536 l
theorem dval_snoc (b : Nat) (l : List Nat) (d : Nat) : dval b (l ++ [d]) = dval b l + b ^ l.length * d := by rw [dval_append]; simp [dval]
theorem dval_take1 {l : List Nat} {k d : Nat} (h : l[k]? = some d) : dval 65536 (l.take (k + 1)) = dval 65536 (l.take k) + 65536 ^ k * d := by
  have hk : k < l.length := (List.getElem?_eq_some_iff.1 h).1
  rw [List.take_add_one, h, Option.toList_some, dval_snoc]
  congr 3
  simp; omega
theorem car_digit {l : List Nat} {k c d : Nat} {s s' : Sl} {r : List Nat} (h : CarI (l.take k) k c s r) (hd : l[k]? = some d) (hcs : s'.cs.length = s'.cap) (hcap : k + 1 ≤ s'.cap) (htk : s'.cs.take (k + 1) = s.cs.take k ++ [.int .u64 (((c + d) % 65536 : Nat) : Int)]) :
    CarI (l.take (k + 1)) (k + 1) ((c + d) / 65536) s' (r ++ [(c + d) % 65536]) := by
  refine ⟨by simp [h.len], hcs, hcap, by rw [htk, h.tk]; simp [W, u64V], fun x hx => ?_, ?_⟩
  · rcases List.mem_append.1 hx with hx | hx
    · exact h.lt x hx
    · rw [List.mem_singleton.1 hx]; exact Nat.mod_lt _ (by decide)
  · rw [dval_snoc, h.len, dval_take1 hd, ← h.val, Nat.pow_succ, Nat.mul_assoc, Nat.add_assoc, Nat.add_assoc, ← Nat.mul_add, ← Nat.mul_add, Nat.mod_add_div]
theorem car_more {l : List Nat} {k c : Nat} {s s' : Sl} {r : List Nat} (h : CarI l k c s r) (hcs : s'.cs.length = s'.cap) (hcap : k + 1 ≤ s'.cap) (htk : s'.cs.take (k + 1) = s.cs.take k ++ [.int .u64 ((c % 65536 : Nat) : Int)]) :
    CarI l (k + 1) (c / 65536) s' (r ++ [c % 65536]) := by
  refine ⟨by simp [h.len], hcs, hcap, by rw [htk, h.tk]; simp [W, u64V], fun x hx => ?_, ?_⟩
  · rcases List.mem_append.1 hx with hx | hx
    · exact h.lt x hx
    · rw [List.mem_singleton.1 hx]; exact Nat.mod_lt _ (by decide)
  · rw [dval_snoc, h.len, ← h.val, Nat.pow_succ, Nat.mul_assoc, Nat.add_assoc, ← Nat.mul_add, Nat.mod_add_div]
theorem car_last {l : List Nat} {k c : Nat} {s : Sl} {r : List Nat} (h : CarI l (k + 1) c s r) : s.cs[k]? = some (.int .u64 ((r.getD k 0 : Nat) : Int)) := by
  have e : (s.cs.take (k + 1))[k]? = s.cs[k]? := List.getElem?_take_of_lt (by omega)
  have hk : k < r.length := by rw [h.len]; omega
  rw [← e, h.tk, W, List.getElem?_map, List.getElem?_eq_getElem hk, List.getD_eq_getElem?_getD, List.getElem?_eq_getElem hk]; rfl
theorem car_less {l : List Nat} {k : Nat} {s : Sl} {r : List Nat} (h : CarI l (k + 1) 0 s r) (h0 : r.getD k 0 = 0) : CarI l k 0 s (r.take k) := by
  have hk : k < r.length := by rw [h.len]; omega
  have hr : r = r.take k ++ [0] := by
    have e := List.take_append_drop k r
    have e2 : r.drop k = [0] := by
      rw [List.drop_eq_getElem_cons hk]
      rw [List.getD_eq_getElem?_getD, List.getElem?_eq_getElem hk] at h0
      simp only [Option.getD_some] at h0
      rw [h0, List.drop_of_length_le (by rw [h.len]; omega)]
    rw [← e2]; exact e.symm
  have hl : (r.take k).length = k := by simp; omega
  refine ⟨hl, h.cs, Nat.le_of_succ_le h.cap, ?_, fun d hd => h.lt d (List.mem_of_mem_take hd), ?_⟩
  · have e : s.cs.take k = (s.cs.take (k + 1)).take k := by rw [List.take_take]; congr 1; omega
    rw [e, h.tk]
    simp only [W, List.map_take]
  · have v := h.val
    rw [hr, dval_snoc, hl] at v
    simpa using v
/-- Bytes of digits. -/
structure BytI (r : List Nat) (k : Nat) (s : Sl) (bs : List Nat) : Prop where
  len : bs.length = 2 * k
  cs : s.cs.length = s.cap
  cap : 2 * k ≤ s.cap
  tk : s.cs.take (2 * k) = bs.map u8V
  lt : ∀ b ∈ bs, b < 256
  val : dval 256 bs = dval 65536 (r.take k)
theorem byt_next {r : List Nat} {k d : Nat} {s s' : Sl} {bs : List Nat} (h : BytI r k s bs) (hd : r[k]? = some d) (hlt : d < 65536) (hcs : s'.cs.length = s'.cap) (hcap : 2 * k + 2 ≤ s'.cap) (htk : s'.cs.take (2 * k + 2) = s.cs.take (2 * k) ++ [.int .u8 ((d % 256 : Nat) : Int), .int .u8 ((d / 2 ^ 8 % 256 : Nat) : Int)]) :
    BytI r (k + 1) s' (bs ++ [d % 256, d / 2 ^ 8 % 256]) := by
  refine ⟨by simp [h.len]; omega, hcs, hcap, by rw [show 2 * (k + 1) = 2 * k + 2 by omega, htk, h.tk]; simp [u8V], fun x hx => ?_, ?_⟩
  · rcases List.mem_append.1 hx with hx | hx
    · exact h.lt x hx
    · rcases List.mem_cons.1 hx with rfl | hx
      · exact Nat.mod_lt _ (by decide)
      · rw [List.mem_singleton.1 hx]; exact Nat.mod_lt _ (by decide)
  · rw [dval_append, h.val, h.len, dval_take1 hd]
    have e : (256 : Nat) ^ (2 * k) = 65536 ^ k := by rw [Nat.pow_mul]
    rw [e]
    congr 2
    simp only [dval]
    omega
theorem carried_ct {M : Mem} {il gl Tl n cc : Nat} {l : List Nat} (hl : M[il]? = some ⟨gl, Tl, W l⟩) (hn : l.length = n) (hn2 : n ≤ 1000) (hl40 : ∀ d ∈ l, d ≤ 4398046511104) : Ct Try.prog 17 #[.slice (some ⟨gl, 0, none⟩) n cc] M (fun v M' => ∃ s r k, v = .slice (some ⟨s.g, 0, none⟩) k s.cap ∧ k ≤ 134218728 ∧ CarI l k 0 s r ∧ M' = ⟨s.g, 25, s.cs⟩ :: M) := by
  refine ct_of (vs := [.slice (some ⟨gl, 0, none⟩) n cc]) Try.func17 rfl Try.ntmps17 rfl fun w0 => ?_
  refine at_seq ?_
  refine at_region ?_
  refine at_d rfl rfl (opr_assign rfl rfl) ?_
  refine at_nil ?_
  refine at_then ?_
  refine at_seq ?_
  refine at_region ?_
  refine at_c rfl rfl (opr_buildSlice0 rfl Try.underlying46 size25) ?_
  rintro _ _ ⟨gE, rfl, rfl⟩
  refine at_d rfl rfl (opr_assign rfl rfl) ?_
  refine at_nil ?_
  refine at_then ?_
  refine at_seq ?_
  refine at_region ?_
  refine at_d rfl rfl (opr_assign rfl rfl) ?_
  refine at_nil ?_
  refine at_then ?_
  refine at_seq ?_
  refine at_seq ?_
  refine at_region ?_
  refine at_d rfl rfl (opr_move rfl rfl) ?_
  refine at_d rfl rfl (opr_lenS rfl rfl Try.underlying46) ?_
  refine at_d rfl rfl (opr_move rfl rfl) ?_
  refine at_nil ?_
  refine at_then ?_
  refine at_block ?_
  refine at_loop3 (fun (x : Nat) (y : Nat) (z : Sl) => [(3, .slice (some ⟨z.g, 0, none⟩) x z.cap), (4, .int .u64 (y : Int)), (8, .slice (some ⟨gl, 0, none⟩) n cc), (9, .int .i64 (n : Int)), (10, .int .i64 (x : Int))]) (fun (x : Nat) (y : Nat) (z : Sl) => ⟨z.g, 25, z.cs⟩ :: M) (fun (x : Nat) (y : Nat) (z : Sl) => n - x) (fun (x : Nat) (y : Nat) (z : Sl) => x ≤ n ∧ y ≤ 134217728 ∧ ∃ r, CarI (l.take x) x y z r) 0 0 ⟨gE, 0, []⟩ ⟨Nat.zero_le _, Nat.zero_le _, [], ⟨rfl, rfl, Nat.le_refl _, rfl, by simp, rfl⟩⟩ (allIn ⟨rfl, rfl, rfl, rfl, rfl, trivial⟩) (List.Sublist.refl _) ?_
  rintro k c s ⟨hk, hc, r, hI⟩
  dsimp only
  refine at_seq ?_
  refine at_region ?_
  refine at_d rfl rfl (opr_lss (a := k) (b := n) rfl rfl rfl) ?_
  refine at_nil ?_
  refine at_then ?_
  refine at_seq ?_
  refine at_cond rfl (fun ht => ?_) (fun ht => ?_)
  ·
    have hlt : k < n := of_decide_eq_true ht
    obtain ⟨d, hd⟩ : ∃ d, l[k]? = some d := ⟨_, List.getElem?_eq_getElem (by omega)⟩
    have hdl := hl40 d (List.mem_of_getElem? hd)
    refine at_skip ?_
    refine at_then ?_
    refine at_seq ?_
    refine at_block ?_
    refine at_seq ?_
    refine at_region ?_
    refine at_d rfl rfl (opr_indexAddrS (j := k) (off' := k) rfl rfl rfl Try.underlying46 hlt size25 (by omega)) ?_
    refine at_d rfl rfl (opr_load1 (i := il + 1) rfl rfl hl Try.underlying25 rfl (W_get hd)) ?_
    refine at_d rfl rfl (opr_assign rfl rfl) ?_
    refine at_nil ?_
    refine at_then ?_
    refine at_seq ?_
    refine at_region ?_
    refine at_d rfl rfl (opr_move rfl rfl) ?_
    refine at_d rfl rfl (opr_move rfl rfl) ?_
    refine at_d rfl rfl (opr_eq' (opr_add64 (a := c) (b := d) rfl rfl rfl) (u64_eq' (Nat.mod_eq_of_lt (by omega)))) ?_
    refine at_d rfl rfl (opr_assign rfl rfl) ?_
    refine at_nil ?_
    refine at_then ?_
    refine at_seq ?_
    refine at_region ?_
    refine at_d rfl rfl (opr_move rfl rfl) ?_
    refine at_d rfl rfl (opr_move rfl rfl) ?_
    refine at_d rfl rfl (opr_rem64 rfl rfl rfl (by decide)) ?_
    refine at_c rfl rfl (opr_buildSliceV (s := 1) (zv := (.int .u64 0)) (cs := [.int .u64 0]) (ds := [.int .u64 (((c + d) % 65536 : Nat) : Int)]) rfl rfl Try.underlying46 (by kernel_rfl) (by decide) (by decide) (by kernel_rfl) rfl) ?_
    rintro _ _ ⟨gV, rfl, rfl⟩
    refine at_c rfl rfl (opr_append (z := (.int .u64 0)) (i := 1) (j := 0) (news := [.int .u64 (((c + d) % 65536 : Nat) : Int)]) rfl rfl rfl rfl hI.cs hI.cap rfl rfl rfl (by intro v hv; rw [List.mem_singleton.1 hv]; rfl) Try.underlying46 (by kernel_rfl) rfl (by kernel_rfl) (by omega)) ?_
    rintro _ _ ⟨s', rfl, hcs', hcap', htk', rfl⟩
    refine at_d rfl rfl (opr_assign rfl rfl) ?_
    refine at_nil ?_
    refine at_then ?_
    refine at_region ?_
    refine at_d rfl rfl (opr_move rfl rfl) ?_
    refine at_d rfl rfl (opr_quo64 rfl rfl rfl (by decide) (by omega)) ?_
    refine at_d rfl rfl (opr_assign rfl rfl) ?_
    refine at_nil ?_
    refine at_inBlock_normal ?_
    refine at_then ?_
    refine at_region ?_
    refine at_d rfl rfl (opr_addI (a := k) (b := 1) rfl rfl rfl (by omega)) ?_
    refine at_d rfl rfl (opr_move rfl rfl) ?_
    refine at_nil ?_
    exact at_round3 (k + 1) ((c + d) / 65536) s' ⟨by omega, by omega, _, car_digit hI hd hcs' hcap' htk'⟩ (by omega) (allIn ⟨rfl, rfl, rfl, rfl, rfl, trivial⟩) (by repeat (first | exact List.Sublist.refl _ | apply List.Sublist.cons_cons | apply List.Sublist.cons))
  ·
    obtain rfl : n = k := by have := of_decide_eq_false ht; omega
    rw [List.take_of_length_le (by omega)] at hI
    refine at_exit ?_
    refine at_then_exit ?_
    refine at_then_exit ?_
    refine at_inBlock_same ?_
    refine at_then ?_
    refine at_seq ?_
    refine at_block ?_
    refine at_loop3 (fun (x : Nat) (y : Nat) (z : Sl) => [(3, .slice (some ⟨z.g, 0, none⟩) x z.cap), (4, .int .u64 (y : Int))]) (fun (x : Nat) (y : Nat) (z : Sl) => ⟨z.g, 25, z.cs⟩ :: M) (fun (x : Nat) (y : Nat) (z : Sl) => y) (fun (x : Nat) (y : Nat) (z : Sl) => x + y ≤ n + 134217728 ∧ y ≤ 134217728 ∧ ∃ r, CarI l x y z r) _ _ _ ⟨by omega, hc, _, hI⟩ (allIn ⟨rfl, rfl, trivial⟩) (List.Sublist.refl _) ?_
    rintro k c s ⟨hk, hc, r, hI⟩
    dsimp only
    refine at_seq ?_
    refine at_seq ?_
    refine at_region ?_
    refine at_d rfl rfl (opr_move rfl rfl) ?_
    refine at_d rfl rfl (opr_gtr (a := c) (b := 0) rfl rfl rfl) ?_
    refine at_nil ?_
    refine at_then ?_
    refine at_cond rfl (fun ht => ?_) (fun ht => ?_)
    ·
      have hpos : 0 < c := of_decide_eq_true ht
      refine at_skip ?_
      refine at_then ?_
      refine at_seq ?_
      refine at_block ?_
      refine at_region ?_
      refine at_d rfl rfl (opr_move rfl rfl) ?_
      refine at_d rfl rfl (opr_move rfl rfl) ?_
      refine at_d rfl rfl (opr_rem64 rfl rfl rfl (by decide)) ?_
      refine at_c rfl rfl (opr_buildSliceV (s := 1) (zv := (.int .u64 0)) (cs := [.int .u64 0]) (ds := [.int .u64 ((c % 65536 : Nat) : Int)]) rfl rfl Try.underlying46 (by kernel_rfl) (by decide) (by decide) (by kernel_rfl) rfl) ?_
      rintro _ _ ⟨gV, rfl, rfl⟩
      refine at_c rfl rfl (opr_append (z := (.int .u64 0)) (i := 1) (j := 0) (news := [.int .u64 ((c % 65536 : Nat) : Int)]) rfl rfl rfl rfl hI.cs hI.cap rfl rfl rfl (by intro v hv; rw [List.mem_singleton.1 hv]; rfl) Try.underlying46 (by kernel_rfl) rfl (by kernel_rfl) (by omega)) ?_
      rintro _ _ ⟨s', rfl, hcs', hcap', htk', rfl⟩
      refine at_d rfl rfl (opr_assign rfl rfl) ?_
      refine at_nil ?_
      refine at_inBlock_normal ?_
      refine at_then ?_
      refine at_region ?_
      refine at_d rfl rfl (opr_move rfl rfl) ?_
      refine at_d rfl rfl (opr_quo64 rfl rfl rfl (by decide) (by omega)) ?_
      refine at_d rfl rfl (opr_assign rfl rfl) ?_
      refine at_nil ?_
      exact at_round3 (k + 1) (c / 65536) s' ⟨by omega, by omega, _, car_more hI hcs' hcap' htk'⟩ (by omega) (allIn ⟨rfl, rfl, trivial⟩) (by repeat (first | exact List.Sublist.refl _ | apply List.Sublist.cons_cons | apply List.Sublist.cons))
    ·
      obtain rfl : c = 0 := by have := of_decide_eq_false ht; omega
      refine at_exit ?_
      refine at_then_exit ?_
      refine at_then_exit ?_
      refine at_inBlock_same ?_
      refine at_then ?_
      refine at_seq ?_
      refine at_block ?_
      refine at_loop2 (fun (x : Nat) (y : Sl) => [(3, .slice (some ⟨y.g, 0, none⟩) x y.cap)]) (fun (x : Nat) (y : Sl) => ⟨y.g, 25, y.cs⟩ :: M) (fun (x : Nat) (y : Sl) => x) (fun (x : Nat) (y : Sl) => x ≤ n + 134217728 ∧ ∃ r, CarI l x 0 y r) _ _ ⟨by omega, _, hI⟩ (allIn ⟨rfl, trivial⟩) (List.Sublist.refl _) ?_
      rintro k s ⟨hk, r, hI⟩
      dsimp only
      refine at_seq ?_
      refine at_seq ?_
      rcases Nat.eq_zero_or_pos k with rfl | hkp
      ·
        refine at_region ?_
        refine at_d rfl rfl (opr_move rfl rfl) ?_
        refine at_d rfl rfl (opr_lenS rfl rfl Try.underlying46) ?_
        refine at_d rfl rfl (opr_gtr (a := 0) (b := 0) rfl rfl rfl) ?_
        refine at_d rfl rfl (opr_move rfl rfl) ?_
        refine at_op_skip rfl rfl ?_
        refine at_op_skip rfl rfl ?_
        refine at_op_skip rfl rfl ?_
        refine at_op_skip rfl rfl ?_
        refine at_op_skip rfl rfl ?_
        refine at_op_skip rfl rfl ?_
        refine at_op_skip rfl rfl ?_
        refine at_d rfl rfl (opr_pickN rfl rfl rfl) ?_
        refine at_nil ?_
        refine at_then ?_
        refine at_cond_false rfl ?_
        refine at_exit ?_
        refine at_then_exit ?_
        refine at_then_exit ?_
        refine at_inBlock_same ?_
        refine at_then ?_
        refine at_seq ?_
        refine at_region ?_
        refine at_d rfl rfl (opr_move rfl rfl) ?_
        refine at_d rfl rfl (opr_assign rfl rfl) ?_
        refine at_nil ?_
        refine at_then ?_
        refine at_ret ?_
        exact done_of (res1 Try.results17 (res_tmp rfl)) ⟨s, r, _, rfl, by omega, hI, rfl⟩ (by repeat (first | exact List.Sublist.refl _ | apply List.Sublist.cons_cons | apply List.Sublist.cons))
      ·
        obtain ⟨k, rfl⟩ : ∃ m, k = m + 1 := ⟨k - 1, by omega⟩
        refine at_region ?_
        refine at_d rfl rfl (opr_move rfl rfl) ?_
        refine at_d rfl rfl (opr_lenS rfl rfl Try.underlying46) ?_
        refine at_d rfl rfl (opr_eq' (v' := .bool true) (opr_gtr (a := k + 1) (b := 0) rfl rfl rfl) (congrArg Value.bool (decide_eq_true (Nat.succ_pos _)))) ?_
        refine at_d rfl rfl (opr_move rfl rfl) ?_
        refine at_d rfl rfl (opr_move rfl rfl) ?_
        refine at_d rfl rfl (opr_move rfl rfl) ?_
        refine at_d rfl rfl (opr_lenS rfl rfl Try.underlying46) ?_
        refine at_d rfl rfl (opr_subI (a := k + 1) (b := 1) rfl rfl rfl (by omega) (by omega)) ?_
        refine at_d rfl rfl (opr_indexAddrS (j := k) (off' := k) rfl rfl rfl Try.underlying46 (by omega) size25 (by omega)) ?_
        refine at_d rfl rfl (opr_load1 (i := 0) rfl rfl rfl Try.underlying25 rfl (car_last hI)) ?_
        refine at_d rfl rfl (opr_eql (a := r.getD k 0) (b := 0) rfl rfl rfl) ?_
        refine at_d rfl rfl (opr_pickT rfl rfl rfl) ?_
        refine at_nil ?_
        refine at_then ?_
        refine at_cond rfl (fun ht => ?_) (fun ht => ?_)
        ·
          have h0 : r.getD k 0 = 0 := of_decide_eq_true ht
          refine at_skip ?_
          refine at_then ?_
          refine at_block ?_
          refine at_region ?_
          refine at_d rfl rfl (opr_move rfl rfl) ?_
          refine at_d rfl rfl (opr_move rfl rfl) ?_
          refine at_d rfl rfl (opr_lenS rfl rfl Try.underlying46) ?_
          refine at_d rfl rfl (opr_subI (a := k + 1) (b := 1) rfl rfl rfl (by omega) (by omega)) ?_
          refine at_d rfl rfl (opr_sliceSHi (b := k) rfl rfl rfl Try.underlying46 size25 (Nat.le_of_succ_le hI.cap) (Nat.lt_of_lt_of_le (Nat.succ_pos _) hI.cap)) ?_
          refine at_d rfl rfl (opr_assign rfl rfl) ?_
          refine at_nil ?_
          refine at_inBlock_normal ?_
          exact at_round2 k s ⟨by omega, _, car_less hI h0⟩ (by omega) (allIn ⟨rfl, trivial⟩) (by repeat (first | exact List.Sublist.refl _ | apply List.Sublist.cons_cons | apply List.Sublist.cons))
        ·
          refine at_exit ?_
          refine at_then_exit ?_
          refine at_then_exit ?_
          refine at_inBlock_same ?_
          refine at_then ?_
          refine at_seq ?_
          refine at_region ?_
          refine at_d rfl rfl (opr_move rfl rfl) ?_
          refine at_d rfl rfl (opr_assign rfl rfl) ?_
          refine at_nil ?_
          refine at_then ?_
          refine at_ret ?_
          exact done_of (res1 Try.results17 (res_tmp rfl)) ⟨s, r, _, rfl, by omega, hI, rfl⟩ (by repeat (first | exact List.Sublist.refl _ | apply List.Sublist.cons_cons | apply List.Sublist.cons))
theorem bytesOf_ct {M : Mem} {il gl Tl n cc : Nat} {l : List Nat} (hl : M[il]? = some ⟨gl, Tl, W l⟩) (hn : l.length = n) (hn2 : n ≤ 1000) (hl40 : ∀ d ∈ l, d ≤ 4398046511104) : Ct Try.prog 14 #[.slice (some ⟨gl, 0, none⟩) n cc] M (fun v M' => ∃ (s : Sl) (bs : List Nat), v = .slice (some ⟨s.g, 0, none⟩) bs.length s.cap ∧ bs.length ≤ 400000000 ∧ s.cs.take bs.length = bs.map u8V ∧ (∀ b ∈ bs, b < 256) ∧ dval 256 bs = dval 65536 l ∧ M' = ⟨s.g, 5, s.cs⟩ :: M) := by
  refine ct_of (vs := [.slice (some ⟨gl, 0, none⟩) n cc]) Try.func14 rfl Try.ntmps14 rfl fun w0 => ?_
  refine at_seq ?_
  refine at_region ?_
  refine at_d rfl rfl (opr_assign rfl rfl) ?_
  refine at_nil ?_
  refine at_then ?_
  refine at_seq ?_
  refine at_region ?_
  refine at_c rfl rfl (opr_buildSlice0 rfl Try.underlying44 size5) ?_
  rintro _ _ ⟨gE, rfl, rfl⟩
  refine at_d rfl rfl (opr_assign rfl rfl) ?_
  refine at_nil ?_
  refine at_then ?_
  refine at_seq ?_
  refine at_seq ?_
  refine at_region ?_
  refine at_d rfl rfl (opr_move rfl rfl) ?_
  refine at_c rfl rfl (opr_call rfl rfl rfl Try.func17 (by kernel_rfl) rfl (carried_ct (il := il + 1) hl hn hn2 hl40)) ?_
  rintro _ _ ⟨q, r, nr, rfl, hnr, hI, rfl⟩
  refine at_d rfl rfl (opr_lenS rfl rfl Try.underlying46) ?_
  refine at_d rfl rfl (opr_move rfl rfl) ?_
  refine at_nil ?_
  refine at_then ?_
  refine at_block ?_
  refine at_perm (List.Perm.swap _ _ _) ?_
  refine at_loop2 (fun (x : Nat) (y : Sl) => [(3, .slice (some ⟨y.g, 0, none⟩) (2 * x) y.cap), (8, .slice (some ⟨q.g, 0, none⟩) nr q.cap), (9, .int .i64 (nr : Int)), (10, .int .i64 (x : Int))]) (fun (x : Nat) (y : Sl) => ⟨y.g, 5, y.cs⟩ :: ⟨q.g, 25, q.cs⟩ :: M) (fun (x : Nat) (y : Sl) => nr - x) (fun (x : Nat) (y : Sl) => x ≤ nr ∧ ∃ bs, BytI r x y bs) 0 ⟨gE, 0, []⟩ ⟨Nat.zero_le _, [], ⟨rfl, rfl, Nat.le_refl _, rfl, by simp, rfl⟩⟩ (allIn ⟨rfl, rfl, rfl, rfl, trivial⟩) (by repeat (first | exact List.Sublist.refl _ | apply List.Sublist.cons_cons | apply List.Sublist.cons)) ?_
  rintro k s ⟨hk, bs, hB⟩
  dsimp only
  refine at_seq ?_
  refine at_region ?_
  refine at_d rfl rfl (opr_lss (a := k) (b := nr) rfl rfl rfl) ?_
  refine at_nil ?_
  refine at_then ?_
  refine at_seq ?_
  refine at_cond rfl (fun ht => ?_) (fun ht => ?_)
  ·
    have hlt : k < nr := of_decide_eq_true ht
    obtain ⟨d, hd⟩ : ∃ d, r[k]? = some d := ⟨_, List.getElem?_eq_getElem (by rw [hI.len]; exact hlt)⟩
    refine at_skip ?_
    refine at_then ?_
    refine at_seq ?_
    refine at_block ?_
    refine at_seq ?_
    refine at_region ?_
    refine at_d rfl rfl (opr_indexAddrS (j := k) (off' := k) rfl rfl rfl Try.underlying46 hlt size25 (by omega)) ?_
    refine at_d rfl rfl (opr_load1 (i := 1) rfl rfl rfl Try.underlying25 rfl (by rw [← List.getElem?_take_of_lt hlt, hI.tk]; exact W_get hd)) ?_
    refine at_d rfl rfl (opr_assign rfl rfl) ?_
    refine at_nil ?_
    refine at_then ?_
    refine at_region ?_
    refine at_d rfl rfl (opr_move rfl rfl) ?_
    refine at_d rfl rfl (opr_move rfl rfl) ?_
    refine at_d rfl rfl (opr_to8 rfl rfl Try.underlying25 Try.underlying5) ?_
    refine at_d rfl rfl (opr_move rfl rfl) ?_
    refine at_d rfl rfl (opr_shr64 (n := 8) rfl rfl rfl (by decide)) ?_
    refine at_d rfl rfl (opr_to8 rfl rfl Try.underlying25 Try.underlying5) ?_
    refine at_c rfl rfl (opr_buildSliceV (s := 1) (zv := .int .u8 0) (cs := [.int .u8 0, .int .u8 0]) (ds := [.int .u8 ((d % 256 : Nat) : Int), .int .u8 ((d / 2 ^ 8 % 256 : Nat) : Int)]) rfl rfl Try.underlying44 (by kernel_rfl) (by decide) (by decide) (by kernel_rfl) rfl) ?_
    rintro _ _ ⟨gV, rfl, rfl⟩
    refine at_c rfl rfl (opr_append (z := (.int .u8 0)) (i := 1) (j := 0) (news := [.int .u8 ((d % 256 : Nat) : Int), .int .u8 ((d / 2 ^ 8 % 256 : Nat) : Int)]) rfl rfl rfl rfl hB.cs hB.cap rfl rfl rfl (by intro v hv; simp only [List.mem_cons, List.not_mem_nil, or_false] at hv; rcases hv with rfl | rfl <;> rfl) Try.underlying44 (by kernel_rfl) rfl (by kernel_rfl) (by omega)) ?_
    rintro _ _ ⟨s', rfl, hcs', hcap', htk', rfl⟩
    refine at_d rfl rfl (opr_assign rfl rfl) ?_
    refine at_nil ?_
    refine at_inBlock_normal ?_
    refine at_then ?_
    refine at_region ?_
    refine at_d rfl rfl (opr_addI (a := k) (b := 1) rfl rfl rfl (by omega)) ?_
    refine at_d rfl rfl (opr_move rfl rfl) ?_
    refine at_nil ?_
    exact at_round2 (k + 1) s' ⟨by omega, _, byt_next hB hd (hI.lt d (List.mem_of_getElem? hd)) hcs' hcap' htk'⟩ (by omega) (allIn ⟨rfl, rfl, rfl, rfl, trivial⟩) (by repeat (first | exact List.Sublist.refl _ | apply List.Sublist.cons_cons | apply List.Sublist.cons))
  ·
    obtain rfl : k = nr := by have := of_decide_eq_false ht; omega
    refine at_exit ?_
    refine at_then_exit ?_
    refine at_then_exit ?_
    refine at_inBlock_same ?_
    refine at_then ?_
    refine at_seq ?_
    refine at_region ?_
    refine at_d rfl rfl (opr_move rfl rfl) ?_
    refine at_d rfl rfl (opr_assign rfl rfl) ?_
    refine at_nil ?_
    refine at_then ?_
    refine at_ret ?_
    have hv : dval 256 bs = dval 65536 l := by rw [hB.val, List.take_of_length_le (by rw [hI.len]; exact Nat.le_refl _)]; have := hI.val; simpa using this
    exact done_of (res1 Try.results14 (res_tmp rfl)) ⟨s, bs, by rw [hB.len], by rw [hB.len]; omega, by rw [hB.len]; exact hB.tk, hB.lt, hv, rfl⟩ (by repeat (first | exact List.Sublist.refl _ | apply List.Sublist.cons_cons | apply List.Sublist.cons))
end Go.Proofs.Ytoagfplhcimghaa
