/- The thin package's digits. -/
import Derived.Test.YtoagfplhcimghaaNafZ
import Derived.Test.YtoagfplhcimghaaRefS
namespace Go.Proofs.Ytoagfplhcimghaa
open Go
set_option maxRecDepth 100000
theorem size3 : (Try.prog.info? 3).map (·.size) = some 1 := by kernel_rfl
theorem size21 : (Try.prog.info? 21).map (·.size) = some 1 := by kernel_rfl
theorem size39 : (Try.prog.info? 39).map (·.size) = some 56 := by kernel_rfl
theorem zero39 : (Try.prog.info? 39).bind (·.zero) = some (.agg (EE [0]).toArray) := by kernel_rfl
theorem SlI_get {s : Sl} {vs : List Value} {j : Nat} {v : Value} (h : SlI (some s) vs) (hv : vs[j]? = some v) : s.cs[j]? = some v := by
  have hj := (List.getElem?_eq_some_iff.1 hv).1
  rw [← List.getElem?_take_of_lt hj, h.2.2]; exact hv
theorem SlI_app {s s' : Sl} {vs news : List Value} {n m : Nat} (h : SlI (some s) vs) (hn : vs.length = n) (hm : news.length = m) (h1 : s'.cs.length = s'.cap) (h2 : n + m ≤ s'.cap) (h3 : s'.cs.take (n + m) = s.cs.take n ++ news) : SlI (some s') (vs ++ news) := by
  subst hn hm
  refine ⟨h1, by rw [List.length_append]; exact h2, ?_⟩
  rw [List.length_append, h3, h.2.2]
theorem NafC.dlt {w K x j : Nat} {d : Int} (hw16 : w ≤ 16) (h : NafC w K x) (hd : (nafD w K x)[j]? = some d) : -65536 < d ∧ d < 65536 := by
  have hp : 2 ^ (w - 1) ≤ 65536 := pw_le (by omega)
  rcases h.I.dig d (List.mem_of_getElem? hd) with rfl | ⟨_, h1, h2⟩
  · omega
  · generalize 2 ^ (w - 1) = t at *
    omega
theorem take_map {x : List Int} {j : Nat} {d : Int} {f : Int → Value} (hd : x[j]? = some d) : (x.take (j + 1)).map f = (x.take j).map f ++ [f d] := by
  rw [List.take_add_one, hd, List.map_append]; rfl
theorem take_len {x : List Int} {j n : Nat} {f : Int → Value} (hx : x.length = n) (hj : j ≤ n) : ((x.take j).map f).length = j := by
  rw [List.length_map, List.length_take]; omega
theorem naf_pos {w K x : Nat} (hK : 0 < K) (h0 : kx w K x = 0) : 0 < x := by
  rcases Nat.eq_zero_or_pos x with rfl | h
  · exact absurd h0 (by show ¬ K = 0; omega)
  · exact h
theorem naf_none {w x : Nat} (h : NafC w 0 x) : x = 0 := by
  rcases Nat.eq_zero_or_pos x with h0 | h0
  · exact h0
  · exact absurd (h.pos 0 h0) (by show ¬ 0 < 0; decide)
theorem naf_one {x : Nat} (h : NafC 2 1 x) (h0 : kx 2 1 x = 0) : x = 1 := by
  have h1 := naf_pos (by decide) h0
  rcases Nat.lt_or_ge 1 x with h2 | h2
  · exact absurd (h.pos 1 h2) (by decide)
  · omega
section
variable {P : Program} {St : Slots} {M : Mem} {o : Oper} {x y : Operand} {T T' : Nat}
theorem opr_max {kd : IntKind} {a b c : Int} {ts : Array TypeId} (ho : o.op = .call { callee := .builtin .max, args := #[x, y], argTypes := ts }) (hx : evalS St x = some (.int kd a)) (hy : evalS St y = some (.int kd b)) (hc : (if b > a then b else a) = c) : OpR P St M o (Det (.int kd c) M) :=
  hc ▸ opr_value fun ρ w0 S w hρ hw => by
    simp only [execOp, ho, resolve, List.map_toArray, List.map_cons, List.map_nil, hρ _ _ hx, hρ _ _ hy, Sem.run_bind, Sem.run_pure, Result.andThen_ok, invoke, builtin, Builtin.max_, List.foldlM_cons, List.foldlM_nil, Builtin.max2]
theorem opr_remZ {a c : Int} (ho : o.op = .binOp .rem T x y T') (hx : evalS St x = some (.int .i64 a)) (hy : evalS St y = some (.int .i64 2)) (hc : a.tmod 2 = c) : OpR P St M o (Det (.int .i64 c) M) :=
  hc ▸ opr_binOp (P := P) (M := M) (v := .int .i64 (a.tmod 2)) ho hx hy (fun w => by simp [binOp, Op.intDiv])
end
theorem abs_max (d : Int) : (if -d > d then -d else d) = ((d.natAbs : Nat) : Int) := by split <;> omega
theorem drop_at {l : List Int} {m : Nat} {d : Int} (hd : l[m]? = some d) : l.drop m = d :: l.drop (m + 1) := by
  obtain ⟨h, rfl⟩ := List.getElem?_eq_some_iff.1 hd
  exact List.drop_eq_getElem_cons h
theorem smod_stepN {l : List Int} {m : Nat} {d : Int} (hd : l[m]? = some d) (h : d < 0) : ((smod (l.drop (m + 1)) + smod (l.drop (m + 1))) % qq + ssub qq (d.natAbs % qq)) % qq = smod (l.drop m) := by
  rw [drop_at hd]; exact smod_neg _ (by omega)
theorem smod_stepP {l : List Int} {m : Nat} {d : Int} (hd : l[m]? = some d) (h : ¬ d < 0) : ((smod (l.drop (m + 1)) + smod (l.drop (m + 1))) % qq + d.natAbs) % qq = smod (l.drop m) := by
  rw [drop_at hd]; exact smod_pos _ (by omega)
theorem smod_RR (l : List Int) : smod l < RR := Nat.lt_trans (smod_lt l) qq_RR
theorem modq_RR (a : Nat) : a % qq < RR := Nat.lt_trans (Nat.mod_lt _ (by decide)) qq_RR
theorem abs_RR {d : Int} (h : -65536 < d ∧ d < 65536) : d.natAbs < RR := Nat.lt_trans (show d.natAbs < 65536 by omega) (by decide +kernel)
theorem naf_sum {w K x : Nat} (h : NafC w K x) (h0 : kx w K x = 0) (hq : K < qq) : smod ((nafD w K x).drop 0) = K := by
  have hv := h.I.val
  rw [h0] at hv
  refine smod_end ?_ hq
  rw [List.drop_zero]
  generalize sval (nafD w K x) = s at *
  simpa using hv
/-- The last place that is not 0. -/
def LastI (w : Nat) (ds : List Int) (i : Nat) (last : Int) : Prop := last = -(w : Int) ∨ ∃ e : Nat, last = (e : Int) ∧ e < i ∧ ∃ v, ds[e]? = some v ∧ v ≠ 0
theorem LastI.gap {w K x i : Nat} {last d : Int} (hC : NafC w K x) (h : LastI w (nafD w K x) i last) (hd : (nafD w K x)[i]? = some d) (hd0 : d ≠ 0) : ¬ (i : Int) - last < (w : Int) := by
  rcases h with rfl | ⟨e, rfl, he, v, hv, hv0⟩
  · omega
  · have := hC.I.gap e i v d he hv hd hv0 hd0
    omega
theorem LastI.bnd {w : Nat} {ds : List Int} {i : Nat} {last : Int} (h : LastI w ds i last) (hw16 : w ≤ 16) : -16 ≤ last ∧ last ≤ (i : Int) := by
  rcases h with rfl | ⟨e, rfl, he, _⟩ <;> omega
theorem LastI.next {w : Nat} {ds : List Int} {i : Nat} {last : Int} (h : LastI w ds i last) : LastI w ds (i + 1) last := by
  rcases h with h | ⟨e, h1, h2, h3⟩
  · exact .inl h
  · exact .inr ⟨e, h1, by omega, h3⟩
theorem naf_odd {w K x i : Nat} {d : Int} (hC : NafC w K x) (hd : (nafD w K x)[i]? = some d) (hd0 : d ≠ 0) : ¬ d.tmod 2 = 0 ∧ ¬ ((2 ^ (w - 1) : Nat) : Int) ≤ d ∧ ¬ d ≤ -((2 ^ (w - 1) : Nat) : Int) := by
  rcases hC.I.dig d (List.mem_of_getElem? hd) with h | ⟨h0, h1, h2⟩
  · exact absurd h hd0
  · refine ⟨fun h => ?_, by omega, by omega⟩
    have := Int.dvd_of_tmod_eq_zero h
    omega
theorem opr_eqlNb {P : Program} {St : Slots} {M : Mem} {o : Oper} {x y : Operand} {T T' B a b : Nat} {t : Bool} (ho : o.op = .binOp .eql T x y T') (hx : evalS St x = some (.agg (N a).toArray)) (hy : evalS St y = some (.agg (N b).toArray)) (hu : P.underlying T = some (.array 28 B)) (he : P.underlying B = some (.int .u64)) (hs : (P.info? B).map (·.size) = some 1)
    (hq : P.eqGuardType P.depth T = false) (ha : a < RR) (hb : b < RR) (ht : decide (a = b) = t) : OpR P St M o (Det (.bool t) M) :=
  ht ▸ opr_eqlN ho hx hy hu he hs hq ha hb
theorem zzOmP_ct {M : Mem} {ix gx Tx K w : Nat} (hX : M[ix]? = some ⟨gx, Tx, EE [K]⟩) (hK : K < RR) (hw : 2 ≤ w) (hw16 : w ≤ 16) (hK0 : 0 < K) : Ct Try.prog 12 #[.pointer (some ⟨gx, 0, none⟩), .int .u64 (w : Int)] M (fun v M' => ∃ q x, v = .slice (some ⟨q.g, 0, none⟩) x q.cap ∧ SlI (some q) ((nafD w K x).map i32V) ∧ NafC w K x ∧ kx w K x = 0 ∧ M' = ⟨q.g, 21, q.cs⟩ :: M) := by
  refine (zzOm_ct hX hK hw hw16).mono ?_
  rintro _ _ ⟨so, x, rfl, hsI, hC, h0, hsn, rfl⟩
  cases so with
  | none => exact absurd (hsn.1 rfl) (Nat.ne_of_gt (naf_pos hK0 h0))
  | some q => exact ⟨q, x, rfl, hsI, hC, h0, rfl⟩
theorem zzOmZ_ct {M : Mem} {ix gx Tx K w : Nat} (hX : M[ix]? = some ⟨gx, Tx, EE [K]⟩) (hK : K < RR) (hw : 2 ≤ w) (hw16 : w ≤ 16) (hK0 : K = 0) : Ct Try.prog 12 #[.pointer (some ⟨gx, 0, none⟩), .int .u64 (w : Int)] M (Det (.slice none 0 0) M) := by
  refine (zzOm_ct hX hK hw hw16).mono ?_
  rintro _ _ ⟨so, x, rfl, hsI, hC, h0, hsn, rfl⟩
  subst hK0
  cases so with
  | none => exact ⟨rfl, rfl⟩
  | some q => exact absurd (hsn.2 (naf_none hC)) (by simp)
theorem iNaf_ct {M : Mem} {K w : Nat} (hK : K < RR) (hw : 2 ≤ w) (hw16 : w ≤ 16) : Ct Try.prog 7 #[.agg (E K).toArray, .int .u64 (w : Int)] M (fun v M' => ∃ s x, v = .slice (some ⟨s.g, 0, none⟩) x s.cap ∧ SlI (some s) ((nafD w K x).map i64V) ∧ NafC w K x ∧ kx w K x = 0 ∧ M' = ⟨s.g, 3, s.cs⟩ :: M) := by
  refine ct_of (vs := [.agg (E K).toArray, .int .u64 (w : Int)]) Try.func7 rfl Try.ntmps7 rfl fun w0 => ?_
  refine at_seq ?_
  refine at_region ?_
  refine at_n rfl rfl (opr_box (cs := EE [K]) rfl rfl (E_box _)) ?_
  intro g0
  refine at_d rfl rfl (opr_assign rfl rfl) ?_
  refine at_nil ?_
  refine at_then ?_
  refine at_seq ?_
  refine at_seq ?_
  refine at_region ?_
  refine at_d rfl rfl (opr_move rfl rfl) ?_
  refine at_d rfl rfl (opr_eq' (v' := .bool false) (opr_lss (a := w) (b := 2) rfl rfl rfl) (congrArg Value.bool (decide_eq_false (by omega)))) ?_
  refine at_d rfl rfl (opr_move rfl rfl) ?_
  refine at_d rfl rfl (opr_move rfl rfl) ?_
  refine at_d rfl rfl (opr_eq' (v' := .bool false) (opr_gtr (a := w) (b := 16) rfl rfl rfl) (congrArg Value.bool (decide_eq_false (by omega)))) ?_
  refine at_d rfl rfl (opr_pickN rfl rfl rfl) ?_
  refine at_nil ?_
  refine at_then ?_
  refine at_cond_false rfl ?_
  refine at_skip ?_
  refine at_then ?_
  refine at_seq ?_
  refine at_region ?_
  refine at_d rfl rfl (opr_load (i := 0) rfl rfl rfl Try.underlying22 rfl size22 (E_length _) (EE_at (k := 0) rfl rfl rfl)) ?_
  refine at_n rfl rfl (opr_alloc rfl zero39 rfl) ?_
  intro g1
  refine at_d rfl rfl (opr_store (i := 0) rfl rfl rfl rfl rfl size39 (E_length _) (by rw [EE_length]; exact Nat.le_of_ble_eq_true rfl) (E_flat _) (EE_set (k := 0) (Nat.le_of_ble_eq_true rfl) rfl)) ?_
  refine at_nil ?_
  refine at_then ?_
  refine at_seq ?_
  refine at_region ?_
  refine at_c rfl rfl (opr_buildSlice0 rfl Try.underlying30 size3) ?_
  rintro _ _ ⟨gO, rfl, rfl⟩
  refine at_d rfl rfl (opr_assign rfl rfl) ?_
  refine at_nil ?_
  refine at_then ?_
  refine at_seq ?_
  refine at_seq ?_
  rcases Nat.eq_zero_or_pos K with hK0 | hK0
  ·
    refine at_region ?_
    refine at_d rfl rfl (opr_move rfl rfl) ?_
    refine at_d rfl rfl (opr_call rfl rfl rfl Try.func12 (by kernel_rfl) rfl (zzOmZ_ct (ix := 1) rfl hK hw hw16 hK0)) ?_
    refine at_d rfl rfl (opr_lenS (n := 0) rfl rfl Try.underlying40) ?_
    refine at_d rfl rfl (opr_move rfl rfl) ?_
    refine at_nil ?_
    refine at_then ?_
    refine at_block ?_
    refine at_loop (fun (x : Nat) => [(6, .slice (some ⟨gO, 0, none⟩) 0 0), (18, .slice none 0 0), (19, .int .i64 ((0 : Nat) : Int)), (20, .int .i64 (x : Int))]) (fun (x : Nat) => ⟨gO, 3, []⟩ :: ⟨g1, 39, EE [K]⟩ :: ⟨g0, 22, EE [K]⟩ :: M) (fun (x : Nat) => x) (fun (x : Nat) => x = 0) 0 rfl (allIn ⟨rfl, rfl, rfl, rfl, trivial⟩) (List.Sublist.refl _) ?_
    rintro k hk0
    dsimp only
    refine at_seq ?_
    refine at_region ?_
    refine at_d rfl rfl (opr_lss (a := k) (b := 0) rfl rfl rfl) ?_
    refine at_nil ?_
    refine at_then ?_
    refine at_seq ?_
    refine at_cond rfl (fun ht => ?_) (fun ht => ?_)
    ·
      have := of_decide_eq_true ht; omega
    ·
      refine at_exit ?_
      refine at_then_exit ?_
      refine at_then_exit ?_
      refine at_inBlock_same ?_
      refine at_then ?_
      refine at_seq ?_
      refine at_region ?_
      refine at_d rfl rfl (opr_move rfl rfl) ?_
      refine at_d rfl rfl (opr_assign rfl rfl) ?_
      refine at_nil ?_
      refine at_then ?_
      refine at_ret ?_
      exact done_of (res1 Try.results7 (res_tmp rfl)) ⟨⟨gO, 0, []⟩, 0, rfl, ⟨rfl, Nat.le_refl _, rfl⟩, NafC.start w K, hK0, rfl⟩ (by repeat (first | exact List.Sublist.refl _ | apply List.Sublist.cons_cons | apply List.Sublist.cons))
  ·
    have hx40 : True := trivial
    refine at_region ?_
    refine at_d rfl rfl (opr_move rfl rfl) ?_
    refine at_c rfl rfl (opr_call rfl rfl rfl Try.func12 (by kernel_rfl) rfl (zzOmP_ct (ix := 1) rfl hK hw hw16 hK0)) ?_
    rintro _ _ ⟨q, x, rfl, hqI, hC, h0, rfl⟩
    refine at_d rfl rfl (opr_lenS (n := x) rfl rfl Try.underlying40) ?_
    refine at_d rfl rfl (opr_move rfl rfl) ?_
    refine at_nil ?_
    refine at_then ?_
    refine at_block ?_
    refine at_perm (List.Perm.swap _ _ _) ?_
    refine at_loop2 (fun (j : Nat) (y : Sl) => [(6, .slice (some ⟨y.g, 0, none⟩) j y.cap), (18, .slice (some ⟨q.g, 0, none⟩) x q.cap), (19, .int .i64 (x : Int)), (20, .int .i64 (j : Int))]) (fun (j : Nat) (y : Sl) => ⟨y.g, 3, y.cs⟩ :: ⟨q.g, 21, q.cs⟩ :: ⟨g1, 39, EE [K]⟩ :: ⟨g0, 22, EE [K]⟩ :: M) (fun (j : Nat) (y : Sl) => x - j) (fun (j : Nat) (y : Sl) => j ≤ x ∧ SlI (some y) (((nafD w K x).take j).map i64V)) 0 ⟨gO, 0, []⟩ ⟨Nat.zero_le _, by rw [List.take_zero]; exact ⟨rfl, Nat.le_refl _, rfl⟩⟩ (allIn ⟨rfl, rfl, rfl, rfl, trivial⟩) (by repeat (first | exact List.Sublist.refl _ | apply List.Sublist.cons_cons | apply List.Sublist.cons)) ?_
    rintro k s ⟨hk, hsI⟩
    dsimp only
    refine at_seq ?_
    have hx4 := hC.len hw16
    refine at_region ?_
    refine at_d rfl rfl (opr_lss (a := k) (b := x) rfl rfl rfl) ?_
    refine at_nil ?_
    refine at_then ?_
    refine at_seq ?_
    refine at_cond rfl (fun ht => ?_) (fun ht => ?_)
    ·
      have hlt : k < x := of_decide_eq_true ht
      obtain ⟨d, hd⟩ : ∃ d, (nafD w K x)[k]? = some d := ⟨_, List.getElem?_eq_getElem (by rw [nafD_length]; exact hlt)⟩
      refine at_skip ?_
      refine at_then ?_
      refine at_seq ?_
      refine at_block ?_
      refine at_seq ?_
      refine at_region ?_
      refine at_d rfl rfl (opr_indexAddrS (j := k) (off' := k) rfl rfl rfl Try.underlying40 hlt size21 (by omega)) ?_
      refine at_d rfl rfl (opr_load1 (i := 1) rfl rfl rfl Try.underlying21 rfl (SlI_get hqI (by rw [List.getElem?_map, hd]; rfl) : q.cs[k]? = some (i32V d))) ?_
      refine at_d rfl rfl (opr_assign rfl rfl) ?_
      refine at_nil ?_
      refine at_then ?_
      refine at_region ?_
      refine at_d rfl rfl (opr_move rfl rfl) ?_
      refine at_d rfl rfl (opr_move rfl rfl) ?_
      refine at_d rfl rfl (opr_conv (c := d) rfl rfl Try.underlying21 Try.underlying3 (wrap_i64 _ (by have := hC.dlt hw16 hd; omega) (by have := hC.dlt hw16 hd; omega))) ?_
      refine at_c rfl rfl (opr_buildSliceV (s := 1) (zv := .int .i64 0) (cs := [.int .i64 0]) (ds := [i64V d]) rfl rfl Try.underlying30 (by kernel_rfl) (by decide) (by decide) (by kernel_rfl) rfl) ?_
      rintro _ _ ⟨gV, rfl, rfl⟩
      refine at_c rfl rfl (opr_append (z := .int .i64 0) (i := 1) (j := 0) (news := [i64V d]) rfl rfl rfl rfl hsI.1 (by have := hsI.2.1; rw [take_len (nafD_length w K x) (Nat.le_of_lt hlt)] at this; exact this) rfl rfl rfl flat_one Try.underlying30 (by kernel_rfl) rfl (by kernel_rfl) (by have := hC.len hw16; omega)) ?_
      rintro _ _ ⟨s', rfl, hcs', hcap', htk', rfl⟩
      refine at_d rfl rfl (opr_assign rfl rfl) ?_
      refine at_nil ?_
      refine at_inBlock_normal ?_
      refine at_then ?_
      refine at_region ?_
      refine at_d rfl rfl (opr_addI (a := k) (b := 1) rfl rfl rfl (by omega)) ?_
      refine at_d rfl rfl (opr_move rfl rfl) ?_
      refine at_nil ?_
      exact at_round2 (k + 1) s' ⟨by omega, by rw [take_map hd]; exact SlI_app hsI (take_len (nafD_length w K x) (Nat.le_of_lt hlt)) rfl hcs' hcap' htk'⟩ (by omega) (allIn ⟨rfl, rfl, rfl, rfl, trivial⟩) (by repeat (first | exact List.Sublist.refl _ | apply List.Sublist.cons_cons | apply List.Sublist.cons))
    ·
      obtain rfl : k = x := by have := of_decide_eq_false ht; omega
      rw [List.take_of_length_le (by rw [nafD_length]; exact Nat.le_refl _)] at hsI
      refine at_exit ?_
      refine at_then_exit ?_
      refine at_then_exit ?_
      refine at_inBlock_same ?_
      refine at_then ?_
      refine at_seq ?_
      refine at_region ?_
      refine at_d rfl rfl (opr_move rfl rfl) ?_
      refine at_d rfl rfl (opr_assign rfl rfl) ?_
      refine at_nil ?_
      refine at_then ?_
      refine at_ret ?_
      exact done_of (res1 Try.results7 (res_tmp rfl)) ⟨s, _, rfl, hsI, hC, h0, rfl⟩ (by repeat (first | exact List.Sublist.refl _ | apply List.Sublist.cons_cons | apply List.Sublist.cons))
theorem iNaf1_ct {M : Mem} : Ct Try.prog 7 #[.agg (E 1).toArray, .int .u64 2] M (fun v M' => ∃ s : Sl, v = .slice (some ⟨s.g, 0, none⟩) 1 s.cap ∧ M' = ⟨s.g, 3, s.cs⟩ :: M) := by
  refine (iNaf_ct (K := 1) (w := 2) (by decide +kernel) (by decide) (by decide)).mono ?_
  rintro _ _ ⟨s, x, rfl, _, hC, h0, rfl⟩
  obtain rfl := naf_one hC h0
  exact ⟨s, rfl, rfl⟩
theorem built_two (x y : Nat) : Try.prog.built 27 [(0, .int .u64 (x : Int)), (1, .int .u64 (y : Int))] = some (.int .u64 (x : Int) :: .int .u64 (y : Int) :: List.replicate 26 (.int .u64 0)).toArray := by kernel_rfl
theorem N_small {c : Nat} (hc : c < 4294967296) : (Value.int .u64 ((c % 65536 : Nat) : Int) :: .int .u64 ((c / 65536 : Nat) : Int) :: List.replicate 26 (.int .u64 0)) = N c := by
  have h0 : c / 65536 / 65536 = 0 := by omega
  have h1 : c / 65536 % 65536 = c / 65536 := by omega
  have hz : ∀ n, (digs 65536 n 0).map u64V = List.replicate n (.int .u64 0) := by
    intro n
    induction n with
    | zero => rfl
    | succ n ih => rw [digs, Nat.zero_mod, Nat.zero_div, List.map_cons, ih]; rfl
  rw [N, digs, digs, h0, h1, List.map_cons, List.map_cons, hz]; rfl
theorem small_ct {M : Mem} {c : Nat} (hc : c < 4294967296) : Ct Try.prog 9 #[.int .i64 (c : Int)] M (Det (.agg (N c).toArray) M) := by
  refine ct_of (vs := [.int .i64 (c : Int)]) Try.func9 rfl Try.ntmps9 rfl fun w0 => ?_
  refine at_seq ?_
  refine at_region ?_
  refine at_n rfl rfl (opr_alloc rfl zero27 rfl) ?_
  intro g0
  refine at_nil ?_
  refine at_then ?_
  refine at_seq ?_
  refine at_region ?_
  refine at_d rfl rfl (opr_move rfl rfl) ?_
  refine at_d rfl rfl (opr_to64 rfl rfl Try.underlying3 Try.underlying25 (Nat.lt_trans hc (by decide))) ?_
  refine at_d rfl rfl (opr_rem64 rfl rfl rfl (by decide)) ?_
  refine at_d rfl rfl (opr_move rfl rfl) ?_
  refine at_d rfl rfl (opr_to64 rfl rfl Try.underlying3 Try.underlying25 (Nat.lt_trans hc (by decide))) ?_
  refine at_d rfl rfl (opr_quo64 rfl rfl rfl (by decide) (Nat.lt_trans hc (by decide))) ?_
  refine at_d rfl rfl (opr_buildE rfl rfl (built_two _ _) (N_small hc)) ?_
  refine at_d rfl rfl (opr_store (i := 0) rfl rfl rfl rfl rfl size27 (N_length _) (by rw [N_length]; decide) (N_flat _) N_over) ?_
  refine at_nil ?_
  refine at_then ?_
  refine at_ret ?_
  refine done_of (res1 Try.results9 (res_cell (i := 0) rfl rfl Try.underlying27 rfl size27 (N_length _) (N_at _))) ⟨rfl, rfl⟩ (by repeat (first | exact List.Sublist.refl _ | apply List.Sublist.cons))
end Go.Proofs.Ytoagfplhcimghaa
