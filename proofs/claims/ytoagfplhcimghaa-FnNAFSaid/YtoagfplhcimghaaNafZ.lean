/- The package's non-adjacent form. -/
import Derived.Test.YtoagfplhcimghaaNaf
import Derived.Test.YtoagfplhcimghaaRefB
namespace Go.Proofs.Ytoagfplhcimghaa
open Go
set_option maxRecDepth 100000
theorem zero49 : (Try.prog.info? 49).bind (·.zero) = some (.agg (W (List.replicate 8 0)).toArray) := by kernel_rfl
theorem mixl_at {m l : List Nat} {n k : Nat} (hm : m.length = n) (hl : l.length = n) (hk : k < n) : (mixl m l (k + 1))[k]? = m[k]? := by
  have hx : m[k]? = some (m[k]'(by omega)) := List.getElem?_eq_getElem _
  rw [← mixl_put hm hl hk hx, List.getElem?_set_self (by rw [mixl_length hm hl (Nat.le_of_lt hk)]; exact hk), hx]
theorem mixl_ge {m l : List Nat} {n k j : Nat} (hm : m.length = n) (hk : k ≤ n) (hj : k ≤ j) : (mixl m l k)[j]? = l[j]? := by
  have h1 : (m.take k).length = k := by simp; omega
  rw [mixl, List.getElem?_append_right (by omega), h1, List.getElem?_drop]
  congr 1
  omega
theorem set_set_mix {m l : List Nat} {n k u x : Nat} (hm : m.length = n) (hl : l.length = n) (hk : k < n) (hx : m[k]? = some x) : ((mixl m l k).set k u).set k x = mixl m l (k + 1) := by
  rw [List.set_set]; exact mixl_put hm hl hk hx
theorem EE1_get {x k : Nat} (hk : k < 56) : (EE [x])[k]? = some (.int .u8 ((x / 256 ^ k % 256 : Nat) : Int)) := by
  rw [EE_one, E, List.getElem?_map, digs_get 56 x k hk]; rfl
theorem half64_top' {K k : Nat} (h : K < BB ^ 8) (e : k = 7) : K / 2 / BB ^ k % BB = K / BB ^ k % BB / 2 := by subst e; exact half64_top h
theorem mod56 {K : Nat} (h : K < RR) : K % 256 ^ 56 = K := Nat.mod_eq_of_lt (Nat.lt_of_lt_of_le h (by decide +kernel))
section
variable {P : Program} {St : Slots} {M : Mem} {o : Oper} {x y : Operand} {T T' : Nat}
theorem opr_shlK {kd k' : IntKind} {a c : Int} {n : Nat} (ho : o.op = .binOp .shl T x y T') (hx : evalS St x = some (.int kd a)) (hy : evalS St y = some (.int k' (n : Int))) (hn : n ≤ kd.bits) (hc : kd.wrap (a * 2 ^ n) = c) : OpR P St M o (Det (.int kd c) M) := by
  have h := opr_binOp (P := P) (M := M) ho hx hy (fun w => run_shl kd k' a n P T w)
  rw [Nat.min_eq_left hn, hc] at h
  exact h
theorem opr_subK {kd : IntKind} {a b c : Int} (ho : o.op = .binOp .sub T x y T') (hx : evalS St x = some (.int kd a)) (hy : evalS St y = some (.int kd b)) (hc : kd.wrap (a - b) = c) : OpR P St M o (Det (.int kd c) M) :=
  hc ▸ opr_binOp (P := P) (M := M) (v := .int kd (kd.wrap (a - b))) ho hx hy (fun _ => by cases kd <;> rfl)
theorem opr_geqK {kd : IntKind} {a b : Int} (ho : o.op = .binOp .geq T x y T') (hx : evalS St x = some (.int kd a)) (hy : evalS St y = some (.int kd b)) : OpR P St M o (Det (.bool (decide (b ≤ a))) M) :=
  opr_binOp (P := P) (M := M) (v := .bool (decide (a ≥ b))) ho hx hy (fun w => by simp only [binOp, Op.intCmp, ne_eq, not_true_eq_false, if_false, Sem.run_pure])
theorem opr_leqK {kd : IntKind} {a b : Int} (ho : o.op = .binOp .leq T x y T') (hx : evalS St x = some (.int kd a)) (hy : evalS St y = some (.int kd b)) : OpR P St M o (Det (.bool (decide (a ≤ b))) M) :=
  opr_binOp (P := P) (M := M) (v := .bool (decide (a ≤ b))) ho hx hy (fun w => by simp only [binOp, Op.intCmp, ne_eq, not_true_eq_false, if_false, Sem.run_pure])
theorem opr_lssK {kd : IntKind} {a b : Int} (ho : o.op = .binOp .lss T x y T') (hx : evalS St x = some (.int kd a)) (hy : evalS St y = some (.int kd b)) : OpR P St M o (Det (.bool (decide (a < b))) M) :=
  opr_binOp (P := P) (M := M) (v := .bool (decide (a < b))) ho hx hy (fun w => by simp only [binOp, Op.intCmp, ne_eq, not_true_eq_false, if_false, Sem.run_pure])
theorem opr_eqlK {kd : IntKind} {a b : Int} (ho : o.op = .binOp .eql T x y T') (hx : evalS St x = some (.int kd a)) (hy : evalS St y = some (.int kd b)) : OpR P St M o (Det (.bool (decide (a = b))) M) := by
  have h := opr_binOp (P := P) (M := M) (v := .bool (a == b)) ho hx hy (fun w => by simp only [binOp, Op.intCmp, ne_eq, not_true_eq_false, if_false, Sem.run_pure])
  have e : (a == b) = decide (a = b) := by rw [Bool.eq_iff_iff]; simp
  rw [e] at h; exact h
theorem opr_negK {kd : IntKind} {a c : Int} (ho : o.op = .unOp .neg T x) (hx : evalS St x = some (.int kd a)) (hc : kd.wrap (-a) = c) : OpR P St M o (Det (.int kd c) M) := by
  have h := opr_unOp (P := P) (M := M) (u := .int kd (kd.wrap (0 - a))) ho hx (fun _ => by cases kd <;> rfl)
  rw [Int.zero_sub, hc] at h
  exact h
theorem opr_conv {S' D : TypeId} {k k' : IntKind} {n c : Int} {d : TypeDesc} (ho : o.op = .convert S' D x) (hx : evalS St x = some (.int k n)) (hs : P.underlying S' = some d) (hd : P.underlying D = some (.int k')) (hc : k'.wrap n = c) : OpR P St M o (Det (.int k' c) M) :=
  hc ▸ opr_convert (P := P) (M := M) ho hx hs hd
end
/-- A slice that may be nil. -/
def slV : Option Sl → Nat → Value
  | none, _ => .slice none 0 0
  | some s, n => .slice (some ⟨s.g, 0, none⟩) n s.cap
def slM (e : Nat) : Option Sl → Mem
  | none => []
  | some s => [⟨s.g, e, s.cs⟩]
def SlI : Option Sl → List Value → Prop
  | none, vs => vs = []
  | some s, vs => s.cs.length = s.cap ∧ vs.length ≤ s.cap ∧ s.cs.take vs.length = vs
theorem opr_appendO {P : Program} {St : Slots} {M fr : Mem} {o : Oper} {t e g' a' n m c j T' : Nat} {x y : Operand} {so : Option Sl} {vs ds news : List Value} {z : Value} (ho : o.op = .call { callee := .builtin .append, args := #[x, y], argTypes := #[t, t] })
    (hx : evalS St x = some (slV so n)) (hy : evalS St y = some (.slice (some ⟨g', a', none⟩) m c)) (hI : SlI so vs) (hvn : vs.length = n) (hb' : (fr ++ (slM e so ++ M))[j]? = some ⟨g', T', ds⟩) (hm0 : 0 < m) (hnl : news.length = m) (hnews : (ds.drop a').take m = news) (hfl : ∀ v ∈ news, flat v = true)
    (hu : P.underlying t = some (.slice e)) (hi' : (P.info? e).map (fun i => (i.size, i.zero)) = some (1, some z)) (hz : z.cells.size = 1) (hby : (P.info? e).map (fun i => decide (i.bytes ≤ 8)) = some true) (hm : n + m ≤ 4000000000000) :
    OpR P St (fr ++ (slM e so ++ M)) o (fun v M' => ∃ s : Sl, v = .slice (some ⟨s.g, 0, none⟩) (n + m) s.cap ∧ SlI (some s) (vs ++ news) ∧ M' = ⟨s.g, e, s.cs⟩ :: (fr ++ M)) := by
  cases so with
  | some s =>
    have hb : (fr ++ (slM e (some s) ++ M))[fr.length]? = some ⟨s.g, e, s.cs⟩ := by
      rw [List.getElem?_append_right (Nat.le_refl _), Nat.sub_self]; rfl
    refine (opr_append ho hx hy hb hI.1 (by have := hI.2.1; omega) hb' hnl hnews hfl hu hi' hz hby hm).mono ?_
    rintro v M' ⟨q, rfl, h1, h2, h3, rfl⟩
    refine ⟨q, rfl, ⟨h1, by rw [List.length_append, hvn, hnl]; exact h2, ?_⟩, ?_⟩
    · rw [List.length_append, hvn, hnl, h3]
      congr 1
      rw [← hvn]; exact hI.2.2
    · congr 1
      rw [List.eraseIdx_append_of_length_le (Nat.le_refl _), Nat.sub_self]
      rfl
  | none =>
    obtain rfl : vs = [] := hI
    obtain rfl : n = 0 := hvn.symm
    intro ρ w0 S w hρ hw
    have hb2 : (fr ++ M)[j]? = some ⟨g', T', ds⟩ := hb'
    have hsrc : ∀ k v, news[k]? = some v → w.cell? ((⟨g', a', none⟩ : Addr).add k) = some v := by
      intro k v hk
      have hadd : (⟨g', a', none⟩ : Addr).add k = ⟨g', a' + k, none⟩ := by unfold Addr.add; split <;> simp_all
      rw [hadd, cell_at hw hb2 (a' + k)]
      subst hnews
      have hlt : k < m := by have := (List.getElem?_eq_some_iff.1 hk).1; simp at this; omega
      rw [List.getElem?_take_of_lt hlt, List.getElem?_drop] at hk
      exact hk
    obtain ⟨ii, hi, h3⟩ := Option.map_eq_some_iff.1 hi'
    simp only [Prod.mk.injEq] at h3
    obtain ⟨hs, hzz⟩ := h3
    rw [hi, Option.map_some] at hby
    have hbytes : ii.bytes ≤ 8 := by simpa using hby
    have hl : news.length = m * ii.size := by rw [hs, Nat.mul_one]; exact hnl
    have hgr := run_append_nil (P := P) (w := w) t o.type e ii z hu hi hzz ⟨g', a', none⟩ m c news hl hsrc hm0 (by omega) (Nat.le_trans (Nat.mul_le_mul (Nat.le_refl _) hbytes) (by omega))
    have hcap := grownCap_ge w m 0 e
    generalize hK : grownCap w m 0 e = K at hgr hcap
    have hzs : (Builtin.zeroCells z.cells (K - m)).size = K - m := by rw [size_zeroCells, hz, Nat.mul_one]
    have : (execOp ρ o).run P w = .ok (.value (.slice (some ⟨w.heap.size, 0, none⟩) m K)) (w.drew.alloc (.cells (news ++ (Builtin.zeroCells z.cells (K - m)).toList).toArray e)) := by
      have e1 : (news ++ (Builtin.zeroCells z.cells (K - m)).toList).toArray = news.toArray ++ Builtin.zeroCells z.cells (K - m) := by simp
      rw [e1]
      simp only [execOp, ho, resolve, List.map_toArray, List.map_cons, List.map_nil, hρ _ _ hx, hρ _ _ hy, slV, Sem.run_bind, Sem.run_pure, Result.andThen_ok, invoke, builtin, hgr]
    rw [this]
    refine ⟨_, ⟨⟨w.heap.size, K, news ++ (Builtin.zeroCells z.cells (K - m)).toList⟩, by rw [Nat.zero_add], ⟨?_, ?_, ?_⟩, rfl⟩, ?_⟩
    · show (news ++ _).length = K
      rw [List.length_append, hnl, Array.length_toList, hzs]; omega
    · rw [List.nil_append, hnl]; exact hcap
    · show (news ++ _).take _ = _
      rw [List.nil_append, List.take_append_of_le_length (Nat.le_refl _), List.take_of_length_le (Nat.le_refl _)]
    · exact (hw.drew).alloc e (news ++ (Builtin.zeroCells z.cells (K - m)).toList)
/-! ### The numbers of the rounds -/
def kx (w K : Nat) : Nat → Nat
  | 0 => K
  | x + 1 => nk1 w (kx w K x) / 2
def nafD (w K x : Nat) : List Int := (List.range x).map fun i => nd w (kx w K i)
theorem nafD_length (w K x : Nat) : (nafD w K x).length = x := by simp [nafD]
theorem nafD_succ (w K x : Nat) : nafD w K (x + 1) = nafD w K x ++ [nd w (kx w K x)] := by simp [nafD, List.range_succ]
theorem RR_pw2 : RR = pw2 448 := by decide +kernel
theorem pw2_8 : pw2 448 + 2 ^ 15 + 2 ^ 16 < BB ^ 8 := by decide +kernel
structure NafC (w K x : Nat) : Prop where
  I : NafI 448 w K (nafD w K x) (kx w K x)
  pos : ∀ i, i < x → 0 < kx w K i
theorem NafC.start (w K : Nat) : NafC w K 0 := ⟨NafI.start 448 w K, fun i hi => absurd hi (by omega)⟩
theorem NafC.step {w K x : Nat} (hw : 2 ≤ w) (hK : K < RR) (h : NafC w K x) (hp : 0 < kx w K x) : NafC w K (x + 1) := by
  refine ⟨?_, fun i hi => ?_⟩
  · rw [nafD_succ]
    exact NafI.step hw (RR_pw2 ▸ hK) h.I hp
  · by_cases e : i = x
    · subst e; exact hp
    · exact h.pos i (by omega)
theorem NafC.lt {w K x : Nat} (hw : 2 ≤ w) (hw16 : w ≤ 16) (hK : K < RR) (h : NafC w K x) : kx w K x + 2 ^ 16 < BB ^ 8 := by
  have := NafI.small hw hw16 (RR_pw2 ▸ hK) h.I
  exact Nat.lt_of_le_of_lt (Nat.add_le_add_right this _) pw2_8
theorem NafC.len {w K x : Nat} (hw16 : w ≤ 16) (h : NafC w K x) : x ≤ 40000 := by
  have := NafI.len hw16 h.I
  rw [nafD_length] at this
  omega
theorem pw_le {w : Nat} (hw16 : w ≤ 16) : 2 ^ w ≤ 65536 := Nat.pow_le_pow_right (n := 2) (by decide) hw16
theorem pw_pred {w : Nat} (hw : 2 ≤ w) : 2 ^ w = 2 * 2 ^ (w - 1) := (pw_two hw).1
theorem wrap_shl32 {w : Nat} (hw16 : w ≤ 16) : IntKind.i32.wrap (1 * 2 ^ w) = ((2 ^ w : Nat) : Int) := by
  have := pw_le hw16
  rw [Int.one_mul, show (2 : Int) ^ w = ((2 ^ w : Nat) : Int) by rw [Int.natCast_pow]; rfl]
  generalize 2 ^ w = t at *
  exact wrap_i32 _ (by omega) (by omega)
theorem wrap_shl64 {w : Nat} (hw16 : w ≤ 16) : IntKind.i64.wrap (1 * 2 ^ w) = ((2 ^ w : Nat) : Int) := by
  have := pw_le hw16
  rw [Int.one_mul, show (2 : Int) ^ w = ((2 ^ w : Nat) : Int) by rw [Int.natCast_pow]; rfl]
  generalize 2 ^ w = t at *
  exact wrap_i64 _ (by omega) (by omega)
theorem wrap_shl64n {w : Nat} (hw16 : w ≤ 16) : IntKind.i64.wrap (-1 * 2 ^ w) = -((2 ^ w : Nat) : Int) := by
  have := pw_le hw16
  rw [Int.neg_mul, Int.one_mul, show (2 : Int) ^ w = ((2 ^ w : Nat) : Int) by rw [Int.natCast_pow]; rfl]
  generalize 2 ^ w = t at *
  exact wrap_i64 _ (by omega) (by omega)
def i32V (d : Int) : Value := .int .i32 d
def i64V (d : Int) : Value := .int .i64 d
theorem int_eq {k : IntKind} {a b : Int} (h : a = b) : Value.int k a = Value.int k b := h ▸ rfl
theorem nd_ge {w k : Nat} (ho : k % 2 = 1) (h : 2 ^ (w - 1) ≤ k % 2 ^ w) : nd w k = ((k % 2 ^ w : Nat) : Int) - ((2 ^ w : Nat) : Int) := by unfold nd; rw [if_pos ho, if_pos h]
theorem nd_lt {w k : Nat} (ho : k % 2 = 1) (h : ¬ 2 ^ (w - 1) ≤ k % 2 ^ w) : nd w k = ((k % 2 ^ w : Nat) : Int) := by unfold nd; rw [if_pos ho, if_neg h]
theorem nk1_ge {w k : Nat} (ho : k % 2 = 1) (h : 2 ^ (w - 1) ≤ k % 2 ^ w) : k + (2 ^ w - k % 2 ^ w) = nk1 w k := by unfold nk1; rw [if_pos ho, if_pos h]
theorem nk1_lt {w k : Nat} (ho : k % 2 = 1) (h : ¬ 2 ^ (w - 1) ≤ k % 2 ^ w) : k - k % 2 ^ w = nk1 w k := by unfold nk1; rw [if_pos ho, if_neg h]
theorem nk1_ev {w k : Nat} (ho : ¬ k % 2 = 1) : k = nk1 w k := by unfold nk1; rw [if_neg ho]
theorem nd_ev {w k : Nat} (ho : ¬ k % 2 = 1) : 0 = nd w k := by unfold nd; rw [if_neg ho]
theorem mod_wB {k w : Nat} (hw16 : w ≤ 16) : k % 2 ^ w ≤ k % BB := by
  have : k % BB % 2 ^ w = k % 2 ^ w := Nat.mod_mod_of_dvd _ (Nat.pow_dvd_pow 2 (show w ≤ 64 by omega))
  rw [← this]; exact Nat.mod_le _ _
theorem zzPos_ct {M : Mem} {ik gk Tk K : Nat} (hk : M[ik]? = some ⟨gk, Tk, W (digs BB 8 K)⟩) (hK : K < BB ^ 8) : Ct Try.prog 18 #[.pointer (some ⟨gk, 0, none⟩)] M (Det (.bool (decide (K ≠ 0))) M) := by
  refine ct_of (vs := [.pointer (some ⟨gk, 0, none⟩)]) Try.func18 rfl Try.ntmps18 rfl fun w0 => ?_
  refine at_seq ?_
  refine at_region ?_
  refine at_d rfl rfl (opr_assign rfl rfl) ?_
  refine at_nil ?_
  refine at_then ?_
  refine at_seq ?_
  refine at_seq ?_
  refine at_region ?_
  refine at_d rfl rfl (opr_assign rfl rfl) ?_
  refine at_nil ?_
  refine at_then ?_
  refine at_block ?_
  refine at_loop (fun (x : Nat) => [(0, .pointer (some ⟨gk, 0, none⟩)), (3, .int .i64 (x : Int))]) (fun (x : Nat) => M) (fun (x : Nat) => 8 - x) (fun (x : Nat) => x ≤ 8 ∧ K % BB ^ x = 0) 0 ⟨Nat.zero_le _, by rw [Nat.pow_zero, Nat.mod_one]⟩ (allIn ⟨rfl, rfl, trivial⟩) (List.Sublist.refl _) ?_
  rintro k ⟨hk8, hz⟩
  dsimp only
  refine at_seq ?_
  refine at_seq ?_
  refine at_region ?_
  refine at_d rfl rfl (opr_move rfl rfl) ?_
  refine at_d rfl rfl (opr_lss (a := k) (b := 8) rfl rfl rfl) ?_
  refine at_nil ?_
  refine at_then ?_
  refine at_cond rfl (fun ht => ?_) (fun ht => ?_)
  ·
    have hlt : k < 8 := of_decide_eq_true ht
    refine at_skip ?_
    refine at_then ?_
    refine at_seq ?_
    refine at_block ?_
    refine at_seq ?_
    refine at_region ?_
    refine at_d rfl rfl (opr_move rfl rfl) ?_
    refine at_d rfl rfl (opr_move rfl rfl) ?_
    refine at_d rfl rfl (opr_nilCheck rfl rfl) ?_
    refine at_d rfl rfl (opr_indexAddr (j := k) (off' := k) rfl rfl rfl Try.underlying49 hlt size25 (by omega)) ?_
    refine at_d rfl rfl (opr_load1 (i := ik) rfl rfl hk Try.underlying25 rfl (W_get (digs_get 8 K k hlt))) ?_
    refine at_d rfl rfl (opr_neq (a := K / BB ^ k % BB) (b := 0) rfl rfl rfl) ?_
    refine at_nil ?_
    refine at_then ?_
    refine at_cond rfl (fun hn => ?_) (fun hn => ?_)
    ·
      have hd : K / BB ^ k % BB ≠ 0 := of_decide_eq_true hn
      refine at_seq ?_
      refine at_region ?_
      refine at_d rfl rfl (opr_assign rfl rfl) ?_
      refine at_nil ?_
      refine at_then ?_
      refine at_ret ?_
      refine at_inBlock_ret ?_
      refine at_then_ret ?_
      refine at_then_ret ?_
      refine at_inBlock_ret ?_
      refine at_then_ret ?_
      exact done_of (res1 Try.results18 (res_tmp rfl)) ⟨congrArg Value.bool (decide_eq_true (p := K ≠ 0) (fun h0 => hd (by rw [h0, Nat.zero_div, Nat.zero_mod]))).symm, rfl⟩ (by repeat (first | exact List.Sublist.refl _ | apply List.Sublist.cons_cons | apply List.Sublist.cons))
    ·
      have hd : K / BB ^ k % BB = 0 := by have := of_decide_eq_false hn; omega
      refine at_skip ?_
      refine at_inBlock_normal ?_
      refine at_then ?_
      refine at_region ?_
      refine at_d rfl rfl (opr_move rfl rfl) ?_
      refine at_d rfl rfl (opr_addI (a := k) (b := 1) rfl rfl rfl (by omega)) ?_
      refine at_d rfl rfl (opr_assign rfl rfl) ?_
      refine at_nil ?_
      exact at_round (k + 1) ⟨by omega, pos_dig hz hd⟩ (by omega) (allIn ⟨rfl, rfl, trivial⟩) (List.Sublist.refl _)
  ·
    obtain rfl : k = 8 := by have := of_decide_eq_false ht; omega
    refine at_exit ?_
    refine at_then_exit ?_
    refine at_then_exit ?_
    refine at_inBlock_same ?_
    refine at_then ?_
    refine at_seq ?_
    refine at_region ?_
    refine at_d rfl rfl (opr_assign rfl rfl) ?_
    refine at_nil ?_
    refine at_then ?_
    refine at_ret ?_
    exact done_of (res1 Try.results18 (res_tmp rfl)) ⟨by rw [zero8 hK hz]; rfl, rfl⟩ (by repeat (first | exact List.Sublist.refl _ | apply List.Sublist.cons_cons | apply List.Sublist.cons))
theorem zzPlus_ct {M : Mem} {gk Tk K v a : Nat} (hv : v < BB) (ha : a = v) : Ct Try.prog 19 #[.pointer (some ⟨gk, 0, none⟩), .int .u64 (a : Int)] (⟨gk, Tk, W (digs BB 8 K)⟩ :: M) (Det (.tuple #[]) (⟨gk, Tk, W (digs BB 8 (K + v))⟩ :: M)) := by
  obtain rfl : a = vcar K v 0 := ha.trans (vcar_zero K v).symm
  clear ha
  refine ct_of (vs := [.pointer (some ⟨gk, 0, none⟩), .int .u64 ((vcar K v 0 : Nat) : Int)]) Try.func19 rfl Try.ntmps19 rfl fun w0 => ?_
  refine at_seq ?_
  refine at_region ?_
  refine at_d rfl rfl (opr_assign rfl rfl) ?_
  refine at_nil ?_
  refine at_then ?_
  refine at_block ?_
  refine at_loop (fun (x : Nat) => [(0, .pointer (some ⟨gk, 0, none⟩)), (1, .int .u64 ((vcar K v x : Nat) : Int)), (4, .int .i64 (x : Int))]) (fun (x : Nat) => ⟨gk, Tk, W ((mixl (digs BB 8 (K + v)) (digs BB 8 K) x))⟩ :: M) (fun (x : Nat) => 8 - x) (fun (x : Nat) => x ≤ 8) 0 (Nat.zero_le _) (allIn ⟨rfl, rfl, rfl, trivial⟩) (by rw [mixl_zero]; exact List.Sublist.refl _) ?_
  intro k hk8
  dsimp only
  refine at_seq ?_
  refine at_seq ?_
  rcases Nat.lt_or_ge k 8 with hlt | hge
  ·
    by_cases hc0 : vcar K v k = 0
    ·
      rw [mixl_tail (vcar_tail hc0)]
      refine at_region ?_
      refine at_d rfl rfl (opr_move rfl rfl) ?_
      refine at_d rfl rfl (opr_eq' (v' := .bool true) (opr_lss (a := k) (b := 8) rfl rfl rfl) (congrArg Value.bool (decide_eq_true hlt))) ?_
      refine at_d rfl rfl (opr_move rfl rfl) ?_
      refine at_d rfl rfl (opr_move rfl rfl) ?_
      refine at_d rfl rfl (opr_eq' (v' := .bool false) (opr_neq (a := vcar K v k) (b := 0) rfl rfl rfl) (congrArg Value.bool (decide_eq_false (fun h => h hc0)))) ?_
      refine at_d rfl rfl (opr_pickT rfl rfl rfl) ?_
      refine at_nil ?_
      refine at_then ?_
      refine at_cond_false rfl ?_
      refine at_exit ?_
      refine at_then_exit ?_
      refine at_then_exit ?_
      refine at_inBlock_same ?_
      exact done_of (res0 Try.results19) ⟨rfl, rfl⟩ (by repeat (first | exact List.Sublist.refl _ | apply List.Sublist.cons_cons | apply List.Sublist.cons))
    ·
      refine at_region ?_
      refine at_d rfl rfl (opr_move rfl rfl) ?_
      refine at_d rfl rfl (opr_eq' (v' := .bool true) (opr_lss (a := k) (b := 8) rfl rfl rfl) (congrArg Value.bool (decide_eq_true hlt))) ?_
      refine at_d rfl rfl (opr_move rfl rfl) ?_
      refine at_d rfl rfl (opr_move rfl rfl) ?_
      refine at_d rfl rfl (opr_eq' (v' := .bool true) (opr_neq (a := vcar K v k) (b := 0) rfl rfl rfl) (congrArg Value.bool (decide_eq_true hc0))) ?_
      refine at_d rfl rfl (opr_pickT rfl rfl rfl) ?_
      refine at_nil ?_
      refine at_then ?_
      refine at_cond_true rfl ?_
      refine at_skip ?_
      refine at_then ?_
      refine at_seq ?_
      refine at_block ?_
      refine at_seq ?_
      refine at_draw (by kernel_rfl) (by kernel_rfl) (by kernel_rfl) (List.cons_ne_nil _ _) ?_
      refine dr_op rfl rfl (opr_move rfl rfl) ?_
      refine dr_op rfl rfl (opr_move rfl rfl) ?_
      refine dr_op rfl rfl (opr_nilCheck rfl rfl) ?_
      refine dr_op rfl rfl (opr_indexAddr (j := k) (off' := k) rfl rfl rfl Try.underlying49 hlt size25 (by omega)) ?_
      refine dr_op rfl rfl (opr_load1 (i := 0) rfl rfl rfl Try.underlying25 rfl (W_get ((mixl_get (digs_length _ _ _) (Nat.le_of_lt hlt)).trans (digs_get 8 K k hlt)))) ?_
      refine dr_op rfl rfl (opr_move rfl rfl) ?_
      refine dr_op rfl rfl (opr_eq' (opr_add64 rfl rfl rfl) (u64_eq' (b := (K + v) / BB ^ k % BB) (vcar_dig K v k).symm)) ?_
      refine dr_op rfl rfl (opr_nilCheck rfl rfl) ?_
      refine dr_op rfl rfl (opr_indexAddr (j := k) (off' := k) rfl rfl rfl Try.underlying49 hlt size25 (by omega)) ?_
      refine dr_last rfl rfl (opr_store (i := 0) rfl rfl rfl rfl rfl size25 rfl (by rw [W_length, mixl_length (digs_length _ _ _) (digs_length _ _ _) (Nat.le_of_lt hlt)]; omega) flat_one (W_put (by rw [mixl_length (digs_length _ _ _) (digs_length _ _ _) (Nat.le_of_lt hlt)]; exact hlt) (mixl_put (digs_length _ _ _) (digs_length _ _ _) hlt (digs_get 8 (K + v) k hlt)))) ?_
      refine at_then ?_
      refine at_seq ?_
      refine at_region ?_
      refine at_d rfl rfl (opr_move rfl rfl) ?_
      refine at_d rfl rfl (opr_move rfl rfl) ?_
      refine at_d rfl rfl (opr_nilCheck rfl rfl) ?_
      refine at_d rfl rfl (opr_indexAddr (j := k) (off' := k) rfl rfl rfl Try.underlying49 hlt size25 (by omega)) ?_
      refine at_d rfl rfl (opr_load1 (i := 0) rfl rfl rfl Try.underlying25 rfl (W_get ((mixl_at (digs_length _ _ _) (digs_length _ _ _) hlt).trans (digs_get 8 (K + v) k hlt)))) ?_
      refine at_d rfl rfl (opr_move rfl rfl) ?_
      refine at_d rfl rfl (opr_lss (a := (K + v) / BB ^ k % BB) (b := vcar K v k) rfl rfl rfl) ?_
      refine at_nil ?_
      refine at_then ?_
      refine at_cond rfl (fun hl => ?_) (fun hl => ?_)
      ·
        refine at_region ?_
        refine at_d rfl rfl (opr_eq' (v' := .int .u64 ((vcar K v (k + 1) : Nat) : Int)) (opr_assign rfl rfl) (u64_eq' (a := 1) (by rw [vcar_if hv, if_pos (of_decide_eq_true hl)]))) ?_
        refine at_nil ?_
        refine at_inBlock_normal ?_
        refine at_then ?_
        refine at_region ?_
        refine at_d rfl rfl (opr_move rfl rfl) ?_
        refine at_d rfl rfl (opr_addI (a := k) (b := 1) rfl rfl rfl (by omega)) ?_
        refine at_d rfl rfl (opr_assign rfl rfl) ?_
        refine at_nil ?_
        exact at_round (k + 1) (by omega) (by omega) (allIn ⟨rfl, rfl, rfl, trivial⟩) (List.Sublist.refl _)
      ·
        refine at_region ?_
        refine at_d rfl rfl (opr_eq' (v' := .int .u64 ((vcar K v (k + 1) : Nat) : Int)) (opr_assign rfl rfl) (u64_eq' (a := 0) (by rw [vcar_if hv, if_neg (of_decide_eq_false hl)]))) ?_
        refine at_nil ?_
        refine at_inBlock_normal ?_
        refine at_then ?_
        refine at_region ?_
        refine at_d rfl rfl (opr_move rfl rfl) ?_
        refine at_d rfl rfl (opr_addI (a := k) (b := 1) rfl rfl rfl (by omega)) ?_
        refine at_d rfl rfl (opr_assign rfl rfl) ?_
        refine at_nil ?_
        exact at_round (k + 1) (by omega) (by omega) (allIn ⟨rfl, rfl, rfl, trivial⟩) (List.Sublist.refl _)
  ·
    obtain rfl : k = 8 := by omega
    rw [mixl_end (digs_length _ _ _) (digs_length _ _ _)]
    refine at_region ?_
    refine at_d rfl rfl (opr_move rfl rfl) ?_
    refine at_d rfl rfl (opr_eq' (v' := .bool false) (opr_lss (a := 8) (b := 8) rfl rfl rfl) rfl) ?_
    refine at_d rfl rfl (opr_move rfl rfl) ?_
    refine at_op_skip rfl rfl ?_
    refine at_op_skip rfl rfl ?_
    refine at_d rfl rfl (opr_pickN rfl rfl rfl) ?_
    refine at_nil ?_
    refine at_then ?_
    refine at_cond_false rfl ?_
    refine at_exit ?_
    refine at_then_exit ?_
    refine at_then_exit ?_
    refine at_inBlock_same ?_
    exact done_of (res0 Try.results19) ⟨rfl, rfl⟩ (by repeat (first | exact List.Sublist.refl _ | apply List.Sublist.cons_cons | apply List.Sublist.cons))
theorem zzNaf_ct {M : Mem} {ix gx Tx K0 w : Nat} (hX : M[ix]? = some ⟨gx, Tx, EE [K0]⟩) (hK : K0 < RR) (hw : 2 ≤ w) (hw16 : w ≤ 16) : Ct Try.prog 16 #[.slice (some ⟨gx, 0, none⟩) 56 56, .int .u64 (w : Int)] M (fun v M' => ∃ so x, v = slV so x ∧ SlI so ((nafD w K0 x).map i32V) ∧ NafC w K0 x ∧ kx w K0 x = 0 ∧ (so = none ↔ x = 0) ∧ M' = slM 21 so ++ M) := by
  refine ct_of (vs := [.slice (some ⟨gx, 0, none⟩) 56 56, .int .u64 (w : Int)]) Try.func16 rfl Try.ntmps16 rfl fun w0 => ?_
  refine at_seq ?_
  refine at_region ?_
  refine at_d rfl rfl (opr_assign rfl rfl) ?_
  refine at_nil ?_
  refine at_then ?_
  refine at_seq ?_
  refine at_region ?_
  refine at_n rfl rfl (opr_alloc rfl zero49 rfl) ?_
  intro g0
  refine at_nil ?_
  refine at_then ?_
  refine at_seq ?_
  refine at_seq ?_
  refine at_region ?_
  refine at_d rfl rfl (opr_assign rfl rfl) ?_
  refine at_nil ?_
  refine at_then ?_
  refine at_block ?_
  refine at_loop (fun (x : Nat) => [(0, .slice (some ⟨gx, 0, none⟩) 56 56), (1, .int .u64 (w : Int)), (4, .slice none 0 0), (5, .pointer (some ⟨g0, 0, none⟩)), (6, .int .i64 (x : Int))]) (fun (x : Nat) => ⟨g0, 49, W ((digs BB 8 (K0 % 256 ^ x)))⟩ :: M) (fun (x : Nat) => 56 - x) (fun (x : Nat) => x ≤ 56) 0 (Nat.zero_le _) (allIn ⟨rfl, rfl, rfl, rfl, rfl, trivial⟩) (by simp only [Nat.pow_zero, Nat.mod_one]; exact List.Sublist.refl _) ?_
  intro k hk56
  dsimp only
  refine at_seq ?_
  refine at_seq ?_
  refine at_region ?_
  refine at_d rfl rfl (opr_move rfl rfl) ?_
  refine at_d rfl rfl (opr_move rfl rfl) ?_
  refine at_d rfl rfl (opr_lenS (n := 56) rfl rfl Try.underlying44) ?_
  refine at_d rfl rfl (opr_lss (a := k) (b := 56) rfl rfl rfl) ?_
  refine at_nil ?_
  refine at_then ?_
  refine at_cond rfl (fun ht => ?_) (fun ht => ?_)
  ·
    have hlt : k < 56 := of_decide_eq_true ht
    refine at_skip ?_
    refine at_then ?_
    refine at_seq ?_
    refine at_block ?_
    refine at_draw (by kernel_rfl) (by kernel_rfl) (by kernel_rfl) (List.cons_ne_nil _ _) ?_
    refine dr_op rfl rfl (opr_move rfl rfl) ?_
    refine dr_op rfl rfl (opr_quoI (a := k) (b := 8) rfl rfl rfl (by decide) (by omega)) ?_
    refine dr_op rfl rfl (opr_indexAddr (j := k / 8) (off' := k / 8) rfl rfl rfl Try.underlying49 (by omega) size25 (by omega)) ?_
    refine dr_op rfl rfl (opr_load1 (i := 0) rfl rfl rfl Try.underlying25 rfl (W_get (digs_get 8 (K0 % 256 ^ k) (k / 8) (by omega)))) ?_
    refine dr_op rfl rfl (opr_move rfl rfl) ?_
    refine dr_op rfl rfl (opr_move rfl rfl) ?_
    refine dr_op rfl rfl (opr_indexAddrS (j := k) (off' := k) rfl rfl rfl Try.underlying44 hlt size5 (by omega)) ?_
    refine dr_op rfl rfl (opr_load1 (i := ix + 1) rfl rfl hX Try.underlying5 rfl (EE1_get hlt)) ?_
    refine dr_op rfl rfl (opr_to64 (n := K0 / 256 ^ k % 256) rfl rfl Try.underlying5 Try.underlying25 (Nat.lt_trans (Nat.mod_lt _ (by decide)) (by decide))) ?_
    refine dr_op rfl rfl (opr_move rfl rfl) ?_
    refine dr_op rfl rfl (opr_remI (a := k) (b := 8) rfl rfl rfl (by decide)) ?_
    refine dr_op rfl rfl (opr_to64 (n := k % 8) rfl rfl Try.underlying3 Try.underlying23 (by omega)) ?_
    refine dr_op rfl rfl (opr_eq' (opr_mul64 (a := 8) (b := k % 8) rfl rfl rfl) (u64_eq' (b := 8 * (k % 8)) (Nat.mod_eq_of_lt (by omega)))) ?_
    refine dr_op rfl rfl (opr_shl64 (n := 8 * (k % 8)) rfl rfl rfl (by omega)) ?_
    refine dr_op rfl rfl (opr_or64 rfl rfl rfl (Nat.mod_lt _ (by decide)) (Nat.mod_lt _ (by decide))) ?_
    refine dr_op rfl rfl (opr_indexAddr (j := k / 8) (off' := k / 8) rfl rfl rfl Try.underlying49 (by omega) size25 (by omega)) ?_
    refine dr_last rfl rfl (opr_store (i := 0) rfl rfl rfl rfl rfl size25 rfl (by rw [W_length, digs_length]; omega) flat_one (W_put (by rw [digs_length]; omega) (byte_put hlt))) ?_
    refine at_inBlock_normal ?_
    refine at_then ?_
    refine at_region ?_
    refine at_d rfl rfl (opr_move rfl rfl) ?_
    refine at_d rfl rfl (opr_addI (a := k) (b := 1) rfl rfl rfl (by omega)) ?_
    refine at_d rfl rfl (opr_assign rfl rfl) ?_
    refine at_nil ?_
    exact at_round (k + 1) (by omega) (by omega) (allIn ⟨rfl, rfl, rfl, rfl, rfl, trivial⟩) (List.Sublist.refl _)
  ·
    obtain rfl : k = 56 := by have := of_decide_eq_false ht; omega
    rw [mod56 hK]
    refine at_exit ?_
    refine at_then_exit ?_
    refine at_then_exit ?_
    refine at_inBlock_same ?_
    refine at_then ?_
    refine at_seq ?_
    refine at_block ?_
    refine at_loop2 (fun (x : Nat) (so : Option Sl) => [(1, .int .u64 (w : Int)), (4, slV so x), (5, .pointer (some ⟨g0, 0, none⟩))]) (fun (x : Nat) (so : Option Sl) => ⟨g0, 49, W ((digs BB 8 (kx w K0 x)))⟩ :: (slM 21 so ++ M)) (fun (x : Nat) (so : Option Sl) => kx w K0 x) (fun (x : Nat) (so : Option Sl) => NafC w K0 x ∧ SlI so ((nafD w K0 x).map i32V) ∧ (so = none ↔ x = 0)) 0 none ⟨NafC.start w K0, rfl, by simp⟩ (allIn ⟨rfl, rfl, rfl, trivial⟩) (List.Sublist.refl _) ?_
    rintro k so ⟨hC, hsI, hsn⟩
    dsimp only
    refine at_seq ?_
    refine at_seq ?_
    refine at_region ?_
    refine at_d rfl rfl (opr_call rfl rfl rfl Try.func18 (by kernel_rfl) rfl (zzPos_ct (ik := 0) rfl (by have := hC.lt hw hw16 hK; omega))) ?_
    refine at_nil ?_
    refine at_then ?_
    refine at_cond rfl (fun ht => ?_) (fun ht => ?_)
    ·
      have hpos : 0 < (kx w K0 k) := Nat.pos_of_ne_zero (of_decide_eq_true ht)
      refine at_skip ?_
      refine at_then ?_
      refine at_block ?_
      refine at_seq ?_
      refine at_region ?_
      refine at_d rfl rfl (opr_assign rfl rfl) ?_
      refine at_nil ?_
      refine at_then ?_
      refine at_seq ?_
      refine at_seq ?_
      refine at_region ?_
      refine at_d rfl rfl (opr_indexAddr (j := 0) rfl rfl rfl Try.underlying49 (by decide) size25 rfl) ?_
      refine at_d rfl rfl (opr_load1 (i := 0) rfl rfl rfl Try.underlying25 rfl (W_get (digs_get 8 (kx w K0 k) 0 (by decide)))) ?_
      refine at_d rfl rfl (opr_eq' (opr_and64 (b := 1) rfl rfl rfl (Nat.mod_lt _ (by decide)) (by decide)) (u64_eq' (b := (kx w K0 k) % 2) (and_1 _))) ?_
      refine at_d rfl rfl (opr_eql (a := (kx w K0 k) % 2) (b := 1) rfl rfl rfl) ?_
      refine at_nil ?_
      refine at_then ?_
      refine at_cond rfl (fun ht2 => ?_) (fun ht2 => ?_)
      ·
        have ho : (kx w K0 k) % 2 = 1 := of_decide_eq_true ht2
        refine at_seq ?_
        refine at_region ?_
        refine at_d rfl rfl (opr_indexAddr (j := 0) rfl rfl rfl Try.underlying49 (by decide) size25 rfl) ?_
        refine at_d rfl rfl (opr_load1 (i := 0) rfl rfl rfl Try.underlying25 rfl (W_get (digs_get 8 (kx w K0 k) 0 (by decide)))) ?_
        refine at_d rfl rfl (opr_move rfl rfl) ?_
        refine at_d rfl rfl (opr_eq' (opr_shl64 (a := 1) (n := w) rfl rfl rfl (by omega)) (u64_eq' (b := 2 ^ w) (by rw [Nat.one_mul, Nat.mod_eq_of_lt (by have := pw_le hw16; omega)]))) ?_
        refine at_d rfl rfl (opr_eq' (opr_sub64 (a := 2 ^ w) (b := 1) rfl rfl rfl (by decide)) (u64_eq' (b := 2 ^ w - 1) (by have := pw_le hw16; have := Nat.pow_pos (n := w) (show 0 < 2 by decide); omega))) ?_
        refine at_d rfl rfl (opr_eq' (opr_and64 (b := 2 ^ w - 1) rfl rfl rfl (Nat.mod_lt _ (by decide)) (by have := pw_le hw16; omega)) (u64_eq' (b := (kx w K0 k) % 2 ^ w) (and_w hw16))) ?_
        refine at_d rfl rfl (opr_conv (c := (((kx w K0 k) % 2 ^ w : Nat) : Int)) rfl rfl Try.underlying25 Try.underlying21 (wrap_i32 _ (by omega) (by have hr0 := Nat.mod_lt (kx w K0 k) (Nat.pow_pos (n := w) (show 0 < 2 by decide)); have hpw := pw_le hw16; omega))) ?_
        refine at_d rfl rfl (opr_assign rfl rfl) ?_
        refine at_nil ?_
        refine at_then ?_
        refine at_seq ?_
        refine at_region ?_
        refine at_d rfl rfl (opr_move rfl rfl) ?_
        refine at_d rfl rfl (opr_move rfl rfl) ?_
        refine at_d rfl rfl (opr_eq' (opr_sub64 (a := w) (b := 1) rfl rfl rfl (by decide)) (u64_eq' (b := w - 1) (by omega))) ?_
        refine at_d rfl rfl (opr_shlK (a := 1) (n := w - 1) rfl rfl rfl (show w - 1 ≤ 32 by omega) (wrap_shl32 (by omega))) ?_
        refine at_d rfl rfl (opr_geqK rfl rfl rfl) ?_
        refine at_nil ?_
        refine at_then ?_
        refine at_cond rfl (fun ht2 => ?_) (fun ht2 => ?_)
        ·
          have hge : 2 ^ (w - 1) ≤ (kx w K0 k) % 2 ^ w := by have := of_decide_eq_true ht2; omega
          have hnd : Value.int .i32 (nd w (kx w K0 k)) = .int .i32 (nd w (kx w K0 k)) := rfl
          refine at_seq ?_
          refine at_region ?_
          refine at_d rfl rfl (opr_move rfl rfl) ?_
          refine at_d rfl rfl (opr_move rfl rfl) ?_
          refine at_d rfl rfl (opr_shlK (a := 1) (n := w) rfl rfl rfl (show w ≤ 32 by omega) (wrap_shl32 hw16)) ?_
          refine at_d rfl rfl (opr_subK (c := nd w (kx w K0 k)) rfl rfl rfl (by rw [nd_ge ho hge, wrap_i32 _ (by have hr0 := Nat.mod_lt (kx w K0 k) (Nat.pow_pos (n := w) (show 0 < 2 by decide)); have hpw := pw_le hw16; omega) (by have hr0 := Nat.mod_lt (kx w K0 k) (Nat.pow_pos (n := w) (show 0 < 2 by decide)); have hpw := pw_le hw16; omega)])) ?_
          refine at_d rfl rfl (opr_assign rfl rfl) ?_
          refine at_nil ?_
          refine at_then ?_
          refine at_region ?_
          refine at_d rfl rfl (opr_move rfl rfl) ?_
          refine at_d rfl rfl (opr_negK (c := ((2 ^ w - (kx w K0 k) % 2 ^ w : Nat) : Int)) rfl rfl (by rw [nd_ge ho hge, wrap_i32 _ (by have hr0 := Nat.mod_lt (kx w K0 k) (Nat.pow_pos (n := w) (show 0 < 2 by decide)); have hpw := pw_le hw16; omega) (by have hr0 := Nat.mod_lt (kx w K0 k) (Nat.pow_pos (n := w) (show 0 < 2 by decide)); have hpw := pw_le hw16; omega)]; have hr0 := Nat.mod_lt (kx w K0 k) (Nat.pow_pos (n := w) (show 0 < 2 by decide)); have hpw := pw_le hw16; omega)) ?_
          refine at_d rfl rfl (opr_to64 (n := 2 ^ w - (kx w K0 k) % 2 ^ w) rfl rfl Try.underlying21 Try.underlying25 (by have hr0 := Nat.mod_lt (kx w K0 k) (Nat.pow_pos (n := w) (show 0 < 2 by decide)); have hpw := pw_le hw16; omega)) ?_
          refine at_d rfl rfl (opr_call rfl rfl rfl Try.func19 (by kernel_rfl) rfl (zzPlus_ct (v := 2 ^ w - (kx w K0 k) % 2 ^ w) (by simp only [BB]; have hr0 := Nat.mod_lt (kx w K0 k) (Nat.pow_pos (n := w) (show 0 < 2 by decide)); have hpw := pw_le hw16; omega) rfl)) ?_
          refine at_nil ?_
          rw [nk1_ge ho hge]
          refine at_then ?_
          refine at_seq ?_
          refine at_region ?_
          refine at_d rfl rfl (opr_move rfl rfl) ?_
          refine at_d rfl rfl (opr_eq' (opr_move rfl rfl) hnd) ?_
          refine at_c rfl rfl (opr_buildSliceV (s := 1) (zv := .int .i32 0) (cs := [.int .i32 0]) (ds := [(.int .i32 (nd w (kx w K0 k)))]) rfl rfl Try.underlying40 (by kernel_rfl) (by decide) (by decide) (by kernel_rfl) rfl) ?_
          rintro _ _ ⟨gV, rfl, rfl⟩
          refine at_c rfl rfl (opr_appendO (M := M) (fr := [⟨gV, 21, [(.int .i32 (nd w (kx w K0 k)))]⟩, ⟨g0, 49, W (digs BB 8 (nk1 w (kx w K0 k)))⟩]) (so := so) (j := 0) (z := .int .i32 0) rfl rfl rfl hsI (by rw [List.length_map, nafD_length]) rfl (by decide) rfl rfl flat_one Try.underlying40 (by kernel_rfl) rfl (by kernel_rfl) (by have := hC.len hw16; omega)) ?_
          rintro _ _ ⟨s', rfl, hs', rfl⟩
          refine at_d rfl rfl (opr_assign rfl rfl) ?_
          refine at_nil ?_
          refine at_then ?_
          refine at_seq ?_
          have hN8 : (nk1 w (kx w K0 k)) < BB ^ 8 := by have h1 := hC.lt hw hw16 hK; have h2 := nk1_le (k := (kx w K0 k)) hw; have h3 : 2 ^ (w - 1) ≤ 65536 := pw_le (by omega); omega
          refine at_region ?_
          refine at_d rfl rfl (opr_assign rfl rfl) ?_
          refine at_nil ?_
          refine at_then ?_
          refine at_block ?_
          refine at_loop (fun (x : Nat) => [(1, .int .u64 (w : Int)), (4, .slice (some ⟨s'.g, 0, none⟩) (k + 1) s'.cap), (5, .pointer (some ⟨g0, 0, none⟩)), (8, .int .i64 (x : Int))]) (fun (x : Nat) => ⟨s'.g, 21, s'.cs⟩ :: ⟨gV, 21, [(.int .i32 (nd w (kx w K0 k)))]⟩ :: ⟨g0, 49, W ((mixl (digs BB 8 ((nk1 w (kx w K0 k)) / 2)) (digs BB 8 (nk1 w (kx w K0 k))) x))⟩ :: M) (fun (x : Nat) => 8 - x) (fun (x : Nat) => x ≤ 8) 0 (Nat.zero_le _) (allIn ⟨rfl, rfl, rfl, rfl, trivial⟩) (by rw [mixl_zero]; exact List.Sublist.refl _) ?_
          intro y hy8
          dsimp only
          refine at_seq ?_
          refine at_seq ?_
          refine at_region ?_
          refine at_d rfl rfl (opr_move rfl rfl) ?_
          refine at_d rfl rfl (opr_lss (a := y) (b := 8) rfl rfl rfl) ?_
          refine at_nil ?_
          refine at_then ?_
          refine at_cond rfl (fun ht3 => ?_) (fun ht3 => ?_)
          ·
            have hy : y < 8 := of_decide_eq_true ht3
            refine at_skip ?_
            refine at_then ?_
            refine at_seq ?_
            refine at_block ?_
            refine at_seq ?_
            refine at_region ?_
            refine at_d rfl rfl (opr_move rfl rfl) ?_
            refine at_d rfl rfl (opr_indexAddr (j := y) (off' := y) rfl rfl rfl Try.underlying49 hy size25 (by omega)) ?_
            refine at_d rfl rfl (opr_load1 (i := 2) rfl rfl rfl Try.underlying25 rfl (W_get ((mixl_get (digs_length _ _ _) (Nat.le_of_lt hy)).trans (digs_get 8 (nk1 w (kx w K0 k)) y hy)))) ?_
            refine at_d rfl rfl (opr_eq' (opr_shr64 (n := 1) rfl rfl rfl (by decide)) (u64_eq' (b := ((nk1 w (kx w K0 k)) / BB ^ y % BB) / 2) rfl)) ?_
            refine at_d rfl rfl (opr_indexAddr (j := y) (off' := y) rfl rfl rfl Try.underlying49 hy size25 (by omega)) ?_
            refine at_d rfl rfl (opr_store (i := 2) rfl rfl rfl rfl rfl size25 rfl (by rw [W_length, mixl_length (digs_length _ _ _) (digs_length _ _ _) (Nat.le_of_lt hy)]; omega) flat_one (W_put (by rw [mixl_length (digs_length _ _ _) (digs_length _ _ _) (Nat.le_of_lt hy)]; exact hy) rfl)) ?_
            refine at_nil ?_
            refine at_then ?_
            refine at_seq ?_
            refine at_region ?_
            refine at_d rfl rfl (opr_move rfl rfl) ?_
            refine at_d rfl rfl (opr_lss (a := y) (b := 7) rfl rfl rfl) ?_
            refine at_nil ?_
            refine at_then ?_
            refine at_cond rfl (fun ht4 => ?_) (fun ht4 => ?_)
            ·
              have hy7 : y < 7 := of_decide_eq_true ht4
              refine at_draw (by kernel_rfl) (by kernel_rfl) (by kernel_rfl) (List.cons_ne_nil _ _) ?_
              refine dr_op rfl rfl (opr_move rfl rfl) ?_
              refine dr_op rfl rfl (opr_indexAddr (j := y) (off' := y) rfl rfl rfl Try.underlying49 hy size25 (by omega)) ?_
              refine dr_op rfl rfl (opr_load1 (i := 2) rfl rfl rfl Try.underlying25 rfl (W_get (List.getElem?_set_self (by rw [mixl_length (digs_length _ _ _) (digs_length _ _ _) (Nat.le_of_lt hy)]; exact hy)))) ?_
              refine dr_op rfl rfl (opr_move rfl rfl) ?_
              refine dr_op rfl rfl (opr_addI (a := y) (b := 1) rfl rfl rfl (by omega)) ?_
              refine dr_op rfl rfl (opr_indexAddr (j := y + 1) (off' := y + 1) rfl rfl rfl Try.underlying49 (by omega) size25 (by omega)) ?_
              refine dr_op rfl rfl (opr_load1 (i := 2) rfl rfl rfl Try.underlying25 rfl (W_get ((List.getElem?_set_ne (by omega)).trans ((mixl_ge (digs_length _ _ _) (Nat.le_of_lt hy) (Nat.le_succ _)).trans (digs_get 8 (nk1 w (kx w K0 k)) (y + 1) (by omega)))))) ?_
              refine dr_op rfl rfl (opr_shl64 (n := 63) rfl rfl rfl (by decide)) ?_
              refine dr_op rfl rfl (opr_or64 rfl rfl rfl (Nat.lt_of_le_of_lt (Nat.div_le_self _ _) (Nat.mod_lt _ (by decide))) (Nat.mod_lt _ (by decide))) ?_
              refine dr_op rfl rfl (opr_indexAddr (j := y) (off' := y) rfl rfl rfl Try.underlying49 hy size25 (by omega)) ?_
              refine dr_last rfl rfl (opr_store (i := 2) rfl rfl rfl rfl rfl size25 rfl (by rw [W_length, List.length_set, mixl_length (digs_length _ _ _) (digs_length _ _ _) (Nat.le_of_lt hy)]; omega) flat_one (W_put (by rw [List.length_set, mixl_length (digs_length _ _ _) (digs_length _ _ _) (Nat.le_of_lt hy)]; exact hy) (set_set_mix (digs_length _ _ _) (digs_length _ _ _) hy ((digs_get 8 ((nk1 w (kx w K0 k)) / 2) y hy).trans (congrArg some (half64 (nk1 w (kx w K0 k)) y)))))) ?_
              refine at_inBlock_normal ?_
              refine at_then ?_
              refine at_region ?_
              refine at_d rfl rfl (opr_move rfl rfl) ?_
              refine at_d rfl rfl (opr_addI (a := y) (b := 1) rfl rfl rfl (by omega)) ?_
              refine at_d rfl rfl (opr_assign rfl rfl) ?_
              refine at_nil ?_
              exact at_round (y + 1) (by omega) (by omega) (allIn ⟨rfl, rfl, rfl, rfl, trivial⟩) (List.Sublist.refl _)
            ·
              have e7 : y = 7 := by have := of_decide_eq_false ht4; omega
              rw [show ((mixl (digs BB 8 ((nk1 w (kx w K0 k)) / 2)) (digs BB 8 (nk1 w (kx w K0 k))) y).set y (((nk1 w (kx w K0 k)) / BB ^ y % BB) / 2)) = (mixl (digs BB 8 ((nk1 w (kx w K0 k)) / 2)) (digs BB 8 (nk1 w (kx w K0 k))) (y + 1)) from mixl_put (digs_length _ _ _) (digs_length _ _ _) hy ((digs_get 8 ((nk1 w (kx w K0 k)) / 2) y hy).trans (congrArg some (half64_top' hN8 e7)))]
              refine at_skip ?_
              refine at_inBlock_normal ?_
              refine at_then ?_
              refine at_region ?_
              refine at_d rfl rfl (opr_move rfl rfl) ?_
              refine at_d rfl rfl (opr_addI (a := y) (b := 1) rfl rfl rfl (by omega)) ?_
              refine at_d rfl rfl (opr_assign rfl rfl) ?_
              refine at_nil ?_
              exact at_round (y + 1) (by omega) (by omega) (allIn ⟨rfl, rfl, rfl, rfl, trivial⟩) (List.Sublist.refl _)
          ·
            obtain rfl : y = 8 := by have := of_decide_eq_false ht3; omega
            rw [mixl_end (digs_length _ _ _) (digs_length _ _ _)]
            refine at_exit ?_
            refine at_then_exit ?_
            refine at_then_exit ?_
            refine at_inBlock_same ?_
            refine at_inBlock_normal ?_
            refine at_perm (List.perm_middle (l₁ := [_, _])).symm ?_
            exact at_round2 (k + 1) (some s') ⟨hC.step hw hK hpos, by rw [nafD_succ, List.map_append]; exact hs', by simp⟩ (nk_lt hw hpos) (allIn ⟨rfl, rfl, rfl, trivial⟩) (.cons_cons _ (.cons_cons _ (.cons _ (.refl _))))
        ·
          have hge : ¬ 2 ^ (w - 1) ≤ (kx w K0 k) % 2 ^ w := by have := of_decide_eq_false ht2; omega
          have hnd : Value.int .i32 (((kx w K0 k) % 2 ^ w : Nat) : Int) = .int .i32 (nd w (kx w K0 k)) := int_eq (nd_lt ho hge).symm
          refine at_region ?_
          refine at_d rfl rfl (opr_indexAddr (j := 0) rfl rfl rfl Try.underlying49 (by decide) size25 rfl) ?_
          refine at_d rfl rfl (opr_load1 (i := 0) rfl rfl rfl Try.underlying25 rfl (W_get (digs_get 8 (kx w K0 k) 0 (by decide)))) ?_
          refine at_d rfl rfl (opr_move rfl rfl) ?_
          refine at_d rfl rfl (opr_to64 (n := (kx w K0 k) % 2 ^ w) rfl rfl Try.underlying21 Try.underlying25 (by have hr0 := Nat.mod_lt (kx w K0 k) (Nat.pow_pos (n := w) (show 0 < 2 by decide)); have hpw := pw_le hw16; omega)) ?_
          refine at_d rfl rfl (opr_eq' (opr_sub64 (a := (kx w K0 k) / BB ^ 0 % BB) (b := (kx w K0 k) % 2 ^ w) rfl rfl rfl (by have hr0 := Nat.mod_lt (kx w K0 k) (Nat.pow_pos (n := w) (show 0 < 2 by decide)); have hpw := pw_le hw16; omega)) (u64_eq' (b := (kx w K0 k) / BB ^ 0 % BB - (kx w K0 k) % 2 ^ w) (by have h1 := mod_wB (k := (kx w K0 k)) hw16; have h2 : (kx w K0 k) % BB < BB := Nat.mod_lt _ (by decide); rw [Nat.pow_zero, Nat.div_one] at *; simp only [BB] at *; omega))) ?_
          refine at_d rfl rfl (opr_indexAddr (j := 0) rfl rfl rfl Try.underlying49 (by decide) size25 rfl) ?_
          refine at_d rfl rfl (opr_store (i := 0) rfl rfl rfl rfl rfl size25 rfl (by rw [W_length, digs_length]; omega) flat_one (W_put (by rw [digs_length]; omega) ((sub_low (mod_wB hw16)).trans (congrArg (digs BB 8) (nk1_lt ho hge))))) ?_
          refine at_nil ?_
          refine at_then ?_
          refine at_seq ?_
          refine at_region ?_
          refine at_d rfl rfl (opr_move rfl rfl) ?_
          refine at_d rfl rfl (opr_eq' (opr_move rfl rfl) hnd) ?_
          refine at_c rfl rfl (opr_buildSliceV (s := 1) (zv := .int .i32 0) (cs := [.int .i32 0]) (ds := [(.int .i32 (nd w (kx w K0 k)))]) rfl rfl Try.underlying40 (by kernel_rfl) (by decide) (by decide) (by kernel_rfl) rfl) ?_
          rintro _ _ ⟨gV, rfl, rfl⟩
          refine at_c rfl rfl (opr_appendO (M := M) (fr := [⟨gV, 21, [(.int .i32 (nd w (kx w K0 k)))]⟩, ⟨g0, 49, W (digs BB 8 (nk1 w (kx w K0 k)))⟩]) (so := so) (j := 0) (z := .int .i32 0) rfl rfl rfl hsI (by rw [List.length_map, nafD_length]) rfl (by decide) rfl rfl flat_one Try.underlying40 (by kernel_rfl) rfl (by kernel_rfl) (by have := hC.len hw16; omega)) ?_
          rintro _ _ ⟨s', rfl, hs', rfl⟩
          refine at_d rfl rfl (opr_assign rfl rfl) ?_
          refine at_nil ?_
          refine at_then ?_
          refine at_seq ?_
          have hN8 : (nk1 w (kx w K0 k)) < BB ^ 8 := by have h1 := hC.lt hw hw16 hK; have h2 := nk1_le (k := (kx w K0 k)) hw; have h3 : 2 ^ (w - 1) ≤ 65536 := pw_le (by omega); omega
          refine at_region ?_
          refine at_d rfl rfl (opr_assign rfl rfl) ?_
          refine at_nil ?_
          refine at_then ?_
          refine at_block ?_
          refine at_loop (fun (x : Nat) => [(1, .int .u64 (w : Int)), (4, .slice (some ⟨s'.g, 0, none⟩) (k + 1) s'.cap), (5, .pointer (some ⟨g0, 0, none⟩)), (8, .int .i64 (x : Int))]) (fun (x : Nat) => ⟨s'.g, 21, s'.cs⟩ :: ⟨gV, 21, [(.int .i32 (nd w (kx w K0 k)))]⟩ :: ⟨g0, 49, W ((mixl (digs BB 8 ((nk1 w (kx w K0 k)) / 2)) (digs BB 8 (nk1 w (kx w K0 k))) x))⟩ :: M) (fun (x : Nat) => 8 - x) (fun (x : Nat) => x ≤ 8) 0 (Nat.zero_le _) (allIn ⟨rfl, rfl, rfl, rfl, trivial⟩) (by rw [mixl_zero]; exact List.Sublist.refl _) ?_
          intro y hy8
          dsimp only
          refine at_seq ?_
          refine at_seq ?_
          refine at_region ?_
          refine at_d rfl rfl (opr_move rfl rfl) ?_
          refine at_d rfl rfl (opr_lss (a := y) (b := 8) rfl rfl rfl) ?_
          refine at_nil ?_
          refine at_then ?_
          refine at_cond rfl (fun ht3 => ?_) (fun ht3 => ?_)
          ·
            have hy : y < 8 := of_decide_eq_true ht3
            refine at_skip ?_
            refine at_then ?_
            refine at_seq ?_
            refine at_block ?_
            refine at_seq ?_
            refine at_region ?_
            refine at_d rfl rfl (opr_move rfl rfl) ?_
            refine at_d rfl rfl (opr_indexAddr (j := y) (off' := y) rfl rfl rfl Try.underlying49 hy size25 (by omega)) ?_
            refine at_d rfl rfl (opr_load1 (i := 2) rfl rfl rfl Try.underlying25 rfl (W_get ((mixl_get (digs_length _ _ _) (Nat.le_of_lt hy)).trans (digs_get 8 (nk1 w (kx w K0 k)) y hy)))) ?_
            refine at_d rfl rfl (opr_eq' (opr_shr64 (n := 1) rfl rfl rfl (by decide)) (u64_eq' (b := ((nk1 w (kx w K0 k)) / BB ^ y % BB) / 2) rfl)) ?_
            refine at_d rfl rfl (opr_indexAddr (j := y) (off' := y) rfl rfl rfl Try.underlying49 hy size25 (by omega)) ?_
            refine at_d rfl rfl (opr_store (i := 2) rfl rfl rfl rfl rfl size25 rfl (by rw [W_length, mixl_length (digs_length _ _ _) (digs_length _ _ _) (Nat.le_of_lt hy)]; omega) flat_one (W_put (by rw [mixl_length (digs_length _ _ _) (digs_length _ _ _) (Nat.le_of_lt hy)]; exact hy) rfl)) ?_
            refine at_nil ?_
            refine at_then ?_
            refine at_seq ?_
            refine at_region ?_
            refine at_d rfl rfl (opr_move rfl rfl) ?_
            refine at_d rfl rfl (opr_lss (a := y) (b := 7) rfl rfl rfl) ?_
            refine at_nil ?_
            refine at_then ?_
            refine at_cond rfl (fun ht4 => ?_) (fun ht4 => ?_)
            ·
              have hy7 : y < 7 := of_decide_eq_true ht4
              refine at_draw (by kernel_rfl) (by kernel_rfl) (by kernel_rfl) (List.cons_ne_nil _ _) ?_
              refine dr_op rfl rfl (opr_move rfl rfl) ?_
              refine dr_op rfl rfl (opr_indexAddr (j := y) (off' := y) rfl rfl rfl Try.underlying49 hy size25 (by omega)) ?_
              refine dr_op rfl rfl (opr_load1 (i := 2) rfl rfl rfl Try.underlying25 rfl (W_get (List.getElem?_set_self (by rw [mixl_length (digs_length _ _ _) (digs_length _ _ _) (Nat.le_of_lt hy)]; exact hy)))) ?_
              refine dr_op rfl rfl (opr_move rfl rfl) ?_
              refine dr_op rfl rfl (opr_addI (a := y) (b := 1) rfl rfl rfl (by omega)) ?_
              refine dr_op rfl rfl (opr_indexAddr (j := y + 1) (off' := y + 1) rfl rfl rfl Try.underlying49 (by omega) size25 (by omega)) ?_
              refine dr_op rfl rfl (opr_load1 (i := 2) rfl rfl rfl Try.underlying25 rfl (W_get ((List.getElem?_set_ne (by omega)).trans ((mixl_ge (digs_length _ _ _) (Nat.le_of_lt hy) (Nat.le_succ _)).trans (digs_get 8 (nk1 w (kx w K0 k)) (y + 1) (by omega)))))) ?_
              refine dr_op rfl rfl (opr_shl64 (n := 63) rfl rfl rfl (by decide)) ?_
              refine dr_op rfl rfl (opr_or64 rfl rfl rfl (Nat.lt_of_le_of_lt (Nat.div_le_self _ _) (Nat.mod_lt _ (by decide))) (Nat.mod_lt _ (by decide))) ?_
              refine dr_op rfl rfl (opr_indexAddr (j := y) (off' := y) rfl rfl rfl Try.underlying49 hy size25 (by omega)) ?_
              refine dr_last rfl rfl (opr_store (i := 2) rfl rfl rfl rfl rfl size25 rfl (by rw [W_length, List.length_set, mixl_length (digs_length _ _ _) (digs_length _ _ _) (Nat.le_of_lt hy)]; omega) flat_one (W_put (by rw [List.length_set, mixl_length (digs_length _ _ _) (digs_length _ _ _) (Nat.le_of_lt hy)]; exact hy) (set_set_mix (digs_length _ _ _) (digs_length _ _ _) hy ((digs_get 8 ((nk1 w (kx w K0 k)) / 2) y hy).trans (congrArg some (half64 (nk1 w (kx w K0 k)) y)))))) ?_
              refine at_inBlock_normal ?_
              refine at_then ?_
              refine at_region ?_
              refine at_d rfl rfl (opr_move rfl rfl) ?_
              refine at_d rfl rfl (opr_addI (a := y) (b := 1) rfl rfl rfl (by omega)) ?_
              refine at_d rfl rfl (opr_assign rfl rfl) ?_
              refine at_nil ?_
              exact at_round (y + 1) (by omega) (by omega) (allIn ⟨rfl, rfl, rfl, rfl, trivial⟩) (List.Sublist.refl _)
            ·
              have e7 : y = 7 := by have := of_decide_eq_false ht4; omega
              rw [show ((mixl (digs BB 8 ((nk1 w (kx w K0 k)) / 2)) (digs BB 8 (nk1 w (kx w K0 k))) y).set y (((nk1 w (kx w K0 k)) / BB ^ y % BB) / 2)) = (mixl (digs BB 8 ((nk1 w (kx w K0 k)) / 2)) (digs BB 8 (nk1 w (kx w K0 k))) (y + 1)) from mixl_put (digs_length _ _ _) (digs_length _ _ _) hy ((digs_get 8 ((nk1 w (kx w K0 k)) / 2) y hy).trans (congrArg some (half64_top' hN8 e7)))]
              refine at_skip ?_
              refine at_inBlock_normal ?_
              refine at_then ?_
              refine at_region ?_
              refine at_d rfl rfl (opr_move rfl rfl) ?_
              refine at_d rfl rfl (opr_addI (a := y) (b := 1) rfl rfl rfl (by omega)) ?_
              refine at_d rfl rfl (opr_assign rfl rfl) ?_
              refine at_nil ?_
              exact at_round (y + 1) (by omega) (by omega) (allIn ⟨rfl, rfl, rfl, rfl, trivial⟩) (List.Sublist.refl _)
          ·
            obtain rfl : y = 8 := by have := of_decide_eq_false ht3; omega
            rw [mixl_end (digs_length _ _ _) (digs_length _ _ _)]
            refine at_exit ?_
            refine at_then_exit ?_
            refine at_then_exit ?_
            refine at_inBlock_same ?_
            refine at_inBlock_normal ?_
            refine at_perm (List.perm_middle (l₁ := [_, _])).symm ?_
            exact at_round2 (k + 1) (some s') ⟨hC.step hw hK hpos, by rw [nafD_succ, List.map_append]; exact hs', by simp⟩ (nk_lt hw hpos) (allIn ⟨rfl, rfl, rfl, trivial⟩) (.cons_cons _ (.cons_cons _ (.cons _ (.refl _))))
      ·
        have ho : ¬ (kx w K0 k) % 2 = 1 := of_decide_eq_false ht2
        have hnd : Value.int .i32 0 = .int .i32 (nd w (kx w K0 k)) := int_eq (nd_ev ho)
        rw [show digs BB 8 (kx w K0 k) = digs BB 8 (nk1 w (kx w K0 k)) from congrArg (digs BB 8) (nk1_ev ho)]
        refine at_skip ?_
        refine at_then ?_
        refine at_seq ?_
        refine at_region ?_
        refine at_d rfl rfl (opr_move rfl rfl) ?_
        refine at_d rfl rfl (opr_eq' (opr_move rfl rfl) hnd) ?_
        refine at_c rfl rfl (opr_buildSliceV (s := 1) (zv := .int .i32 0) (cs := [.int .i32 0]) (ds := [(.int .i32 (nd w (kx w K0 k)))]) rfl rfl Try.underlying40 (by kernel_rfl) (by decide) (by decide) (by kernel_rfl) rfl) ?_
        rintro _ _ ⟨gV, rfl, rfl⟩
        refine at_c rfl rfl (opr_appendO (M := M) (fr := [⟨gV, 21, [(.int .i32 (nd w (kx w K0 k)))]⟩, ⟨g0, 49, W (digs BB 8 (nk1 w (kx w K0 k)))⟩]) (so := so) (j := 0) (z := .int .i32 0) rfl rfl rfl hsI (by rw [List.length_map, nafD_length]) rfl (by decide) rfl rfl flat_one Try.underlying40 (by kernel_rfl) rfl (by kernel_rfl) (by have := hC.len hw16; omega)) ?_
        rintro _ _ ⟨s', rfl, hs', rfl⟩
        refine at_d rfl rfl (opr_assign rfl rfl) ?_
        refine at_nil ?_
        refine at_then ?_
        refine at_seq ?_
        have hN8 : (nk1 w (kx w K0 k)) < BB ^ 8 := by have h1 := hC.lt hw hw16 hK; have h2 := nk1_le (k := (kx w K0 k)) hw; have h3 : 2 ^ (w - 1) ≤ 65536 := pw_le (by omega); omega
        refine at_region ?_
        refine at_d rfl rfl (opr_assign rfl rfl) ?_
        refine at_nil ?_
        refine at_then ?_
        refine at_block ?_
        refine at_loop (fun (x : Nat) => [(1, .int .u64 (w : Int)), (4, .slice (some ⟨s'.g, 0, none⟩) (k + 1) s'.cap), (5, .pointer (some ⟨g0, 0, none⟩)), (8, .int .i64 (x : Int))]) (fun (x : Nat) => ⟨s'.g, 21, s'.cs⟩ :: ⟨gV, 21, [(.int .i32 (nd w (kx w K0 k)))]⟩ :: ⟨g0, 49, W ((mixl (digs BB 8 ((nk1 w (kx w K0 k)) / 2)) (digs BB 8 (nk1 w (kx w K0 k))) x))⟩ :: M) (fun (x : Nat) => 8 - x) (fun (x : Nat) => x ≤ 8) 0 (Nat.zero_le _) (allIn ⟨rfl, rfl, rfl, rfl, trivial⟩) (by rw [mixl_zero]; exact List.Sublist.refl _) ?_
        intro y hy8
        dsimp only
        refine at_seq ?_
        refine at_seq ?_
        refine at_region ?_
        refine at_d rfl rfl (opr_move rfl rfl) ?_
        refine at_d rfl rfl (opr_lss (a := y) (b := 8) rfl rfl rfl) ?_
        refine at_nil ?_
        refine at_then ?_
        refine at_cond rfl (fun ht3 => ?_) (fun ht3 => ?_)
        ·
          have hy : y < 8 := of_decide_eq_true ht3
          refine at_skip ?_
          refine at_then ?_
          refine at_seq ?_
          refine at_block ?_
          refine at_seq ?_
          refine at_region ?_
          refine at_d rfl rfl (opr_move rfl rfl) ?_
          refine at_d rfl rfl (opr_indexAddr (j := y) (off' := y) rfl rfl rfl Try.underlying49 hy size25 (by omega)) ?_
          refine at_d rfl rfl (opr_load1 (i := 2) rfl rfl rfl Try.underlying25 rfl (W_get ((mixl_get (digs_length _ _ _) (Nat.le_of_lt hy)).trans (digs_get 8 (nk1 w (kx w K0 k)) y hy)))) ?_
          refine at_d rfl rfl (opr_eq' (opr_shr64 (n := 1) rfl rfl rfl (by decide)) (u64_eq' (b := ((nk1 w (kx w K0 k)) / BB ^ y % BB) / 2) rfl)) ?_
          refine at_d rfl rfl (opr_indexAddr (j := y) (off' := y) rfl rfl rfl Try.underlying49 hy size25 (by omega)) ?_
          refine at_d rfl rfl (opr_store (i := 2) rfl rfl rfl rfl rfl size25 rfl (by rw [W_length, mixl_length (digs_length _ _ _) (digs_length _ _ _) (Nat.le_of_lt hy)]; omega) flat_one (W_put (by rw [mixl_length (digs_length _ _ _) (digs_length _ _ _) (Nat.le_of_lt hy)]; exact hy) rfl)) ?_
          refine at_nil ?_
          refine at_then ?_
          refine at_seq ?_
          refine at_region ?_
          refine at_d rfl rfl (opr_move rfl rfl) ?_
          refine at_d rfl rfl (opr_lss (a := y) (b := 7) rfl rfl rfl) ?_
          refine at_nil ?_
          refine at_then ?_
          refine at_cond rfl (fun ht4 => ?_) (fun ht4 => ?_)
          ·
            have hy7 : y < 7 := of_decide_eq_true ht4
            refine at_draw (by kernel_rfl) (by kernel_rfl) (by kernel_rfl) (List.cons_ne_nil _ _) ?_
            refine dr_op rfl rfl (opr_move rfl rfl) ?_
            refine dr_op rfl rfl (opr_indexAddr (j := y) (off' := y) rfl rfl rfl Try.underlying49 hy size25 (by omega)) ?_
            refine dr_op rfl rfl (opr_load1 (i := 2) rfl rfl rfl Try.underlying25 rfl (W_get (List.getElem?_set_self (by rw [mixl_length (digs_length _ _ _) (digs_length _ _ _) (Nat.le_of_lt hy)]; exact hy)))) ?_
            refine dr_op rfl rfl (opr_move rfl rfl) ?_
            refine dr_op rfl rfl (opr_addI (a := y) (b := 1) rfl rfl rfl (by omega)) ?_
            refine dr_op rfl rfl (opr_indexAddr (j := y + 1) (off' := y + 1) rfl rfl rfl Try.underlying49 (by omega) size25 (by omega)) ?_
            refine dr_op rfl rfl (opr_load1 (i := 2) rfl rfl rfl Try.underlying25 rfl (W_get ((List.getElem?_set_ne (by omega)).trans ((mixl_ge (digs_length _ _ _) (Nat.le_of_lt hy) (Nat.le_succ _)).trans (digs_get 8 (nk1 w (kx w K0 k)) (y + 1) (by omega)))))) ?_
            refine dr_op rfl rfl (opr_shl64 (n := 63) rfl rfl rfl (by decide)) ?_
            refine dr_op rfl rfl (opr_or64 rfl rfl rfl (Nat.lt_of_le_of_lt (Nat.div_le_self _ _) (Nat.mod_lt _ (by decide))) (Nat.mod_lt _ (by decide))) ?_
            refine dr_op rfl rfl (opr_indexAddr (j := y) (off' := y) rfl rfl rfl Try.underlying49 hy size25 (by omega)) ?_
            refine dr_last rfl rfl (opr_store (i := 2) rfl rfl rfl rfl rfl size25 rfl (by rw [W_length, List.length_set, mixl_length (digs_length _ _ _) (digs_length _ _ _) (Nat.le_of_lt hy)]; omega) flat_one (W_put (by rw [List.length_set, mixl_length (digs_length _ _ _) (digs_length _ _ _) (Nat.le_of_lt hy)]; exact hy) (set_set_mix (digs_length _ _ _) (digs_length _ _ _) hy ((digs_get 8 ((nk1 w (kx w K0 k)) / 2) y hy).trans (congrArg some (half64 (nk1 w (kx w K0 k)) y)))))) ?_
            refine at_inBlock_normal ?_
            refine at_then ?_
            refine at_region ?_
            refine at_d rfl rfl (opr_move rfl rfl) ?_
            refine at_d rfl rfl (opr_addI (a := y) (b := 1) rfl rfl rfl (by omega)) ?_
            refine at_d rfl rfl (opr_assign rfl rfl) ?_
            refine at_nil ?_
            exact at_round (y + 1) (by omega) (by omega) (allIn ⟨rfl, rfl, rfl, rfl, trivial⟩) (List.Sublist.refl _)
          ·
            have e7 : y = 7 := by have := of_decide_eq_false ht4; omega
            rw [show ((mixl (digs BB 8 ((nk1 w (kx w K0 k)) / 2)) (digs BB 8 (nk1 w (kx w K0 k))) y).set y (((nk1 w (kx w K0 k)) / BB ^ y % BB) / 2)) = (mixl (digs BB 8 ((nk1 w (kx w K0 k)) / 2)) (digs BB 8 (nk1 w (kx w K0 k))) (y + 1)) from mixl_put (digs_length _ _ _) (digs_length _ _ _) hy ((digs_get 8 ((nk1 w (kx w K0 k)) / 2) y hy).trans (congrArg some (half64_top' hN8 e7)))]
            refine at_skip ?_
            refine at_inBlock_normal ?_
            refine at_then ?_
            refine at_region ?_
            refine at_d rfl rfl (opr_move rfl rfl) ?_
            refine at_d rfl rfl (opr_addI (a := y) (b := 1) rfl rfl rfl (by omega)) ?_
            refine at_d rfl rfl (opr_assign rfl rfl) ?_
            refine at_nil ?_
            exact at_round (y + 1) (by omega) (by omega) (allIn ⟨rfl, rfl, rfl, rfl, trivial⟩) (List.Sublist.refl _)
        ·
          obtain rfl : y = 8 := by have := of_decide_eq_false ht3; omega
          rw [mixl_end (digs_length _ _ _) (digs_length _ _ _)]
          refine at_exit ?_
          refine at_then_exit ?_
          refine at_then_exit ?_
          refine at_inBlock_same ?_
          refine at_inBlock_normal ?_
          refine at_perm (List.perm_middle (l₁ := [_, _])).symm ?_
          exact at_round2 (k + 1) (some s') ⟨hC.step hw hK hpos, by rw [nafD_succ, List.map_append]; exact hs', by simp⟩ (nk_lt hw hpos) (allIn ⟨rfl, rfl, rfl, trivial⟩) (.cons_cons _ (.cons_cons _ (.cons _ (.refl _))))
    ·
      have h0 : (kx w K0 k) = 0 := by have := of_decide_eq_false ht; omega
      refine at_exit ?_
      refine at_then_exit ?_
      refine at_then_exit ?_
      refine at_inBlock_same ?_
      refine at_then ?_
      refine at_seq ?_
      refine at_region ?_
      refine at_d rfl rfl (opr_move rfl rfl) ?_
      refine at_d rfl rfl (opr_assign rfl rfl) ?_
      refine at_nil ?_
      refine at_then ?_
      refine at_ret ?_
      exact done_of (res1 Try.results16 (res_tmp rfl)) ⟨so, k, rfl, hsI, hC, h0, hsn, rfl⟩ (.cons _ (.refl _))
theorem zzOm_ct {M : Mem} {ix gx Tx K0 w : Nat} (hX : M[ix]? = some ⟨gx, Tx, EE [K0]⟩) (hK : K0 < RR) (hw : 2 ≤ w) (hw16 : w ≤ 16) : Ct Try.prog 12 #[.pointer (some ⟨gx, 0, none⟩), .int .u64 (w : Int)] M (fun v M' => ∃ so x, v = slV so x ∧ SlI so ((nafD w K0 x).map i32V) ∧ NafC w K0 x ∧ kx w K0 x = 0 ∧ (so = none ↔ x = 0) ∧ M' = slM 21 so ++ M) := by
  refine ct_of (vs := [.pointer (some ⟨gx, 0, none⟩), .int .u64 (w : Int)]) Try.func12 rfl Try.ntmps12 rfl fun w0 => ?_
  refine at_seq ?_
  refine at_region ?_
  refine at_d rfl rfl (opr_assign rfl rfl) ?_
  refine at_nil ?_
  refine at_then ?_
  refine at_seq ?_
  refine at_region ?_
  refine at_d rfl rfl (opr_move rfl rfl) ?_
  refine at_d rfl rfl (opr_nilCheck rfl rfl) ?_
  refine at_d rfl rfl (opr_sliceAll rfl rfl Try.underlying39 rfl size5) ?_
  refine at_d rfl rfl (opr_move rfl rfl) ?_
  refine at_c rfl rfl (opr_call rfl rfl rfl Try.func16 (by kernel_rfl) rfl (zzNaf_ct (ix := ix) hX hK hw hw16)) ?_
  rintro _ _ ⟨so, x, rfl, hsI, hC, h0, hsn, rfl⟩
  refine at_d rfl rfl (opr_assign rfl rfl) ?_
  refine at_nil ?_
  refine at_then ?_
  refine at_ret ?_
  exact done_of (res1 Try.results12 (res_tmp rfl)) ⟨so, x, rfl, hsI, hC, h0, hsn, rfl⟩ (.refl _)
end Go.Proofs.Ytoagfplhcimghaa
