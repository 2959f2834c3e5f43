/- FnEncodeIs; a point's bytes by the reference. -/
import Derived.Test.YtjanppnnioeifaaDoorEncE
import Derived.Test.YtjanppnnioeifaaDoorPtL0
import Derived.Test.YtjanppnnioeifaaDoorPtS
import Derived.Test.YtjanppnnioeifaaDoorPower
import Derived.Test.YtjanppnnioeifaaDoorDrawB
namespace Go.Proofs.YtjanppnnioeifaaDoor
open Go
set_option maxRecDepth 100000

theorem opr_buildSliceV {P : Program} {St : Slots} {M : Mem} {o : Oper} {T e n s : Nat} {ps : List (Nat × Operand)} {vs : List (Nat × Value)} {zv : Value} {cs : List Value} (ho : o.op = .buildSlice T n ps.toArray) (hps : evalP St ps = some vs) (hu : P.underlying T = some (.slice e)) (hi' : (P.info? e).map (fun i => (i.size, i.zero)) = some (s, some zv)) (hsm : ¬ n * s > 2 ^ 24) (hpos : ¬ n * s = 0)
    (hz : ((Array.range (n * s)).map (zv.cells[· % zv.cells.size]!)).toList = cs) {ds : List Value} (h : Instr.fill (fun i => some (i * s, s)) cs.toArray vs = some ds.toArray) :
    OpR P St M o (fun v M' => ∃ g, v = .slice (some ⟨g, 0, none⟩) n n ∧ M' = ⟨g, e, ds⟩ :: M) := by
  obtain ⟨i, hi, h3⟩ := Option.map_eq_some_iff.1 hi'
  simp only [Prod.mk.injEq] at h3
  obtain ⟨hs, hzz⟩ := h3
  subst hs
  intro ρ w0 S w hρ hw
  have e0 : (ps.toArray.map fun (i, x) => (i, ρ x)) = vs.toArray := by
    rw [List.map_toArray]; exact congrArg _ (evalP_map hρ _ _ hps)
  have hr := run_buildSlice (P := P) w T e n vs.toArray ds.toArray i zv hu hi hzz hsm hpos (by
    have e1 : (Array.range (n * i.size)).map (zv.cells[· % zv.cells.size]!) = cs.toArray := by
      rw [← hz]
    rw [e1]; exact h)
  have : (execOp ρ o).run P w = .ok (.value (.slice (some ⟨w.heap.size, 0, none⟩) n n)) (w.alloc (.cells ds.toArray e)) := by
    simp only [execOp, ho, e0, Sem.run_bind, hr, Result.andThen_ok, Sem.run_pure]
  rw [this]
  exact ⟨_, ⟨_, rfl, rfl⟩, hw.alloc e ds⟩
theorem opX_of {C : Ctx} {ops : List Oper} {St : Slots} {M : Mem} {o : Oper} {R R' : Value → Mem → Prop} (hf : fits C.n o.dst = true) (hw : wantS ops St o = some true) (h : OpR C.P St M o R) (hR : ∀ v M', R v M' → R' v M') : OpX C ops St M o R' :=
  ⟨hf, .inl ⟨hw, fun ρ w hρ hI => (h ρ _ _ w hρ hI).mono hR⟩⟩
theorem getD_of {vs : List Value} {j : Nat} {v : Value} (h : vs[j]? = some v) : some (vs.getD j undef) = some v := by rw [List.getD_eq_getElem?_getD, h]; rfl
/-- What holds while a point's bytes are put together. -/
structure EJ (tB gx gy x y : Nat) (L : Nat → Bool) (vs : List Value) (XA XC : Mem) : Prop where
  a8 : L 8 = true → ∃ q : Sl, vs[8]? = some (.slice (some ⟨q.g, 0, none⟩) 57 q.cap) ∧ q.cs.length = q.cap ∧ 57 ≤ q.cap ∧ q.cs.take 57 = EB y (x % 2 * 128) ∧ XA = [⟨q.g, tB, q.cs⟩]
  a2 : L 8 = false → L 2 = true → ∃ q : Sl, vs[2]? = some (.slice (some ⟨q.g, 0, none⟩) 56 q.cap) ∧ q.cs.length = q.cap ∧ 56 ≤ q.cap ∧ q.cs.take 56 = E y ∧ XA = [⟨q.g, tB, q.cs⟩]
  a0 : L 2 = false → L 0 = true → ∃ g, vs[0]? = some (.slice (some ⟨g, 0, none⟩) 0 0) ∧ XA = [⟨g, tB, []⟩]
  an : L 0 = false → XA = []
  c7 : L 7 = true → ∃ g, vs[7]? = some (.slice (some ⟨g, 0, none⟩) 1 1) ∧ XC = [⟨g, tB, [.int .u8 ((x % 2 * 128 : Nat) : Int)]⟩]
  cn : L 7 = false → XC = []
  v1 : L 1 = true → vs[1]? = some (.slice (some ⟨gy, 0, none⟩) 56 56)
  v3 : L 3 = true → vs[3]? = some (.pointer (some ⟨gx, 0, none⟩))
  v4 : L 4 = true → vs[4]? = some (.int .u8 ((x / 256 ^ 0 % 256 : Nat) : Int))
  v5 : L 5 = true → vs[5]? = some (.int .u8 ((x % 2 : Nat) : Int))
  v6 : L 6 = true → vs[6]? = some (.int .u8 ((x % 2 * 128 : Nat) : Int))
  v9 : L 9 = true → vs[9]? = vs[8]?
theorem EJ.pure {tB gx gy x y : Nat} {L : Nat → Bool} {vs : List Value} {XA XC : Mem} (h : EJ tB gx gy x y L vs XA XC) {i : Nat} {v : Value} (hl : vs.length = 10) (hi : i = 1 ∨ i = 3 ∨ i = 4 ∨ i = 5 ∨ i = 6 ∨ i = 9) (hv1 : i = 1 → v = .slice (some ⟨gy, 0, none⟩) 56 56) (hv3 : i = 3 → v = .pointer (some ⟨gx, 0, none⟩)) (hv4 : i = 4 → v = .int .u8 ((x / 256 ^ 0 % 256 : Nat) : Int)) (hv5 : i = 5 → v = .int .u8 ((x % 2 : Nat) : Int)) (hv6 : i = 6 → v = .int .u8 ((x % 2 * 128 : Nat) : Int)) (hv9 : i = 9 → some v = vs[8]?) :
    EJ tB gx gy x y (fun k => if k = i then true else L k) (vs.set i v) XA XC := by
  have hlt : i < vs.length := by omega
  have hs : ∀ j, j ≠ i → (vs.set i v)[j]? = vs[j]? := fun j hj => List.getElem?_set_ne (Ne.symm hj)
  have hsi : (vs.set i v)[i]? = some v := List.getElem?_set_self hlt
  constructor
  · intro hL; rw [hs 8 (by omega)]; exact h.a8 (by simpa [show ¬ (8 : Nat) = i by omega] using hL)
  · intro hL hM; rw [hs 2 (by omega)]; exact h.a2 (by simpa [show ¬ (8 : Nat) = i by omega] using hL) (by simpa [show ¬ (2 : Nat) = i by omega] using hM)
  · intro hL hM; rw [hs 0 (by omega)]; exact h.a0 (by simpa [show ¬ (2 : Nat) = i by omega] using hL) (by simpa [show ¬ (0 : Nat) = i by omega] using hM)
  · intro hL; exact h.an (by simpa [show ¬ (0 : Nat) = i by omega] using hL)
  · intro hL; rw [hs 7 (by omega)]; exact h.c7 (by simpa [show ¬ (7 : Nat) = i by omega] using hL)
  · intro hL; exact h.cn (by simpa [show ¬ (7 : Nat) = i by omega] using hL)
  · intro hL
    by_cases e : 1 = i
    · subst e; rw [hsi, hv1 rfl]
    · rw [hs 1 e]; exact h.v1 (by simpa [e] using hL)
  · intro hL
    by_cases e : 3 = i
    · subst e; rw [hsi, hv3 rfl]
    · rw [hs 3 e]; exact h.v3 (by simpa [e] using hL)
  · intro hL
    by_cases e : 4 = i
    · subst e; rw [hsi, hv4 rfl]
    · rw [hs 4 e]; exact h.v4 (by simpa [e] using hL)
  · intro hL
    by_cases e : 5 = i
    · subst e; rw [hsi, hv5 rfl]
    · rw [hs 5 e]; exact h.v5 (by simpa [e] using hL)
  · intro hL
    by_cases e : 6 = i
    · subst e; rw [hsi, hv6 rfl]
    · rw [hs 6 e]; exact h.v6 (by simpa [e] using hL)
  · intro hL
    rw [hs 8 (by omega)]
    by_cases e : 9 = i
    · subst e; rw [hsi, hv9 rfl]
    · rw [hs 9 e]; exact h.v9 (by simpa [e] using hL)
/-- 57 bytes as a string. -/
def strB (y s : Nat) : ByteArray := ((digs 256 56 y ++ [s]).map fun d : Nat => (d : Int)).foldl (fun r n => r.push (UInt8.ofNat n.toNat)) ByteArray.empty
theorem EB_map (y s : Nat) : EB y s = ((digs 256 56 y ++ [s]).map fun d : Nat => (d : Int)).map (Value.int .u8) := by
  rw [EB, E, List.map_append, List.map_append, ← u8V_map]; rfl
theorem opr_strB {P : Program} {St : Slots} {M : Mem} {o : Oper} {S' D e : Nat} {x : Operand} {i g T y s c : Nat} {cs : List Value} (ho : o.op = .convert S' D x) (hx : evalS St x = some (.slice (some ⟨g, 0, none⟩) 57 c)) (hs : P.underlying S' = some (.slice e)) (he : P.underlying e = some (.int .u8)) (hd : P.underlying D = some .string) (hb : M[i]? = some ⟨g, T, cs⟩) (hcs : cs.take 57 = EB y s) : OpR P St M o (Det (.string (strB y s)) M) :=
  opr_value fun ρ w0 S w hρ hw => by
    have hl := run_loadCells_list (P := P) (w := w) ⟨g, 0, none⟩ (((digs 256 56 y ++ [s]).map fun d : Nat => (d : Int)).map (Value.int .u8)) (fun j v hj => by
      have hadd : (⟨g, 0, none⟩ : Addr).add j = ⟨g, j, none⟩ := by unfold Addr.add; split <;> simp_all
      have hj57 : j < 57 := by have := (List.getElem?_eq_some_iff.1 hj).1; simpa [digs_length] using this
      rw [hadd, cell_at hw hb j, ← hj, ← EB_map, ← hcs, List.getElem?_take_of_lt hj57])
    rw [List.length_map, List.length_map, List.length_append, digs_length] at hl
    have hc := (run_convert_bytes_string (P := P) w S' D e (some ⟨g, 0, none⟩) 57 c hs he hd).trans (run_bytesToString w ⟨g, 0, none⟩ 57 c _ hl)
    simp only [execOp, ho, hρ _ _ hx, Sem.run_bind, hc, Result.andThen_ok, Sem.run_pure]
    rfl
theorem getD_eq {vs : List Value} {j : Nat} {v : Value} (h : vs[j]? = some v) : vs.getD j undef = v := by rw [List.getD_eq_getElem?_getD, h]; rfl
theorem opr_rem8 {P : Program} {St : Slots} {M : Mem} {o : Oper} {x y : Operand} {T T' : Nat} {a b : Nat} (ho : o.op = .binOp .rem T x y T') (hx : evalS St x = some (.int .u8 (a : Int))) (hy : evalS St y = some (.int .u8 (b : Int))) (hb : 0 < b) : OpR P St M o (Det (.int .u8 ((a % b : Nat) : Int)) M) := by
  have h0 : ¬ (b : Int) = 0 := by omega
  have h := opr_binOp (P := P) (M := M) (v := .int .u8 ((a : Int).tmod b)) ho hx hy (fun w => by simp only [binOp, Op.intDiv, h0, if_false, ne_eq, not_true_eq_false, Sem.run_pure])
  exact h
theorem EJ.s0 {tB gx gy x y : Nat} {L : Nat → Bool} {vs : List Value} {XA XC : Mem} (h : EJ tB gx gy x y L vs XA XC) (hl : vs.length = 10) (h2 : L 2 = false) (h8 : L 8 = false) (g : Nat) : EJ tB gx gy x y (fun k => if k = 0 then true else L k) (vs.set 0 (.slice (some ⟨g, 0, none⟩) 0 0)) [⟨g, tB, []⟩] XC :=
  ⟨fun hL => absurd (by simpa using hL : L 8 = true) (by rw [h8]; decide), fun _ hL => absurd (by simpa using hL : L 2 = true) (by rw [h2]; decide), fun _ _ => ⟨g, List.getElem?_set_self (by omega), rfl⟩, fun hL => absurd hL (by simp), fun hL => by have k := h.c7 (by simpa using hL); simpa using k, fun hL => h.cn (by simpa using hL), fun hL => by have k := h.v1 (by simpa using hL); simpa using k, fun hL => by have k := h.v3 (by simpa using hL); simpa using k, fun hL => by have k := h.v4 (by simpa using hL); simpa using k, fun hL => by have k := h.v5 (by simpa using hL); simpa using k, fun hL => by have k := h.v6 (by simpa using hL); simpa using k, fun hL => by have k := h.v9 (by simpa using hL); simpa using k⟩
theorem EJ.s2 {tB gx gy x y : Nat} {L : Nat → Bool} {vs : List Value} {XA XC : Mem} (h : EJ tB gx gy x y L vs XA XC) (hl : vs.length = 10) (h0 : L 0 = true) (h8 : L 8 = false) (q : Sl) (q1 : q.cs.length = q.cap) (q2 : 56 ≤ q.cap) (q3 : q.cs.take 56 = E y) : EJ tB gx gy x y (fun k => if k = 2 then true else L k) (vs.set 2 (.slice (some ⟨q.g, 0, none⟩) 56 q.cap)) [⟨q.g, tB, q.cs⟩] XC :=
  ⟨fun hL => absurd (by simpa using hL : L 8 = true) (by rw [h8]; decide), fun _ _ => ⟨q, List.getElem?_set_self (by omega), q1, q2, q3, rfl⟩, fun hL => absurd hL (by simp), fun hL => absurd (by simpa using hL : L 0 = false) (by rw [h0]; decide), fun hL => by have k := h.c7 (by simpa using hL); simpa using k, fun hL => h.cn (by simpa using hL), fun hL => by have k := h.v1 (by simpa using hL); simpa using k, fun hL => by have k := h.v3 (by simpa using hL); simpa using k, fun hL => by have k := h.v4 (by simpa using hL); simpa using k, fun hL => by have k := h.v5 (by simpa using hL); simpa using k, fun hL => by have k := h.v6 (by simpa using hL); simpa using k, fun hL => by have k := h.v9 (by simpa using hL); simpa using k⟩
theorem EJ.s7 {tB gx gy x y : Nat} {L : Nat → Bool} {vs : List Value} {XA XC : Mem} (h : EJ tB gx gy x y L vs XA XC) (hl : vs.length = 10) (g : Nat) : EJ tB gx gy x y (fun k => if k = 7 then true else L k) (vs.set 7 (.slice (some ⟨g, 0, none⟩) 1 1)) XA [⟨g, tB, [.int .u8 ((x % 2 * 128 : Nat) : Int)]⟩] :=
  ⟨fun hL => by have k := h.a8 (by simpa using hL); simpa using k, fun hL hM => by have k := h.a2 (by simpa using hL) (by simpa using hM); simpa using k, fun hL hM => by have k := h.a0 (by simpa using hL) (by simpa using hM); simpa using k, fun hL => h.an (by simpa using hL), fun _ => ⟨g, List.getElem?_set_self (by omega), rfl⟩, fun hL => absurd hL (by simp), fun hL => by have k := h.v1 (by simpa using hL); simpa using k, fun hL => by have k := h.v3 (by simpa using hL); simpa using k, fun hL => by have k := h.v4 (by simpa using hL); simpa using k, fun hL => by have k := h.v5 (by simpa using hL); simpa using k, fun hL => by have k := h.v6 (by simpa using hL); simpa using k, fun hL => by have k := h.v9 (by simpa using hL); simpa using k⟩
theorem EJ.s8 {tB gx gy x y : Nat} {L : Nat → Bool} {vs : List Value} {XA XC : Mem} (h : EJ tB gx gy x y L vs XA XC) (hl : vs.length = 10) (h0 : L 0 = true) (h2 : L 2 = true) (h9 : L 9 = false) (q : Sl) (q1 : q.cs.length = q.cap) (q2 : 57 ≤ q.cap) (q3 : q.cs.take 57 = EB y (x % 2 * 128)) : EJ tB gx gy x y (fun k => if k = 8 then true else L k) (vs.set 8 (.slice (some ⟨q.g, 0, none⟩) 57 q.cap)) [⟨q.g, tB, q.cs⟩] XC :=
  ⟨fun _ => ⟨q, List.getElem?_set_self (by omega), q1, q2, q3, rfl⟩, fun hL => absurd hL (by simp), fun hL => absurd (by simpa using hL : L 2 = false) (by rw [h2]; decide), fun hL => absurd (by simpa using hL : L 0 = false) (by rw [h0]; decide), fun hL => by have k := h.c7 (by simpa using hL); simpa using k, fun hL => h.cn (by simpa using hL), fun hL => by have k := h.v1 (by simpa using hL); simpa using k, fun hL => by have k := h.v3 (by simpa using hL); simpa using k, fun hL => by have k := h.v4 (by simpa using hL); simpa using k, fun hL => by have k := h.v5 (by simpa using hL); simpa using k, fun hL => by have k := h.v6 (by simpa using hL); simpa using k, fun hL => absurd (by simpa using hL : L 9 = true) (by rw [h9]; decide)⟩
theorem get_app {X Y M0 : Mem} {i : Nat} {b : Blk} (h : M0[i]? = some b) : (X ++ (Y ++ M0))[X.length + (Y.length + i)]? = some b := by
  rw [List.getElem?_append_right (Nat.le_add_right _ _), Nat.add_sub_cancel_left, List.getElem?_append_right (Nat.le_add_right _ _), Nat.add_sub_cancel_left, h]
theorem sAffine_ct {M : Mem} {X Y Z : Nat} (hX : X < RR) (hY : Y < RR) (hZ : Z < RR) : Ct Tryd.prog 60 #[.agg (NN [X, Y, Z]).toArray] M (Det (.tuple #[.agg (E (X * invp Z % pp)).toArray, .agg (E (Y * invp Z % pp)).toArray]) M) := by
  refine ct_of (vs := [.agg (NN [X, Y, Z]).toArray]) Tryd.func60 rfl Tryd.ntmps60 rfl fun w0 => ?_
  refine at_seq ?_
  refine at_region ?_
  refine at_n rfl rfl (opr_box rfl rfl rfl) ?_
  intro g0
  refine at_n rfl rfl (opr_alloc rfl zero22 rfl) ?_
  intro g1
  refine at_n rfl rfl (opr_alloc rfl zero22 rfl) ?_
  intro g2
  refine at_nil ?_
  refine at_then ?_
  refine at_seq ?_
  refine at_region ?_
  refine at_d rfl rfl (opr_fieldAddr rfl rfl Tryd.underlying33 rfl size31 rfl rfl) ?_
  refine at_d rfl rfl (opr_load (i := 2) rfl rfl rfl Tryd.underlying31 rfl size31 (N_length _) (NN_at (k := 2) rfl rfl rfl)) ?_
  refine at_d rfl rfl (opr_call rfl rfl rfl Tryd.func51 (by kernel_rfl) rfl (sInv_ct hZ)) ?_
  refine at_n rfl rfl (opr_alloc rfl zero31 rfl) ?_
  intro g3
  refine at_d rfl rfl (opr_store (i := 0) rfl rfl rfl rfl rfl size31 (N_length _) (by rw [N_length]; decide) (N_flat _) N_over) ?_
  refine at_nil ?_
  refine at_then ?_
  refine at_seq ?_
  refine at_drawK (by kernel_rfl) (by kernel_rfl) (M1 := ⟨g3, 31, N ((invp Z))⟩ :: ⟨g2, 22, EE [0]⟩ :: ⟨g1, 22, EE [(X * (invp Z) % pp)]⟩ :: ⟨g0, 33, NN [X, Y, Z]⟩ :: M) (M2 := ⟨g3, 31, N ((invp Z))⟩ :: ⟨g2, 22, EE [(Y * (invp Z) % pp)]⟩ :: ⟨g1, 22, EE [(X * (invp Z) % pp)]⟩ :: ⟨g0, 33, NN [X, Y, Z]⟩ :: M) [0, 4, 4, 0, 0, 0, 4, 4, 0, 0, 1, 2] 10 11 (by kernel_rfl) (.inl (by decide)) ?_
  refine drK0 rfl rfl (fun _ => opr_fieldAddr rfl rfl Tryd.underlying33 rfl size31 rfl rfl) ?_
  refine drK4 rfl rfl (opr_load (i := 3) rfl rfl rfl Tryd.underlying31 rfl size31 (N_length _) (NN_at (k := 0) rfl rfl rfl)) ?_
  refine drK4 rfl rfl (opr_load (i := 0) rfl rfl rfl Tryd.underlying31 rfl size31 (N_length _) (N_at _)) ?_
  refine drK0 rfl rfl (fun _ => opr_call rfl rfl rfl Tryd.func22 (by kernel_rfl) rfl (sMul_ct hX (invp_RR _))) ?_
  refine drK0 rfl rfl (fun _ => opr_call rfl rfl rfl Tryd.func54 (by kernel_rfl) rfl (bytes_ct _)) ?_
  refine drK0 rfl rfl (fun _ => opr_fieldAddr rfl rfl Tryd.underlying33 rfl size31 rfl rfl) ?_
  refine drK4 rfl rfl (opr_load (i := 3) rfl rfl rfl Tryd.underlying31 rfl size31 (N_length _) (NN_at (k := 1) rfl rfl rfl)) ?_
  refine drK4 rfl rfl (opr_load (i := 0) rfl rfl rfl Tryd.underlying31 rfl size31 (N_length _) (N_at _)) ?_
  refine drK0 rfl rfl (fun _ => opr_call rfl rfl rfl Tryd.func22 (by kernel_rfl) rfl (sMul_ct hY (invp_RR _))) ?_
  refine drK0 rfl rfl (fun _ => opr_call rfl rfl rfl Tryd.func54 (by kernel_rfl) rfl (bytes_ct _)) ?_
  refine drK1 rfl rfl (opr_store (i := 2) rfl rfl rfl rfl rfl size22 (E_length _) (by rw [EE_length]; exact Nat.le_of_ble_eq_true rfl) (E_flat _) (EE_set (k := 0) (Nat.le_of_ble_eq_true rfl) rfl)) ?_
  refine drK2 rfl rfl (opr_store (i := 1) rfl rfl rfl rfl rfl size22 (E_length _) (by rw [EE_length]; exact Nat.le_of_ble_eq_true rfl) (E_flat _) (EE_set (k := 0) (Nat.le_of_ble_eq_true rfl) rfl)) ?_
  refine at_then ?_
  refine at_ret ?_
  exact done_of (res2 Tryd.results60 (res_cell (i := 2) rfl rfl Tryd.underlying22 rfl size22 (E_length _) (EE_at (k := 0) rfl rfl rfl)) (res_cell (i := 1) rfl rfl Tryd.underlying22 rfl size22 (E_length _) (EE_at (k := 0) rfl rfl rfl))) ⟨rfl, rfl⟩ (by repeat (first | exact List.Sublist.refl _ | apply List.Sublist.cons))
theorem sEncode_ct {M : Mem} {X Y Z : Nat} (hX : X < RR) (hY : Y < RR) (hZ : Z < RR) : Ct Tryd.prog 28 #[.agg (NN [X, Y, Z]).toArray] M (fun v M' => ∃ q : Sl, v = .slice (some ⟨q.g, 0, none⟩) 57 q.cap ∧ q.cs.length = q.cap ∧ 57 ≤ q.cap ∧ q.cs.take 57 = EB (Y * invp Z % pp) (X * invp Z % pp % 2 * 128) ∧ M' = ⟨q.g, 5, q.cs⟩ :: M) := by
  refine ct_of (vs := [.agg (NN [X, Y, Z]).toArray]) Tryd.func28 rfl Tryd.ntmps28 rfl fun w0 => ?_
  refine at_seq ?_
  refine at_region ?_
  refine at_n rfl rfl (opr_box rfl rfl rfl) ?_
  intro g0
  refine at_d rfl rfl (opr_assign rfl rfl) ?_
  refine at_nil ?_
  refine at_then ?_
  refine at_seq ?_
  refine at_region ?_
  refine at_d rfl rfl (opr_load (i := 0) rfl rfl rfl Tryd.underlying33 rfl size33 (NN_length _) (NN_all rfl)) ?_
  refine at_d rfl rfl (opr_call rfl rfl rfl Tryd.func60 (by kernel_rfl) rfl (sAffine_ct hX hY hZ)) ?_
  refine at_d rfl rfl (opr_move rfl rfl) ?_
  refine at_d rfl rfl (opr_extract rfl rfl rfl) ?_
  refine at_d rfl rfl (opr_extract rfl rfl rfl) ?_
  refine at_n rfl rfl (opr_alloc rfl zero22 rfl) ?_
  intro g1
  refine at_n rfl rfl (opr_alloc rfl zero22 rfl) ?_
  intro g2
  refine at_d rfl rfl (opr_store (i := 1) rfl rfl rfl rfl rfl size22 (E_length _) (by rw [EE_length]; exact Nat.le_of_ble_eq_true rfl) (E_flat _) (EE_set (k := 0) (Nat.le_of_ble_eq_true rfl) rfl)) ?_
  refine at_d rfl rfl (opr_store (i := 0) rfl rfl rfl rfl rfl size22 (E_length _) (by rw [EE_length]; exact Nat.le_of_ble_eq_true rfl) (E_flat _) (EE_set (k := 0) (Nat.le_of_ble_eq_true rfl) rfl)) ?_
  refine at_nil ?_
  refine at_then ?_
  refine at_seq ?_
  refine at_draw_inv (by kernel_rfl) (by kernel_rfl) (vs0 := List.replicate 10 undef) rfl (J := fun L vs M1 => ∃ XA XC : Mem, M1 = XA ++ (XC ++ (⟨g2, 22, EE [(Y * invp Z % pp)]⟩ :: ⟨g1, 22, EE [(X * invp Z % pp)]⟩ :: ⟨g0, 33, NN [X, Y, Z]⟩ :: M)) ∧ EJ 5 g1 g2 ((X * invp Z % pp)) ((Y * invp Z % pp)) L vs XA XC) ⟨[], [], rfl, ⟨fun h => absurd h Bool.false_ne_true, fun _ => fun h => absurd h Bool.false_ne_true, fun _ => fun h => absurd h Bool.false_ne_true, fun _ => rfl, fun h => absurd h Bool.false_ne_true, fun _ => rfl, fun h => absurd h Bool.false_ne_true, fun h => absurd h Bool.false_ne_true, fun h => absurd h Bool.false_ne_true, fun h => absurd h Bool.false_ne_true, fun h => absurd h Bool.false_ne_true, fun h => absurd h Bool.false_ne_true⟩⟩ ?_ ?_
  · intro i o L vs M1 hio hLi hbf hlt hvl ⟨XA, XC, hM1, hE⟩
    subst hM1
    match i, hio, hLi, hbf, hlt with
    | 0, hio, hLi, hbf, hlt =>
      obtain rfl := Option.some.inj hio
      have f2 := hlt 2 (List.elem_iff.1 (by kernel_rfl))
      have f8 := hlt 8 (List.elem_iff.1 (by kernel_rfl))
      have eA := hE.an hLi
      subst eA
      refine opX_of rfl rfl (opr_buildSlice0 rfl Tryd.underlying38 size5) ?_
      rintro _ _ ⟨g, rfl, rfl⟩
      exact ⟨_, .refl _, [⟨g, 5, []⟩], XC, rfl, hE.s0 hvl f2 f8 g⟩
    | 1, hio, hLi, hbf, hlt =>
      obtain rfl := Option.some.inj hio
      refine opX_of rfl rfl (opr_sliceAll rfl rfl Tryd.underlying22 rfl size5) ?_
      rintro _ _ ⟨rfl, rfl⟩
      exact ⟨_, .refl _, XA, XC, rfl, hE.pure hvl (by decide) (fun _ => rfl) (fun h => absurd h (by decide)) (fun h => absurd h (by decide)) (fun h => absurd h (by decide)) (fun h => absurd h (by decide)) (fun h => absurd h (by decide))⟩
    | 2, hio, hLi, hbf, hlt =>
      obtain rfl := Option.some.inj hio
      have t0 := hbf 0 (List.elem_iff.1 (by kernel_rfl)) (by decide)
      have t1 := hbf 1 (List.elem_iff.1 (by kernel_rfl)) (by decide)
      have f8 := hlt 8 (List.elem_iff.1 (by kernel_rfl))
      obtain ⟨g, e0, eA⟩ := hE.a0 hLi t0
      subst eA
      refine opX_of rfl rfl (opr_append (e := 5) (i := 0) (j := [(⟨g, 5, []⟩ : Blk)].length + (XC.length + 0)) (cs := []) (news := E ((Y * invp Z % pp))) (z := .int .u8 0) rfl (getD_of e0) (getD_of (hE.v1 t1)) rfl rfl (Nat.le_refl _) (get_app rfl) (E_length _) (by rw [EE_one]; exact E_at _) (E_flat _) Tryd.underlying38 (by kernel_rfl) (by decide) (by kernel_rfl) (by decide)) ?_
      rintro _ _ ⟨q, rfl, q1, q2, q3, rfl⟩
      exact ⟨_, .refl _, [⟨q.g, 5, q.cs⟩], XC, rfl, hE.s2 hvl t0 f8 q q1 q2 q3⟩
    | 3, hio, hLi, hbf, hlt =>
      obtain rfl := Option.some.inj hio
      refine opX_of rfl rfl (opr_indexAddr (j := 0) rfl rfl rfl Tryd.underlying22 (by decide) size5 rfl) ?_
      rintro _ _ ⟨rfl, rfl⟩
      exact ⟨_, .refl _, XA, XC, rfl, hE.pure hvl (by decide) (fun h => absurd h (by decide)) (fun _ => rfl) (fun h => absurd h (by decide)) (fun h => absurd h (by decide)) (fun h => absurd h (by decide)) (fun h => absurd h (by decide))⟩
    | 4, hio, hLi, hbf, hlt =>
      obtain rfl := Option.some.inj hio
      have t3 := hbf 3 (List.elem_iff.1 (by kernel_rfl)) (by decide)
      refine opX_of rfl rfl (opr_load1 (i := XA.length + (XC.length + 1)) rfl (getD_of (hE.v3 t3)) (get_app rfl) Tryd.underlying5 rfl (EE_byte (k := 0) (j := 0) rfl rfl (by decide))) ?_
      rintro _ _ ⟨rfl, rfl⟩
      exact ⟨_, .refl _, XA, XC, rfl, hE.pure hvl (by decide) (fun h => absurd h (by decide)) (fun h => absurd h (by decide)) (fun _ => rfl) (fun h => absurd h (by decide)) (fun h => absurd h (by decide)) (fun h => absurd h (by decide))⟩
    | 5, hio, hLi, hbf, hlt =>
      obtain rfl := Option.some.inj hio
      have t4 := hbf 4 (List.elem_iff.1 (by kernel_rfl)) (by decide)
      refine opX_of rfl rfl (opr_eq' (opr_rem8 (b := 2) rfl (getD_of (hE.v4 t4)) rfl (by decide)) (u8_eq' (b := ((X * invp Z % pp)) % 2) (by rw [Nat.pow_zero, Nat.div_one]; omega))) ?_
      rintro _ _ ⟨rfl, rfl⟩
      exact ⟨_, .refl _, XA, XC, rfl, hE.pure hvl (by decide) (fun h => absurd h (by decide)) (fun h => absurd h (by decide)) (fun h => absurd h (by decide)) (fun _ => rfl) (fun h => absurd h (by decide)) (fun h => absurd h (by decide))⟩
    | 6, hio, hLi, hbf, hlt =>
      obtain rfl := Option.some.inj hio
      have t5 := hbf 5 (List.elem_iff.1 (by kernel_rfl)) (by decide)
      refine opX_of rfl rfl (opr_eq' (opr_shl8 (n := 7) rfl (getD_of (hE.v5 t5)) rfl (by decide)) (u8_eq' (b := ((X * invp Z % pp)) % 2 * 128) (by omega))) ?_
      rintro _ _ ⟨rfl, rfl⟩
      exact ⟨_, .refl _, XA, XC, rfl, hE.pure hvl (by decide) (fun h => absurd h (by decide)) (fun h => absurd h (by decide)) (fun h => absurd h (by decide)) (fun h => absurd h (by decide)) (fun _ => rfl) (fun h => absurd h (by decide))⟩
    | 7, hio, hLi, hbf, hlt =>
      obtain rfl := Option.some.inj hio
      have t6 := hbf 6 (List.elem_iff.1 (by kernel_rfl)) (by decide)
      have eC := hE.cn hLi
      subst eC
      refine opX_of rfl rfl (opr_buildSliceV (ps := [(0, .tmp 16)]) (s := 1) (zv := .int .u8 0) (cs := [.int .u8 0]) (ds := [.int .u8 ((((X * invp Z % pp)) % 2 * 128 : Nat) : Int)]) rfl (by exact congrArg (fun v => some [(0, v)]) (getD_eq (hE.v6 t6))) Tryd.underlying38 (by kernel_rfl) (by decide) (by decide) (by kernel_rfl) rfl) ?_
      rintro _ _ ⟨g, rfl, rfl⟩
      exact ⟨_, List.perm_middle, XA, [⟨g, 5, [.int .u8 ((((X * invp Z % pp)) % 2 * 128 : Nat) : Int)]⟩], rfl, hE.s7 hvl g⟩
    | 8, hio, hLi, hbf, hlt =>
      obtain rfl := Option.some.inj hio
      have t0 := hbf 0 (List.elem_iff.1 (by kernel_rfl)) (by decide)
      have t2 := hbf 2 (List.elem_iff.1 (by kernel_rfl)) (by decide)
      have t7 := hbf 7 (List.elem_iff.1 (by kernel_rfl)) (by decide)
      have f9 := hlt 9 (List.elem_iff.1 (by kernel_rfl))
      obtain ⟨p, e2, p1, p2, p3, eA⟩ := hE.a2 hLi t2
      obtain ⟨g, e7, eC⟩ := hE.c7 t7
      subst eA eC
      refine opX_of rfl rfl (opr_append (e := 5) (i := 0) (j := 1) (news := [.int .u8 ((((X * invp Z % pp)) % 2 * 128 : Nat) : Int)]) (z := .int .u8 0) rfl (getD_of e2) (getD_of e7) rfl p1 p2 rfl rfl rfl flat_one Tryd.underlying38 (by kernel_rfl) (by decide) (by kernel_rfl) (by decide)) ?_
      rintro _ _ ⟨q, rfl, q1, q2, q3, rfl⟩
      exact ⟨_, .refl _, [⟨q.g, 5, q.cs⟩], [⟨g, 5, [.int .u8 ((((X * invp Z % pp)) % 2 * 128 : Nat) : Int)]⟩], rfl, hE.s8 hvl t0 t2 f9 q q1 q2 (q3.trans (by rw [p3]; rfl))⟩
    | 9, hio, hLi, hbf, hlt =>
      obtain rfl := Option.some.inj hio
      have t8 := hbf 8 (List.elem_iff.1 (by kernel_rfl)) (by decide)
      obtain ⟨p, e8, p1, p2, p3, eA⟩ := hE.a8 t8
      refine opX_of rfl rfl (opr_assign rfl (getD_of e8)) ?_
      rintro _ _ ⟨rfl, rfl⟩
      exact ⟨_, .refl _, XA, XC, rfl, hE.pure hvl (by decide) (fun h => absurd h (by decide)) (fun h => absurd h (by decide)) (fun h => absurd h (by decide)) (fun h => absurd h (by decide)) (fun h => absurd h (by decide)) (fun _ => e8.symm)⟩
    | n + 10, hio, _, _, _ => exact absurd (List.getElem?_eq_some_iff.1 hio).1 (by simp)
  · intro L vs M1 hvl hL ⟨XA, XC, hM1, hE⟩
    obtain ⟨p, e8, p1, p2, p3, eA⟩ := hE.a8 (hL 8 (by simp))
    have e9 := (hE.v9 (hL 9 (by simp))).trans e8
    subst hM1 eA
    refine at_then ?_
    refine at_ret ?_
    exact done_of (res1 Tryd.results28 (res_tmp (getD_of e9))) ⟨p, rfl, p1, p2, p3, rfl⟩ (List.Sublist.cons_cons _ (List.Sublist.trans (by repeat (first | exact List.Sublist.refl _ | apply List.Sublist.cons_cons | apply List.Sublist.cons)) (List.sublist_append_right XC _)))
theorem pMarshal_ct {M : Mem} {ig Tp : Nat} (hG : M[ig]? = some ⟨3, Tp, EE [pp]⟩) {ip gP TP x y : Nat} (hP : M[ip]? = some ⟨gP, TP, EE [x, y, 1, x, y]⟩) (hne : ip ≠ ig) (hx : x < RR) (hy : y < RR) : Ct Tryd.prog 66 #[.pointer (some ⟨gP, 0, none⟩)] M (fun v M' => ∃ g, v = .tuple #[.slice (some ⟨g, 0, none⟩) 57 57, .nilIface] ∧ M' = ⟨g, 5, EB (y % pp) (x % pp % 2 * 128)⟩ :: M.set ip ⟨gP, TP, EE [x * invp 1 % pp, y * invp 1 % pp, 1, x * invp 1 % pp, y * invp 1 % pp]⟩) := by
  refine ct_of (vs := [.pointer (some ⟨gP, 0, none⟩)]) Tryd.func66 rfl Tryd.ntmps66 rfl fun w0 => ?_
  refine at_seq ?_
  refine at_region ?_
  refine at_d rfl rfl (opr_assign rfl rfl) ?_
  refine at_d rfl rfl (opr_assign rfl rfl) ?_
  refine at_nil ?_
  refine at_then ?_
  refine at_seq ?_
  refine at_region ?_
  refine at_c rfl rfl (opr_makeSlice (n := 57) (cs := EB 0 0) rfl rfl rfl Tryd.underlying38 (by kernel_rfl) (by decide) zero57) ?_
  rintro _ _ ⟨gs, rfl, rfl⟩
  refine at_d rfl rfl (opr_assign rfl rfl) ?_
  refine at_nil ?_
  refine at_then ?_
  refine at_seq ?_
  refine at_region ?_
  refine at_d rfl rfl (opr_move rfl rfl) ?_
  refine at_d rfl rfl (opr_move rfl rfl) ?_
  refine at_d rfl rfl (opr_sliceSHi (b := 57) rfl rfl rfl Tryd.underlying38 size5 (by decide) (by decide)) ?_
  refine at_d rfl rfl (opr_call rfl rfl rfl Tryd.func65 (by kernel_rfl) rfl (ct_frame2 (i := ip + 1) (j := 0) (k := ig + 1) hP rfl hG (by omega) (by omega) (by omega) (pToBytes_ct (M := []) hx hy RR_one))) ?_
  have hb1 : (M.set ip ⟨gP, TP, EE [x * invp 1 % pp, y * invp 1 % pp, 1, x * invp 1 % pp, y * invp 1 % pp]⟩)[ip]? = some ⟨gP, TP, EE [x * invp 1 % pp, y * invp 1 % pp, 1, x * invp 1 % pp, y * invp 1 % pp]⟩ := get_set hP
  have hb1_3 : (M.set ip ⟨gP, TP, EE [x * invp 1 % pp, y * invp 1 % pp, 1, x * invp 1 % pp, y * invp 1 % pp]⟩)[ig]? = some ⟨3, Tp, EE [pp]⟩ := get_set_ne hG hne
  refine at_mem (M2 := ⟨gs, 5, EB (y * invp 1 % pp) (x * invp 1 % pp % 2 * 128)⟩ :: (M.set ip ⟨gP, TP, EE [x * invp 1 % pp, y * invp 1 % pp, 1, x * invp 1 % pp, y * invp 1 % pp]⟩)) (by simp) ?_
  refine at_d rfl rfl (opr_assign rfl rfl) ?_
  refine at_nil ?_
  refine at_then ?_
  refine at_seq ?_
  refine at_region ?_
  refine at_d rfl rfl (opr_move rfl rfl) ?_
  refine at_d rfl rfl (opr_move rfl rfl) ?_
  refine at_d rfl rfl (opr_assign rfl rfl) ?_
  refine at_d rfl rfl (opr_assign rfl rfl) ?_
  refine at_nil ?_
  refine at_then ?_
  refine at_ret ?_
  exact done_of (res2 Tryd.results66 (res_tmp rfl) (res_tmp rfl)) ⟨gs, rfl, by rw [← aff_mod y, ← aff_mod x]⟩ (by repeat (first | exact List.Sublist.refl _ | apply List.Sublist.cons_cons | apply List.Sublist.cons))
theorem iMarshal_ct {M : Mem} {ig Tp jd Td : Nat} (hG : M[ig]? = some ⟨3, Tp, EE [pp]⟩) (hD : M[jd]? = some ⟨0, Td, EE [dP]⟩) {x y : Nat} (hx : x < RR) (hy : y < RR) (hOn : On (el dP) (el x) (el y)) : Ct Tryd.prog 35 #[.agg (EE [x, y]).toArray] M (fun v M' => ∃ g, v = .tuple #[.slice (some ⟨g, 0, none⟩) 57 57, .bool true] ∧ M' = ⟨g, 5, EB (y % pp) (x % pp % 2 * 128)⟩ :: M) := by
  refine ct_of (vs := [.agg (EE [x, y]).toArray]) Tryd.func35 rfl Tryd.ntmps35 rfl fun w0 => ?_
  refine at_seq ?_
  refine at_region ?_
  refine at_n rfl rfl (opr_box rfl rfl rfl) ?_
  intro g0
  refine at_d rfl rfl (opr_assign rfl rfl) ?_
  refine at_d rfl rfl (opr_assign rfl rfl) ?_
  refine at_nil ?_
  refine at_then ?_
  refine at_seq ?_
  refine at_region ?_
  refine at_d rfl rfl (opr_load (i := 0) rfl rfl rfl Tryd.underlying24 rfl size24 (EE_length _) (EE_all rfl)) ?_
  refine at_c rfl rfl (opr_call rfl rfl rfl Tryd.func43 (by kernel_rfl) rfl (pointT_ct (ig := ig + 1) (jd := jd + 1) hG hD hx hy hOn)) ?_
  rintro _ _ ⟨gN1, rfl, rfl⟩
  refine at_d rfl rfl (opr_move rfl rfl) ?_
  refine at_d rfl rfl (opr_extract rfl rfl rfl) ?_
  refine at_d rfl rfl (opr_extract rfl rfl rfl) ?_
  refine at_d rfl rfl (opr_assign rfl rfl) ?_
  refine at_d rfl rfl (opr_assign rfl rfl) ?_
  refine at_nil ?_
  refine at_then ?_
  refine at_seq ?_
  refine at_seq ?_
  refine at_region ?_
  refine at_d rfl rfl (opr_move rfl rfl) ?_
  refine at_d rfl rfl (opr_unOp (u := .bool false) rfl rfl (fun _ => rfl)) ?_
  refine at_nil ?_
  refine at_then ?_
  refine at_cond_false rfl ?_
  refine at_skip ?_
  refine at_then ?_
  refine at_seq ?_
  refine at_region ?_
  refine at_d rfl rfl (opr_move rfl rfl) ?_
  refine at_c rfl rfl (opr_call rfl rfl rfl Tryd.func66 (by kernel_rfl) rfl (pMarshal_ct (ig := ig + 2) (ip := 0) hG rfl (by omega) hx hy)) ?_
  rintro _ _ ⟨gm, rfl, rfl⟩
  refine at_d rfl rfl (opr_move rfl rfl) ?_
  refine at_d rfl rfl (opr_extract rfl rfl rfl) ?_
  refine at_d rfl rfl (opr_extract rfl rfl rfl) ?_
  refine at_d rfl rfl (opr_assign rfl rfl) ?_
  refine at_d rfl rfl (opr_assign rfl rfl) ?_
  refine at_nil ?_
  refine at_then ?_
  refine at_seq ?_
  refine at_drawQ (by kernel_rfl) (by kernel_rfl) (List.cons_ne_nil _ _) ?_
  refine dr_op rfl rfl (opr_move rfl rfl) ?_
  refine dr_op rfl rfl (opr_move rfl rfl) ?_
  refine dr_op rfl rfl (opr_eqlNil rfl rfl (by kernel_rfl)) ?_
  refine dr_op rfl rfl (opr_assign rfl rfl) ?_
  refine dr_last rfl rfl (opr_assign rfl rfl) ?_
  refine ⟨rfl, ?_⟩
  refine at_then ?_
  refine at_ret ?_
  exact done_of (res2 Tryd.results35 (res_tmp rfl) (res_tmp rfl)) ⟨gm, rfl, rfl⟩ (by repeat (first | exact List.Sublist.refl _ | apply List.Sublist.cons_cons | apply List.Sublist.cons))
theorem EB_take (y s : Nat) : (EB y s).take 57 = EB y s := List.take_of_length_le (by rw [EB_length]; exact Nat.le_refl _)
theorem sEncode1_ct {M : Mem} {x y : Nat} (hx : x < RR) (hy : y < RR) : Ct Tryd.prog 28 #[.agg (NN [x, y, 1]).toArray] M (fun v M' => ∃ q : Sl, v = .slice (some ⟨q.g, 0, none⟩) 57 q.cap ∧ q.cs.length = q.cap ∧ 57 ≤ q.cap ∧ q.cs.take 57 = EB (y % pp) (x % pp % 2 * 128) ∧ M' = ⟨q.g, 5, q.cs⟩ :: M) := by
  have h := sEncode_ct (M := M) hx hy RR_one
  rw [aff_mod, aff_mod] at h
  exact h
theorem lawEN_ct {M : Mem} {ig Tp jd Td : Nat} (hG : M[ig]? = some ⟨3, Tp, EE [pp]⟩) (hD : M[jd]? = some ⟨0, Td, EE [dP]⟩) {x1 y1 : Nat} (hx1 : x1 < RR) (hy1 : y1 < RR) (hN : onAll [x1, y1] 1 = false) : Ct Tryd.prog 7 #[.agg (EE [x1, y1]).toArray] M (Det (.bool true) M) := by
  refine ct_of (vs := [.agg (EE [x1, y1]).toArray]) Tryd.func7 rfl Tryd.ntmps7 rfl fun w0 => ?_
  refine at_seq ?_
  refine at_region ?_
  refine at_n rfl rfl (opr_box rfl rfl rfl) ?_
  intro g0
  refine at_d rfl rfl (opr_assign rfl rfl) ?_
  refine at_nil ?_
  refine at_then ?_
  refine at_seq ?_
  refine at_seq ?_
  refine at_region ?_
  refine at_d rfl rfl (opr_load (i := 0) rfl rfl rfl Tryd.underlying24 rfl size24 (EE_length _) (EE_all rfl)) ?_
  refine at_c rfl rfl (opr_buildSlice (s := 112) (zs := List.replicate 112 (.int .u8 0)) (cs := EE [0, 0]) (ds := EE [x1, y1]) rfl rfl Tryd.underlying61 (by kernel_rfl) (by decide) (by decide) (by kernel_rfl) (fill_pairs [(0, x1, y1)] _ rfl)) ?_
  rintro _ _ ⟨gS1, rfl, rfl⟩
  refine at_d rfl rfl (opr_eq' (opr_call rfl rfl rfl Tryd.func13 (by kernel_rfl) rfl (on_ct (il := 0) (l := [x1, y1]) rfl rfl (by intro x hx; simp only [List.mem_cons, List.not_mem_nil, or_false] at hx; rcases hx with rfl | rfl <;> assumption) (by decide))) (congrArg Value.bool hN)) ?_
  refine at_d rfl rfl (opr_unOp (u := .bool true) rfl rfl (fun _ => rfl)) ?_
  refine at_nil ?_
  refine at_then ?_
  refine at_cond_true rfl ?_
  refine at_seq ?_
  refine at_region ?_
  refine at_d rfl rfl (opr_assign rfl rfl) ?_
  refine at_nil ?_
  refine at_then ?_
  refine at_ret ?_
  refine at_then_ret ?_
  refine done_of (res1 Tryd.results7 (res_tmp rfl)) ⟨rfl, rfl⟩ (by repeat (first | exact List.Sublist.refl _ | apply List.Sublist.cons))
theorem lawEM_ct {M : Mem} {ig Tp jd Td : Nat} (hG : M[ig]? = some ⟨3, Tp, EE [pp]⟩) (hD : M[jd]? = some ⟨0, Td, EE [dP]⟩) {x1 y1 : Nat} (hx1 : x1 < RR) (hy1 : y1 < RR) (hN : onAll [x1, y1] 1 = true) (hOn : On (el dP) (el x1) (el y1)) : Ct Tryd.prog 7 #[.agg (EE [x1, y1]).toArray] M (Det (.bool true) M) := by
  refine ct_of (vs := [.agg (EE [x1, y1]).toArray]) Tryd.func7 rfl Tryd.ntmps7 rfl fun w0 => ?_
  refine at_seq ?_
  refine at_region ?_
  refine at_n rfl rfl (opr_box rfl rfl rfl) ?_
  intro g0
  refine at_d rfl rfl (opr_assign rfl rfl) ?_
  refine at_nil ?_
  refine at_then ?_
  refine at_seq ?_
  refine at_seq ?_
  refine at_region ?_
  refine at_d rfl rfl (opr_load (i := 0) rfl rfl rfl Tryd.underlying24 rfl size24 (EE_length _) (EE_all rfl)) ?_
  refine at_c rfl rfl (opr_buildSlice (s := 112) (zs := List.replicate 112 (.int .u8 0)) (cs := EE [0, 0]) (ds := EE [x1, y1]) rfl rfl Tryd.underlying61 (by kernel_rfl) (by decide) (by decide) (by kernel_rfl) (fill_pairs [(0, x1, y1)] _ rfl)) ?_
  rintro _ _ ⟨gS1, rfl, rfl⟩
  refine at_d rfl rfl (opr_eq' (opr_call rfl rfl rfl Tryd.func13 (by kernel_rfl) rfl (on_ct (il := 0) (l := [x1, y1]) rfl rfl (by intro x hx; simp only [List.mem_cons, List.not_mem_nil, or_false] at hx; rcases hx with rfl | rfl <;> assumption) (by decide))) (congrArg Value.bool hN)) ?_
  refine at_d rfl rfl (opr_unOp (u := .bool false) rfl rfl (fun _ => rfl)) ?_
  refine at_nil ?_
  refine at_then ?_
  refine at_cond_false rfl ?_
  refine at_skip ?_
  refine at_then ?_
  refine at_seq ?_
  refine at_region ?_
  refine at_d rfl rfl (opr_load (i := 1) rfl rfl rfl Tryd.underlying24 rfl size24 (EE_length _) (EE_all rfl)) ?_
  refine at_c rfl rfl (opr_call rfl rfl rfl Tryd.func34 (by kernel_rfl) rfl (iEncode_ct (ig := ig + 2) (jd := jd + 2) hG hD hx1 hy1 hOn)) ?_
  rintro _ _ ⟨gs, rfl, rfl⟩
  refine at_d rfl rfl (opr_move rfl rfl) ?_
  refine at_d rfl rfl (opr_extract rfl rfl rfl) ?_
  refine at_d rfl rfl (opr_extract rfl rfl rfl) ?_
  refine at_d rfl rfl (opr_assign rfl rfl) ?_
  refine at_d rfl rfl (opr_assign rfl rfl) ?_
  refine at_nil ?_
  refine at_then ?_
  refine at_seq ?_
  refine at_region ?_
  refine at_d rfl rfl (opr_load (i := 2) rfl rfl rfl Tryd.underlying24 rfl size24 (EE_length _) (EE_all rfl)) ?_
  refine at_c rfl rfl (opr_call rfl rfl rfl Tryd.func35 (by kernel_rfl) rfl (iMarshal_ct (ig := ig + 3) (jd := jd + 3) hG hD hx1 hy1 hOn)) ?_
  rintro _ _ ⟨gm, rfl, rfl⟩
  refine at_d rfl rfl (opr_move rfl rfl) ?_
  refine at_d rfl rfl (opr_extract rfl rfl rfl) ?_
  refine at_d rfl rfl (opr_extract rfl rfl rfl) ?_
  refine at_d rfl rfl (opr_assign rfl rfl) ?_
  refine at_d rfl rfl (opr_assign rfl rfl) ?_
  refine at_nil ?_
  refine at_then ?_
  refine at_seq ?_
  refine at_draw_one (by kernel_rfl) (by kernel_rfl) (n := 9) (vs0 := [.bool true, .bool true, .bool true, .bool true, .bool true, .slice (some ⟨gs, 0, none⟩) 57 57, .string (strB (y1 % pp) (x1 % pp % 2 * 128)), .agg (EE [x1, y1]).toArray, .agg (NN [x1, y1, 1]).toArray, undef, .string (strB (y1 % pp) (x1 % pp % 2 * 128)), .bool true, .bool true, .bool true, .slice (some ⟨gm, 0, none⟩) 57 57, .string (strB (y1 % pp) (x1 % pp % 2 * 128)), .slice (some ⟨gs, 0, none⟩) 57 57, .string (strB (y1 % pp) (x1 % pp % 2 * 128)), .bool true, .bool true, .bool true]) rfl (R9 := fun v M' => ∃ q : Sl, v = .slice (some ⟨q.g, 0, none⟩) 57 q.cap ∧ q.cs.length = q.cap ∧ 57 ≤ q.cap ∧ q.cs.take 57 = EB (y1 % pp) (x1 % pp % 2 * 128) ∧ M' = ⟨q.g, 5, q.cs⟩ :: (⟨gm, 5, EB (y1 % pp) (x1 % pp % 2 * 128)⟩ :: ⟨gs, 5, EB (y1 % pp) (x1 % pp % 2 * 128)⟩ :: ⟨gS1, 24, EE [x1, y1]⟩ :: ⟨g0, 24, EE [x1, y1]⟩ :: M)) ?_ ?_ ?_ (by decide) ?_
  · intro o ho
    obtain rfl := Option.some.inj ho
    exact ⟨rfl, .inl ⟨rfl, OpR.c (opr_call rfl rfl rfl Tryd.func28 (by kernel_rfl) rfl (sEncode1_ct hx1 hy1))⟩⟩
  · intro i o hio hne
    match i, hio, hne with
    | 0, hio, _ => obtain rfl := Option.some.inj hio; exact .inr ⟨rfl, .inl ⟨rfl, opr_move rfl rfl⟩⟩
    | 1, hio, _ => obtain rfl := Option.some.inj hio; exact .inr ⟨rfl, .inl ⟨rfl, opr_move rfl rfl⟩⟩
    | 2, hio, _ => obtain rfl := Option.some.inj hio; exact .inr ⟨rfl, .inl ⟨rfl, opr_move rfl rfl⟩⟩
    | 3, hio, _ => obtain rfl := Option.some.inj hio; exact .inr ⟨rfl, .inl ⟨rfl, opr_pickT rfl rfl rfl⟩⟩
    | 4, hio, _ => obtain rfl := Option.some.inj hio; exact .inr ⟨rfl, .inl ⟨rfl, opr_move rfl rfl⟩⟩
    | 5, hio, _ => obtain rfl := Option.some.inj hio; exact .inr ⟨rfl, .inl ⟨rfl, opr_move rfl rfl⟩⟩
    | 6, hio, _ => obtain rfl := Option.some.inj hio; exact .inr ⟨rfl, .inl ⟨rfl, opr_strB (i := 1) rfl rfl Tryd.underlying38 Tryd.underlying5 Tryd.underlying9 rfl (EB_take _ _)⟩⟩
    | 7, hio, _ => obtain rfl := Option.some.inj hio; exact .inr ⟨rfl, .inl ⟨rfl, opr_load (i := 3) rfl rfl rfl Tryd.underlying24 rfl size24 (EE_length _) (by rw [List.drop_zero, List.take_of_length_le (by rw [EE_length]; exact Nat.le_refl _)])⟩⟩
    | 8, hio, _ => obtain rfl := Option.some.inj hio; exact .inr ⟨rfl, .inl ⟨rfl, opr_call rfl rfl rfl Tryd.func16 (by kernel_rfl) rfl at_ct⟩⟩
    | 9, _, hne => exact absurd rfl hne
    | 10, _, _ => exact .inl (List.elem_iff.1 (by kernel_rfl))
    | 11, _, _ => exact .inl (List.elem_iff.1 (by kernel_rfl))
    | 12, _, _ => exact .inl (List.elem_iff.1 (by kernel_rfl))
    | 13, _, _ => exact .inl (List.elem_iff.1 (by kernel_rfl))
    | 14, _, _ => exact .inl (List.elem_iff.1 (by kernel_rfl))
    | 15, _, _ => exact .inl (List.elem_iff.1 (by kernel_rfl))
    | 16, _, _ => exact .inl (List.elem_iff.1 (by kernel_rfl))
    | 17, _, _ => exact .inl (List.elem_iff.1 (by kernel_rfl))
    | 18, _, _ => exact .inl (List.elem_iff.1 (by kernel_rfl))
    | 19, _, _ => exact .inl (List.elem_iff.1 (by kernel_rfl))
    | 20, _, _ => exact .inl (List.elem_iff.1 (by kernel_rfl))
    | n + 21, hio, _ => exact absurd (List.getElem?_eq_some_iff.1 hio).1 (by simp)
  · rintro _ _ ⟨q, rfl, q1, q2, q3, rfl⟩ i o hio hne
    match i, hio, hne with
    | 0, hio, _ => obtain rfl := Option.some.inj hio; exact ⟨rfl, .inl ⟨rfl, opr_move rfl rfl⟩⟩
    | 1, hio, _ => obtain rfl := Option.some.inj hio; exact ⟨rfl, .inl ⟨rfl, opr_move rfl rfl⟩⟩
    | 2, hio, _ => obtain rfl := Option.some.inj hio; exact ⟨rfl, .inl ⟨rfl, opr_move rfl rfl⟩⟩
    | 3, hio, _ => obtain rfl := Option.some.inj hio; exact ⟨rfl, .inl ⟨rfl, opr_pickT rfl rfl rfl⟩⟩
    | 4, hio, _ => obtain rfl := Option.some.inj hio; exact ⟨rfl, .inl ⟨rfl, opr_move rfl rfl⟩⟩
    | 5, hio, _ => obtain rfl := Option.some.inj hio; exact ⟨rfl, .inl ⟨rfl, opr_move rfl rfl⟩⟩
    | 6, hio, _ => obtain rfl := Option.some.inj hio; exact ⟨rfl, .inl ⟨rfl, opr_strB (i := 2) rfl rfl Tryd.underlying38 Tryd.underlying5 Tryd.underlying9 rfl (EB_take _ _)⟩⟩
    | 7, hio, _ => obtain rfl := Option.some.inj hio; exact ⟨rfl, .inl ⟨rfl, opr_load (i := 4) rfl rfl rfl Tryd.underlying24 rfl size24 (EE_length _) (by rw [List.drop_zero, List.take_of_length_le (by rw [EE_length]; exact Nat.le_refl _)])⟩⟩
    | 8, hio, _ => obtain rfl := Option.some.inj hio; exact ⟨rfl, .inl ⟨rfl, opr_call rfl rfl rfl Tryd.func16 (by kernel_rfl) rfl at_ct⟩⟩
    | 9, _, hne => exact absurd rfl hne
    | 10, hio, _ => obtain rfl := Option.some.inj hio; exact ⟨rfl, .inl ⟨rfl, opr_strB (i := 0) rfl rfl Tryd.underlying38 Tryd.underlying5 Tryd.underlying9 rfl q3⟩⟩
    | 11, hio, _ => obtain rfl := Option.some.inj hio; exact ⟨rfl, .inl ⟨rfl, opr_eqlStr rfl rfl rfl Tryd.underlying9⟩⟩
    | 12, hio, _ => obtain rfl := Option.some.inj hio; exact ⟨rfl, .inl ⟨rfl, opr_pickT rfl rfl rfl⟩⟩
    | 13, hio, _ => obtain rfl := Option.some.inj hio; exact ⟨rfl, .inl ⟨rfl, opr_move rfl rfl⟩⟩
    | 14, hio, _ => obtain rfl := Option.some.inj hio; exact ⟨rfl, .inl ⟨rfl, opr_move rfl rfl⟩⟩
    | 15, hio, _ => obtain rfl := Option.some.inj hio; exact ⟨rfl, .inl ⟨rfl, opr_strB (i := 1) rfl rfl Tryd.underlying38 Tryd.underlying5 Tryd.underlying9 rfl (EB_take _ _)⟩⟩
    | 16, hio, _ => obtain rfl := Option.some.inj hio; exact ⟨rfl, .inl ⟨rfl, opr_move rfl rfl⟩⟩
    | 17, hio, _ => obtain rfl := Option.some.inj hio; exact ⟨rfl, .inl ⟨rfl, opr_strB (i := 2) rfl rfl Tryd.underlying38 Tryd.underlying5 Tryd.underlying9 rfl (EB_take _ _)⟩⟩
    | 18, hio, _ => obtain rfl := Option.some.inj hio; exact ⟨rfl, .inl ⟨rfl, opr_eqlStr rfl rfl rfl Tryd.underlying9⟩⟩
    | 19, hio, _ => obtain rfl := Option.some.inj hio; exact ⟨rfl, .inl ⟨rfl, opr_pickT rfl rfl rfl⟩⟩
    | 20, hio, _ => obtain rfl := Option.some.inj hio; exact ⟨rfl, .inl ⟨rfl, opr_assign rfl rfl⟩⟩
    | n + 21, hio, _ => exact absurd (List.getElem?_eq_some_iff.1 hio).1 (by simp)
  rintro _ _ ⟨q, rfl, q1, q2, q3, rfl⟩
  refine at_then ?_
  refine at_ret ?_
  refine done_of (res1 Tryd.results7 (res_tmp rfl)) ⟨rfl, rfl⟩ (by repeat (first | exact List.Sublist.refl _ | apply List.Sublist.cons))
theorem fnEncodeIs_ct {M : Mem} {ig Tp jd Td : Nat} (hG : M[ig]? = some ⟨3, Tp, EE [pp]⟩) (hD : M[jd]? = some ⟨0, Td, EE [dP]⟩) {x1 y1 : Nat} (hx1 : x1 < RR) (hy1 : y1 < RR) : Ct Tryd.prog 7 #[.agg (EE [x1, y1]).toArray] M (Det (.bool true) M) := by
  by_cases hOn : On (el dP) (el x1) (el y1)
  · exact lawEM_ct hG hD hx1 hy1 (by rw [onAll_is]; exact onB_iff.2 hOn) hOn
  · exact lawEN_ct hG hD hx1 hy1 (by rw [onAll_is]; exact onB_false hOn)
end Go.Proofs.YtjanppnnioeifaaDoor
