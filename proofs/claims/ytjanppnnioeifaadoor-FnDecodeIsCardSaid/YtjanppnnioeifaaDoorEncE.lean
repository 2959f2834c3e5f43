/- Points to bytes. -/
import Derived.Test.YtjanppnnioeifaaDoorPtI
import Derived.Test.YtjanppnnioeifaaDoorPtL0
import Derived.Test.YtjanppnnioeifaaDoorCopyA
import Derived.Test.YtjanppnnioeifaaDoorAppend
import Derived.Test.YtjanppnnioeifaaDoorIface
namespace Go.Proofs.YtjanppnnioeifaaDoor
open Go
set_option maxRecDepth 100000

/-- 56 bytes of a number, and one more byte. -/
def EB (y s : Nat) : List Value := E y ++ [.int .u8 (s : Int)]
theorem EB_length (y s : Nat) : (EB y s).length = 57 := by rw [EB, List.length_append, E_length]; rfl
theorem EB_put {y b s : Nat} : splice (EB b s) 0 (E y) = EB y s := by
  rw [splice, List.take_zero, List.nil_append, Nat.zero_add, E_length, EB, List.drop_append_of_le_length (by rw [E_length]; exact Nat.le_refl _), List.drop_of_length_le (by rw [E_length]; exact Nat.le_refl _), List.nil_append, EB]
theorem EB_set {y b s : Nat} : splice (EB y b) 56 [.int .u8 (s : Int)] = EB y s := by
  have h1 : (EB y b).take 56 = E y := by rw [EB, List.take_append_of_le_length (by rw [E_length]; exact Nat.le_refl _), List.take_of_length_le (by rw [E_length]; exact Nat.le_refl _)]
  have h2 : (EB y b).drop (56 + [Value.int .u8 (s : Int)].length) = [] := List.drop_of_length_le (by rw [EB_length]; exact Nat.le_refl _)
  rw [splice, h1, h2, List.append_nil, EB]
theorem EB_last (y s : Nat) : (EB y s)[56]? = some (.int .u8 (s : Int)) := by
  rw [EB, List.getElem?_append_right (by rw [E_length]; exact Nat.le_refl _), E_length]; rfl
theorem EB_head (y s : Nat) : (EB y s).take 56 = E y := by rw [EB, List.take_append_of_le_length (by rw [E_length]; exact Nat.le_refl _), List.take_of_length_le (by rw [E_length]; exact Nat.le_refl _)]
theorem EB_flat (y s : Nat) : ∀ v ∈ EB y s, flat v = true := by
  intro v hv
  rcases List.mem_append.1 hv with h | h
  · exact E_flat _ v h
  · rw [List.mem_singleton.1 h]; rfl
theorem E_get {a j : Nat} (hj : j < 56) : (E a)[j]? = some (.int .u8 ((a / 256 ^ j % 256 : Nat) : Int)) := by
  rw [E, List.getElem?_map, digs_get 56 a j hj]; rfl
theorem EE_byte {l : List Nat} {k a j off : Nat} (hk : l[k]? = some a) (ho : 56 * k = off) (hj : j < 56) : (EE l)[off + j]? = some (.int .u8 ((a / 256 ^ j % 256 : Nat) : Int)) := by
  obtain ⟨h1, h2⟩ := List.getElem?_eq_some_iff.1 hk
  rw [← ho, ← List.getElem?_drop, EE_drop, List.drop_eq_getElem_cons h1, EE, h2, List.getElem?_append_left (by rw [E_length]; exact hj), E_get hj]
theorem opr_and8 {P : Program} {St : Slots} {M : Mem} {o : Oper} {x y : Operand} {T T' : Nat} {a b : Nat} (ho : o.op = .binOp .and T x y T') (hx : evalS St x = some (.int .u8 (a : Int))) (hy : evalS St y = some (.int .u8 (b : Int))) (ha : a < 256) (hb : b < 256) : OpR P St M o (Det (.int .u8 ((a &&& b : Nat) : Int)) M) := by
  have h := opr_binOp (P := P) (M := M) (v := .int .u8 (bits .and .u8 (a : Int) (b : Int))) ho hx hy (fun _ => rfl)
  rw [u8_and_nat a b ha hb] at h; exact h
theorem opr_shl8 {P : Program} {St : Slots} {M : Mem} {o : Oper} {x y : Operand} {T T' : Nat} {k' : IntKind} {a n : Nat} (ho : o.op = .binOp .shl T x y T') (hx : evalS St x = some (.int .u8 (a : Int))) (hy : evalS St y = some (.int k' (n : Int))) (hn : n ≤ 8) : OpR P St M o (Det (.int .u8 ((a * 2 ^ n % 256 : Nat) : Int)) M) := by
  have h := opr_binOp (P := P) (M := M) ho hx hy (fun w => run_shl .u8 k' a n P T w)
  have e0 : min n (IntKind.u8.bits) = n := Nat.min_eq_left hn
  rw [e0, wrap_u8] at h
  have e : (a : Int) * 2 ^ n % 256 = ((a * 2 ^ n % 256 : Nat) : Int) := by push_cast; rfl
  rw [e] at h; exact h
theorem u8_eq' {a b : Nat} (h : a = b) : Value.int .u8 (a : Int) = Value.int .u8 (b : Int) := congrArg (fun n : Nat => Value.int .u8 (n : Int)) h
theorem opr_eq' {P : Program} {St : Slots} {M M' : Mem} {o : Oper} {v v' : Value} (h : OpR P St M o (Det v M')) (e : v = v') : OpR P St M o (Det v' M') := e ▸ h
theorem i64_eq {a b : Nat} (h : a = b) : Value.int .i64 (a : Int) = Value.int .i64 (b : Int) := congrArg (fun n : Nat => Value.int .i64 (n : Int)) h
theorem aff_mod (a : Nat) : a * invp 1 % pp = a % pp := by
  have h := el_eq.1 (aff1 a)
  rwa [Nat.mod_mod] at h
theorem sign_of (x : Nat) : (x % 256 &&& 1) * 2 ^ 7 % 256 = x % 2 * 128 := by
  rw [Nat.and_one_is_mod]
  omega
/-- A contract whose two first blocks may change and whose third one stays, used where they lie. -/
theorem ct_frame2 {P : Program} {f : FuncId} {args : Array Value} {M : Mem} {i j k ga Ta gb Tb gc Tc : Nat} {ca cb cc ca' cb' : List Value} {v : Value} (ha : M[i]? = some ⟨ga, Ta, ca⟩) (hb : M[j]? = some ⟨gb, Tb, cb⟩) (hc : M[k]? = some ⟨gc, Tc, cc⟩) (hij : i ≠ j) (hik : i ≠ k) (hjk : j ≠ k)
    (h : Ct P f args [⟨ga, Ta, ca⟩, ⟨gb, Tb, cb⟩, ⟨gc, Tc, cc⟩] (Det v [⟨ga, Ta, ca'⟩, ⟨gb, Tb, cb'⟩, ⟨gc, Tc, cc⟩])) : Ct P f args M (Det v ((M.set i ⟨ga, Ta, ca'⟩).set j ⟨gb, Tb, cb'⟩)) := by
  intro w hw
  have hL : ∀ b ∈ ([⟨ga, Ta, ca⟩, ⟨gb, Tb, cb⟩, ⟨gc, Tc, cc⟩] : Mem), b ∈ M := by
    intro b hb'
    simp only [List.mem_cons, List.not_mem_nil, or_false] at hb'
    rcases hb' with rfl | rfl | rfl
    · exact List.mem_of_getElem? ha
    · exact List.mem_of_getElem? hb
    · exact List.mem_of_getElem? hc
  have nab : ga ≠ gb := fun e => hij (hw.uniq ha hb e)
  have nac : ga ≠ gc := fun e => hik (hw.uniq ha hc e)
  have nbc : gb ≠ gc := fun e => hjk (hw.uniq hb hc e)
  refine (h w ⟨fun b hb' => hw.at_ b (hL b hb'), by simp [ids, nab, nac, nbc]⟩).mono ?_
  rintro e w' ⟨_, _, ⟨rfl, rfl⟩, rfl, hI⟩
  have hb2 : (M.set i ⟨ga, Ta, ca'⟩)[j]? = some ⟨gb, Tb, cb⟩ := get_set_ne hb hij
  refine ⟨_, _, ⟨rfl, rfl⟩, rfl, ⟨⟨fun b hb' => ?_, ?_⟩, ⟨hI.stp.os, hI.stp.tape, hI.stp.output, hI.stp.size, fun q hq hS => ?_⟩, fun b hb' => ?_⟩⟩
  · obtain ⟨q, hq⟩ := List.getElem?_of_mem hb'
    by_cases e1 : j = q
    · subst e1
      rw [get_set hb2] at hq
      obtain rfl := Option.some.inj hq
      exact hI.has.at_ _ (by simp)
    · by_cases e2 : i = q
      · subst e2
        rw [get_set_ne (get_set ha) e1] at hq
        obtain rfl := Option.some.inj hq
        exact hI.has.at_ _ (by simp)
      · have hq0 : M[q]? = some b := by
          rw [List.getElem?_set_ne e1, List.getElem?_set_ne e2] at hq
          exact hq
        have hbm := hw.at_ b (List.mem_of_getElem? hq0)
        by_cases e3 : k = q
        · subst e3
          rw [hc] at hq0
          obtain rfl := Option.some.inj hq0
          exact hI.has.at_ _ (by simp)
        · have n1 : ga ≠ b.g := fun e => e2 (hw.uniq ha hq0 e)
          have n2 : gb ≠ b.g := fun e => e1 (hw.uniq hb hq0 e)
          have n3 : gc ≠ b.g := fun e => e3 (hw.uniq hc hq0 e)
          rw [hI.stp.block b.g (hw.lt (List.mem_of_getElem? hq0)) (by simp [ids, n1.symm, n2.symm, n3.symm])]
          exact hbm
  · rw [ids_set hb2 ⟨gb, Tb, cb'⟩ rfl, ids_set ha ⟨ga, Ta, ca'⟩ rfl]; exact hw.nodup
  · refine hI.stp.block q hq fun hm => hS ?_
    obtain ⟨b, hb', rfl⟩ := List.mem_map.1 hm
    exact List.mem_map_of_mem (hL b hb')
  · left
    rw [← ids_set ha ⟨ga, Ta, ca'⟩ rfl, ← ids_set hb2 ⟨gb, Tb, cb'⟩ rfl]
    exact List.mem_map_of_mem hb'
theorem toBytesB_ct {M : Mem} {ig Tp : Nat} (hG : M[ig]? = some ⟨3, Tp, EE [pp]⟩) {ix ik gx gk Tx Tk kx ox a b s : Nat} {lx : List Nat} (hx : M[ix]? = some ⟨gx, Tx, EE lx⟩) (hkx : lx[kx]? = some a) (hox : 56 * kx = ox) (hk : M[ik]? = some ⟨gk, Tk, EB b s⟩) (hne : ix ≠ ik) (ha : a < RR) : Ct Tryd.prog 91 #[.slice (some ⟨gk, 0, none⟩) 56 57, .pointer (some ⟨gx, ox, none⟩)] M (Det .nilIface ((M.set ix ⟨gx, Tx, EE (lx.set kx (a % pp))⟩).set ik ⟨gk, Tk, EB (a % pp) s⟩)) := by
  refine ct_of (vs := [.slice (some ⟨gk, 0, none⟩) 56 57, .pointer (some ⟨gx, ox, none⟩)]) Tryd.func91 rfl Tryd.ntmps91 rfl fun w0 => ?_
  refine at_seq ?_
  refine at_region ?_
  refine at_d rfl rfl (opr_assign rfl rfl) ?_
  refine at_nil ?_
  refine at_then ?_
  refine at_seq ?_
  refine at_seq ?_
  refine at_region ?_
  refine at_d rfl rfl (opr_move rfl rfl) ?_
  refine at_d rfl rfl (opr_lenS rfl rfl Tryd.underlying38) ?_
  refine at_d rfl rfl (opr_binOp (v := .bool false) rfl rfl rfl (fun _ => rfl)) ?_
  refine at_nil ?_
  refine at_then ?_
  refine at_cond_false rfl ?_
  refine at_skip ?_
  refine at_then ?_
  refine at_seq ?_
  refine at_region ?_
  refine at_d rfl rfl (opr_move rfl rfl) ?_
  refine at_d rfl rfl (opr_call rfl rfl rfl Tryd.func86 (by kernel_rfl) rfl (modp_ct (ig := ig) (iz := ix) (kz := kx) hG hx hkx hox ha)) ?_
  refine at_nil ?_
  refine at_then ?_
  refine at_seq ?_
  refine at_region ?_
  refine at_d rfl rfl (opr_move rfl rfl) ?_
  refine at_d rfl rfl (opr_move rfl rfl) ?_
  refine at_d rfl rfl (opr_nilCheck rfl rfl) ?_
  refine at_d rfl rfl (opr_sliceAll rfl rfl Tryd.underlying82 rfl size5) ?_
  refine at_d rfl rfl (opr_copy (i := ik) (j := ix) (n := 56) rfl rfl rfl (get_set_ne hk hne) (get_set hx) Tryd.underlying38 size5 rfl (E_length (a % pp)) (EE_at (lset (List.getElem?_eq_some_iff.1 hkx).1) hox rfl) (by rw [EB_length]; decide) (E_flat _) EB_put) ?_
  refine at_nil ?_
  refine at_then ?_
  refine at_seq ?_
  refine at_region ?_
  refine at_d rfl rfl (opr_assign rfl rfl) ?_
  refine at_nil ?_
  refine at_then ?_
  refine at_ret ?_
  refine done_of (res1 Tryd.results91 (res_tmp rfl)) ⟨rfl, rfl⟩ (by repeat (first | exact List.Sublist.refl _ | apply List.Sublist.cons))
theorem pToBytes_ct {M : Mem} {Tp : Nat} {x y z a b s0 y0 gP TP gk Tk : Nat} (hx : x < RR) (hy : y < RR) (hz : z < RR) : Ct Tryd.prog 65 #[.pointer (some ⟨gP, 0, none⟩), .slice (some ⟨gk, 0, none⟩) 57 57] (⟨gP, TP, EE [x, y, z, a, b]⟩ :: ⟨gk, Tk, EB y0 s0⟩ :: ⟨3, Tp, EE [pp]⟩ :: M) (Det .nilIface (⟨gP, TP, EE [x * invp z % pp, y * invp z % pp, 1, x * invp z % pp, y * invp z % pp]⟩ :: ⟨gk, Tk, EB (y * invp z % pp) (x * invp z % pp % 2 * 128)⟩ :: ⟨3, Tp, EE [pp]⟩ :: M)) := by
  refine ct_of (vs := [.pointer (some ⟨gP, 0, none⟩), .slice (some ⟨gk, 0, none⟩) 57 57]) Tryd.func65 rfl Tryd.ntmps65 rfl fun w0 => ?_
  refine at_seq ?_
  refine at_region ?_
  refine at_d rfl rfl (opr_assign rfl rfl) ?_
  refine at_nil ?_
  refine at_then ?_
  refine at_seq ?_
  refine at_seq ?_
  refine at_region ?_
  refine at_d rfl rfl (opr_move rfl rfl) ?_
  refine at_d rfl rfl (opr_lenS (n := 57) rfl rfl Tryd.underlying38) ?_
  refine at_d rfl rfl (opr_binOp (v := .bool false) rfl rfl rfl (fun _ => rfl)) ?_
  refine at_nil ?_
  refine at_then ?_
  refine at_cond_false rfl ?_
  refine at_skip ?_
  refine at_then ?_
  refine at_seq ?_
  refine at_region ?_
  refine at_d rfl rfl (opr_move rfl rfl) ?_
  refine at_d rfl rfl (opr_call rfl rfl rfl Tryd.func88 (by kernel_rfl) rfl (toAff_ct (ig := 2) (ip := 0) rfl rfl (by omega) hx hy hz)) ?_
  refine at_d rfl rfl (opr_move rfl rfl) ?_
  refine at_d rfl rfl (opr_extract rfl rfl rfl) ?_
  refine at_d rfl rfl (opr_extract rfl rfl rfl) ?_
  refine at_n rfl rfl (opr_alloc rfl zero82 rfl) ?_
  intro g0
  refine at_n rfl rfl (opr_alloc rfl zero82 rfl) ?_
  intro g1
  refine at_d rfl rfl (opr_store (i := 1) rfl rfl rfl rfl rfl size82 (E_length _) (by rw [EE_length]; exact Nat.le_of_ble_eq_true rfl) (E_flat _) (EE_set (k := 0) (Nat.le_of_ble_eq_true rfl) rfl)) ?_
  refine at_d rfl rfl (opr_store (i := 0) rfl rfl rfl rfl rfl size82 (E_length _) (by rw [EE_length]; exact Nat.le_of_ble_eq_true rfl) (E_flat _) (EE_set (k := 0) (Nat.le_of_ble_eq_true rfl) rfl)) ?_
  refine at_nil ?_
  refine at_then ?_
  refine at_seq ?_
  refine at_region ?_
  refine at_d rfl rfl (opr_move rfl rfl) ?_
  refine at_d rfl rfl (opr_indexAddr (j := 0) rfl rfl rfl Tryd.underlying82 (by decide) size5 rfl) ?_
  refine at_d rfl rfl (opr_load1 (i := 1) rfl rfl rfl Tryd.underlying5 rfl (EE_byte (k := 0) (j := 0) rfl rfl (by decide))) ?_
  refine at_d rfl rfl (opr_and8 (a := x * invp z % pp / 256 ^ 0 % 256) (b := 1) rfl rfl rfl (Nat.mod_lt _ (by decide)) (by decide)) ?_
  refine at_d rfl rfl (opr_eq' (opr_shl8 (n := 7) rfl rfl rfl (by decide)) (u8_eq' (b := x * invp z % pp % 2 * 128) (by rw [Nat.pow_zero, Nat.div_one]; exact sign_of _))) ?_
  refine at_d rfl rfl (opr_indexAddrS (j := 56) rfl rfl rfl Tryd.underlying38 (by decide) size5 rfl) ?_
  refine at_d rfl rfl (opr_store (i := 3) rfl rfl rfl rfl rfl size5 rfl (by rw [EB_length]; decide) flat_one EB_set) ?_
  refine at_nil ?_
  refine at_then ?_
  refine at_seq ?_
  refine at_region ?_
  refine at_d rfl rfl (opr_move rfl rfl) ?_
  refine at_d rfl rfl (opr_sliceSHi (b := 56) rfl rfl rfl Tryd.underlying38 size5 (by decide) (by decide)) ?_
  refine at_d rfl rfl (opr_call rfl rfl rfl Tryd.func91 (by kernel_rfl) rfl (toBytesB_ct (ig := 4) (ix := 0) (ik := 3) (kx := 0) (a := y * invp z % pp) rfl rfl rfl rfl rfl (by decide) (modp_lt _))) ?_
  refine at_d rfl rfl (opr_assign rfl rfl) ?_
  refine at_nil ?_
  refine at_then ?_
  refine at_ret ?_
  rw [Nat.mod_mod]
  refine done_of (res1 Tryd.results65 (res_tmp rfl)) ⟨rfl, rfl⟩ (by repeat (first | exact List.Sublist.refl _ | apply List.Sublist.cons))
theorem zero57 : List.replicate 57 (Value.int .u8 0) = EB 0 0 := by kernel_rfl
theorem iEncode_ct {M : Mem} {ig Tp jd Td : Nat} (hG : M[ig]? = some ⟨3, Tp, EE [pp]⟩) (hD : M[jd]? = some ⟨0, Td, EE [dP]⟩) {x y : Nat} (hx : x < RR) (hy : y < RR) (hOn : On (el dP) (el x) (el y)) : Ct Tryd.prog 34 #[.agg (EE [x, y]).toArray] M (fun v M' => ∃ g, v = .tuple #[.slice (some ⟨g, 0, none⟩) 57 57, .bool true] ∧ M' = ⟨g, 5, EB (y % pp) (x % pp % 2 * 128)⟩ :: M) := by
  refine ct_of (vs := [.agg (EE [x, y]).toArray]) Tryd.func34 rfl Tryd.ntmps34 rfl fun w0 => ?_
  refine at_seq ?_
  refine at_region ?_
  refine at_n rfl rfl (opr_box rfl rfl rfl) ?_
  intro g0
  refine at_d rfl rfl (opr_assign rfl rfl) ?_
  refine at_d rfl rfl (opr_assign rfl rfl) ?_
  refine at_nil ?_
  refine at_then ?_
  refine at_seq ?_
  refine at_region ?_
  refine at_d rfl rfl (opr_load (i := 0) rfl rfl rfl Tryd.underlying24 rfl size24 (EE_length _) (EE_all rfl)) ?_
  refine at_c rfl rfl (opr_call rfl rfl rfl Tryd.func43 (by kernel_rfl) rfl (pointT_ct (ig := ig + 1) (jd := jd + 1) hG hD hx hy hOn)) ?_
  rintro _ _ ⟨gN1, rfl, rfl⟩
  refine at_d rfl rfl (opr_move rfl rfl) ?_
  refine at_d rfl rfl (opr_extract rfl rfl rfl) ?_
  refine at_d rfl rfl (opr_extract rfl rfl rfl) ?_
  refine at_d rfl rfl (opr_assign rfl rfl) ?_
  refine at_d rfl rfl (opr_assign rfl rfl) ?_
  refine at_nil ?_
  refine at_then ?_
  refine at_seq ?_
  refine at_seq ?_
  refine at_region ?_
  refine at_d rfl rfl (opr_move rfl rfl) ?_
  refine at_d rfl rfl (opr_unOp (u := .bool false) rfl rfl (fun _ => rfl)) ?_
  refine at_nil ?_
  refine at_then ?_
  refine at_cond_false rfl ?_
  refine at_skip ?_
  refine at_then ?_
  refine at_seq ?_
  refine at_region ?_
  refine at_c rfl rfl (opr_makeSlice (n := 57) (cs := EB 0 0) rfl rfl rfl Tryd.underlying38 (by kernel_rfl) (by decide) zero57) ?_
  rintro _ _ ⟨gs, rfl, rfl⟩
  refine at_d rfl rfl (opr_assign rfl rfl) ?_
  refine at_nil ?_
  refine at_then ?_
  refine at_seq ?_
  refine at_seq ?_
  refine at_region ?_
  refine at_d rfl rfl (opr_move rfl rfl) ?_
  refine at_d rfl rfl (opr_move rfl rfl) ?_
  -- enc
  refine at_d rfl rfl (opr_call rfl rfl rfl Tryd.func65 (by kernel_rfl) rfl (ct_frame2 (i := 1) (j := 0) (k := ig + 3) rfl rfl hG (by omega) (by omega) (by omega) (pToBytes_ct (M := []) hx hy RR_one))) ?_
  refine at_d rfl rfl (opr_neqNil rfl rfl (by kernel_rfl)) ?_
  refine at_nil ?_
  refine at_then ?_
  refine at_cond_false rfl ?_
  refine at_skip ?_
  refine at_then ?_
  refine at_seq ?_
  refine at_region ?_
  refine at_d rfl rfl (opr_move rfl rfl) ?_
  refine at_d rfl rfl (opr_assign rfl rfl) ?_
  refine at_d rfl rfl (opr_assign rfl rfl) ?_
  refine at_nil ?_
  refine at_then ?_
  refine at_ret ?_
  rw [aff_mod, aff_mod]
  exact done_of (res2 Tryd.results34 (res_tmp rfl) (res_tmp rfl)) ⟨gs, rfl, rfl⟩ (by repeat (first | exact List.Sublist.refl _ | apply List.Sublist.cons_cons | apply List.Sublist.cons))
end Go.Proofs.YtjanppnnioeifaaDoor
