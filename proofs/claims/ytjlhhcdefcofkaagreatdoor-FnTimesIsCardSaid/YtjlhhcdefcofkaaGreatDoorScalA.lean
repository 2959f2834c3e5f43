/- Sums, differences and products of words. -/
import Derived.Test.YtjlhhcdefcofkaaGreatDoorScalP
import Derived.Test.YtjlhhcdefcofkaaGreatDoorProdA
import Derived.Test.YtjlhhcdefcofkaaGreatDoorFp
import Derived.Test.YtjlhhcdefcofkaaGreatDoorDrawA
import Derived.Test.YtjlhhcdefcofkaaGreatDoorCopyA
namespace Go.Proofs.YtjlhhcdefcofkaaGreatDoor
open Go
set_option maxRecDepth 100000

theorem opr_Add64D {St : Slots} {M : Mem} {o : Oper} {xs : List Operand} {ts : Array TypeId} {fo : Operand} {a b c s k : Nat} (ho : o.op = .call { callee := .value fo, args := xs.toArray, argTypes := ts })
    (hfo : evalS St fo = some (.func (.func 92) #[] #[])) (hxs : evalL St xs = some [.int .u64 (a : Int), .int .u64 (b : Int), .int .u64 (c : Int)]) (hc : c ≤ 1) (ha : a < 18446744073709551616) (hb : b < 18446744073709551616) (hs : s + 18446744073709551616 * k = a + b + c) (hl : s < 18446744073709551616) : OpR Tryz.prog St M o (Det (.tuple #[.int .u64 (s : Int), .int .u64 (k : Int)]) M) :=
  (opr_Add64 ho hfo hxs hc ha hb).mono (by rintro _ _ ⟨s', k', rfl, e, l, _, rfl⟩; obtain rfl : s' = s := by omega
                                           obtain rfl : k' = k := by omega
                                           exact ⟨rfl, rfl⟩)
theorem opr_Sub64D {St : Slots} {M : Mem} {o : Oper} {xs : List Operand} {ts : Array TypeId} {fo : Operand} {a b c s k : Nat} (ho : o.op = .call { callee := .value fo, args := xs.toArray, argTypes := ts })
    (hfo : evalS St fo = some (.func (.func 96) #[] #[])) (hxs : evalL St xs = some [.int .u64 (a : Int), .int .u64 (b : Int), .int .u64 (c : Int)]) (hc : c ≤ 1) (ha : a < 18446744073709551616) (hb : b < 18446744073709551616) (hs : s + b + c = a + 18446744073709551616 * k) (hl : s < 18446744073709551616) (hk : k ≤ 1) : OpR Tryz.prog St M o (Det (.tuple #[.int .u64 (s : Int), .int .u64 (k : Int)]) M) :=
  (opr_Sub64 ho hfo hxs hc ha hb).mono (by rintro _ _ ⟨s', k', rfl, e, l, _, rfl⟩; obtain rfl : s' = s := by omega
                                           obtain rfl : k' = k := by omega
                                           exact ⟨rfl, rfl⟩)
theorem shl_get {l : List Nat} {x : Nat} (h : x < 6) : (shlW l x)[5 - x]? = some (l.getD (5 - x) 0) := by
  rw [shlW, List.getElem?_map, List.getElem?_range (by omega)]
  simp only [Option.map_some]
  rw [if_neg (by omega)]
theorem mulWord4_ct {M : Mem} {gz gx Tz Tx cz cx : Nat} {X y : Nat} {lz : List Nat} (hlz : lz.length = 7) (hX : X < 18446744073709551616 ^ 4) (hy : y < 18446744073709551616) : Ct Tryz.prog 69 #[.slice (some ⟨gz, 0, none⟩) 7 cz, .slice (some ⟨gx, 0, none⟩) 4 cx, .int .u64 (y : Int)] (⟨gz, Tz, W lz⟩ :: ⟨gx, Tx, W (digs 18446744073709551616 4 X)⟩ :: M) (Det (.tuple #[]) (⟨gz, Tz, W (digs 18446744073709551616 7 (X * y))⟩ :: ⟨gx, Tx, W (digs 18446744073709551616 4 X)⟩ :: M)) := by
  refine ct_of (vs := [.slice (some ⟨gz, 0, none⟩) 7 cz, .slice (some ⟨gx, 0, none⟩) 4 cx, .int .u64 (y : Int)]) Tryz.func69 rfl Tryz.ntmps69 rfl fun w0 => ?_
  refine at_seq ?_
  refine at_seq ?_
  refine at_region ?_
  refine at_d rfl rfl (opr_move rfl rfl) ?_
  refine at_d rfl rfl (opr_lenS rfl rfl Tryz.underlying79) ?_
  refine at_d rfl rfl (opr_move rfl rfl) ?_
  refine at_nil ?_
  refine at_then ?_
  refine at_block ?_
  refine at_loop (fun (x : Nat) => [(0, .slice (some ⟨gz, 0, none⟩) 7 cz), (1, .slice (some ⟨gx, 0, none⟩) 4 cx), (2, .int .u64 (y : Int)), (13, .int .i64 ((7 : Nat) : Int)), (14, .int .i64 (x : Int))]) (fun (x : Nat) => ⟨gz, Tz, W ((mixl (List.replicate 7 0) lz x))⟩ :: ⟨gx, Tx, W ((digs 18446744073709551616 4 X))⟩ :: M) (fun (x : Nat) => 7 - x) (fun (x : Nat) => x ≤ 7) 0 (Nat.zero_le _) (allIn ⟨rfl, rfl, rfl, rfl, rfl, trivial⟩) (by simp only [mixl_zero]; exact List.Sublist.refl _) ?_
  intro k hk
  dsimp only
  refine at_seq ?_
  refine at_region ?_
  refine at_d rfl rfl (opr_lss (a := k) (b := 7) rfl rfl rfl) ?_
  refine at_nil ?_
  refine at_then ?_
  refine at_seq ?_
  refine at_cond rfl (fun ht => ?_) (fun ht => ?_)
  ·
    have hltK : k < 7 := of_decide_eq_true ht
    have hkz : k ≤ 7 := by omega
    have hkz' : k < 7 := by omega
    refine at_skip ?_
    refine at_then ?_
    refine at_seq ?_
    refine at_block ?_
    refine at_seq ?_
    refine at_region ?_
    refine at_d rfl rfl (opr_move rfl rfl) ?_
    refine at_d rfl rfl (opr_assign rfl rfl) ?_
    refine at_nil ?_
    refine at_then ?_
    refine at_region ?_
    refine at_d rfl rfl (opr_move rfl rfl) ?_
    refine at_d rfl rfl (opr_move rfl rfl) ?_
    refine at_d rfl rfl (opr_indexAddrS (j := k) (off' := k) rfl rfl rfl Tryz.underlying79 hltK size29 (by omega)) ?_
    refine at_d rfl rfl (opr_store (i := 0) rfl rfl rfl rfl rfl size29 rfl (by rw [W_length, mixl_length (List.length_replicate) hlz hk]; omega) flat_one (W_put (by rw [mixl_length (List.length_replicate) hlz hk]; omega) (mixl_put (x := 0) (List.length_replicate) hlz hltK (by rw [List.getElem?_replicate, if_pos hltK])))) ?_
    refine at_nil ?_
    refine at_inBlock_normal ?_
    refine at_then ?_
    refine at_region ?_
    refine at_d rfl rfl (opr_addI (a := k) (b := 1) rfl rfl rfl (by omega)) ?_
    refine at_d rfl rfl (opr_move rfl rfl) ?_
    refine at_nil ?_
    exact at_round (k + 1) (by omega) (by omega) (allIn ⟨rfl, rfl, rfl, rfl, rfl, trivial⟩) (List.Sublist.refl _)
  ·
    obtain rfl : k = 7 := by have := of_decide_eq_false ht; omega
    rw [mixl_end (List.length_replicate) hlz]
    refine at_exit ?_
    refine at_then_exit ?_
    refine at_then_exit ?_
    refine at_inBlock_same ?_
    refine at_then ?_
    refine at_seq ?_
    refine at_region ?_
    refine at_d rfl rfl (opr_eq' (opr_assign rfl rfl) (u64_eq' (mcar_zero X y).symm)) ?_
    refine at_nil ?_
    refine at_then ?_
    refine at_seq ?_
    refine at_seq ?_
    refine at_region ?_
    refine at_d rfl rfl (opr_move rfl rfl) ?_
    refine at_d rfl rfl (opr_lenS rfl rfl Tryz.underlying79) ?_
    refine at_d rfl rfl (opr_move rfl rfl) ?_
    refine at_nil ?_
    refine at_then ?_
    refine at_block ?_
    refine at_loop (fun (x : Nat) => [(0, .slice (some ⟨gz, 0, none⟩) 7 cz), (1, .slice (some ⟨gx, 0, none⟩) 4 cx), (2, .int .u64 (y : Int)), (7, .int .u64 ((mcar X y x : Nat) : Int)), (22, .int .i64 ((4 : Nat) : Int)), (23, .int .i64 (x : Int))]) (fun (x : Nat) => ⟨gz, Tz, W ((mixl (digs 18446744073709551616 7 (X * y)) (List.replicate 7 0) x))⟩ :: ⟨gx, Tx, W ((digs 18446744073709551616 4 X))⟩ :: M) (fun (x : Nat) => 4 - x) (fun (x : Nat) => x ≤ 4) 0 (Nat.zero_le _) (allIn ⟨rfl, rfl, rfl, rfl, rfl, rfl, trivial⟩) (by simp only [mixl_zero]; exact List.Sublist.refl _) ?_
    intro k hk
    dsimp only
    refine at_seq ?_
    refine at_region ?_
    refine at_d rfl rfl (opr_lss (a := k) (b := 4) rfl rfl rfl) ?_
    refine at_nil ?_
    refine at_then ?_
    refine at_seq ?_
    refine at_cond rfl (fun ht => ?_) (fun ht => ?_)
    ·
      have hltK : k < 4 := of_decide_eq_true ht
      have hkz : k ≤ 7 := by omega
      have hkz' : k < 7 := by omega
      refine at_skip ?_
      refine at_then ?_
      refine at_seq ?_
      refine at_block ?_
      refine at_seq ?_
      refine at_region ?_
      refine at_d rfl rfl (opr_move rfl rfl) ?_
      refine at_d rfl rfl (opr_assign rfl rfl) ?_
      refine at_nil ?_
      refine at_then ?_
      refine at_seq ?_
      refine at_region ?_
      refine at_d rfl rfl (opr_move rfl rfl) ?_
      refine at_d rfl rfl (opr_move rfl rfl) ?_
      refine at_d rfl rfl (opr_indexAddrS (j := k) (off' := k) rfl rfl rfl Tryz.underlying79 hltK size29 (by omega)) ?_
      refine at_d rfl rfl (opr_load1 (i := 1) rfl rfl rfl Tryz.underlying29 rfl (W_get (digs_get 4 X k hltK))) ?_
      refine at_d rfl rfl (opr_move rfl rfl) ?_
      refine at_d rfl rfl (opr_call rfl rfl rfl Tryz.func91 (by kernel_rfl) rfl (mul64_det (dig_lt X k) hy)) ?_
      refine at_d rfl rfl (opr_move rfl rfl) ?_
      refine at_d rfl rfl (opr_extract rfl rfl rfl) ?_
      refine at_d rfl rfl (opr_extract rfl rfl rfl) ?_
      refine at_d rfl rfl (opr_assign rfl rfl) ?_
      refine at_d rfl rfl (opr_assign rfl rfl) ?_
      refine at_nil ?_
      refine at_then ?_
      refine at_seq ?_
      refine at_region ?_
      refine at_d rfl rfl (opr_move rfl rfl) ?_
      refine at_d rfl rfl (opr_move rfl rfl) ?_
      refine at_d rfl rfl (opr_move rfl rfl) ?_
      refine at_d rfl rfl (opr_indexAddrS (j := k) (off' := k) rfl rfl rfl Tryz.underlying79 (by omega) size29 (by omega)) ?_
      refine at_d rfl rfl (opr_load1 (i := 0) rfl rfl rfl Tryz.underlying29 rfl (W_get ((mixl_get (digs_length 18446744073709551616 7 _) hkz).trans (by rw [List.getElem?_replicate, if_pos hkz'])))) ?_
      refine at_d rfl rfl (opr_Add64D (a := ((X / 18446744073709551616 ^ k % 18446744073709551616) * y % 18446744073709551616)) (b := 0) (c := 0) (s := ((X / 18446744073709551616 ^ k % 18446744073709551616) * y % 18446744073709551616)) (k := 0) rfl rfl rfl (by decide) (Nat.mod_lt _ (by decide)) (by decide) (by omega) (Nat.mod_lt _ (by decide))) ?_
      refine at_d rfl rfl (opr_move rfl rfl) ?_
      refine at_d rfl rfl (opr_extract rfl rfl rfl) ?_
      refine at_d rfl rfl (opr_extract rfl rfl rfl) ?_
      refine at_d rfl rfl (opr_assign rfl rfl) ?_
      refine at_d rfl rfl (opr_assign rfl rfl) ?_
      refine at_nil ?_
      refine at_then ?_
      refine at_seq ?_
      refine at_region ?_
      refine at_d rfl rfl (opr_move rfl rfl) ?_
      refine at_d rfl rfl (opr_move rfl rfl) ?_
      refine at_d rfl rfl (opr_Add64D (a := ((X / 18446744073709551616 ^ k % 18446744073709551616) * y / 18446744073709551616)) (b := 0) (c := 0) (s := ((X / 18446744073709551616 ^ k % 18446744073709551616) * y / 18446744073709551616)) (k := 0) rfl rfl rfl (by decide) (mul_hi_lt (dig_lt X k) hy) (by decide) (by omega) (mul_hi_lt (dig_lt X k) hy)) ?_
      refine at_d rfl rfl (opr_move rfl rfl) ?_
      refine at_d rfl rfl (opr_extract rfl rfl rfl) ?_
      refine at_d rfl rfl (opr_extract rfl rfl rfl) ?_
      refine at_d rfl rfl (opr_assign rfl rfl) ?_
      refine at_nil ?_
      refine at_then ?_
      refine at_seq ?_
      refine at_region ?_
      refine at_d rfl rfl (opr_move rfl rfl) ?_
      refine at_d rfl rfl (opr_move rfl rfl) ?_
      refine at_d rfl rfl (opr_move rfl rfl) ?_
      refine at_d rfl rfl (opr_move rfl rfl) ?_
      refine at_d rfl rfl (opr_Add64D (a := ((X / 18446744073709551616 ^ k % 18446744073709551616) * y % 18446744073709551616)) (b := mcar X y k) (c := 0) (s := (X * y) / 18446744073709551616 ^ k % 18446744073709551616) (k := ((((X / 18446744073709551616 ^ k % 18446744073709551616) * y % 18446744073709551616) + mcar X y k) / 18446744073709551616)) rfl rfl rfl (by decide) (Nat.mod_lt _ (by decide)) (mcar_lt hy) (mw_dig X y k) (dig_lt _ k)) ?_
      refine at_d rfl rfl (opr_move rfl rfl) ?_
      refine at_d rfl rfl (opr_extract rfl rfl rfl) ?_
      refine at_d rfl rfl (opr_extract rfl rfl rfl) ?_
      refine at_d rfl rfl (opr_indexAddrS (j := k) (off' := k) rfl rfl rfl Tryz.underlying79 (by omega) size29 (by omega)) ?_
      refine at_d rfl rfl (opr_store (i := 0) rfl rfl rfl rfl rfl size29 rfl (by rw [W_length, mixl_length (digs_length 18446744073709551616 7 _) (List.length_replicate) hkz]; omega) flat_one (W_put (by rw [mixl_length (digs_length 18446744073709551616 7 _) (List.length_replicate) hkz]; omega) (mixl_put (digs_length 18446744073709551616 7 _) (List.length_replicate) hkz' (digs_get 7 (X * y) k hkz')))) ?_
      refine at_d rfl rfl (opr_assign rfl rfl) ?_
      refine at_nil ?_
      refine at_then ?_
      refine at_region ?_
      refine at_d rfl rfl (opr_move rfl rfl) ?_
      refine at_d rfl rfl (opr_move rfl rfl) ?_
      refine at_d rfl rfl (opr_Add64D (a := ((X / 18446744073709551616 ^ k % 18446744073709551616) * y / 18446744073709551616)) (b := 0) (c := ((((X / 18446744073709551616 ^ k % 18446744073709551616) * y % 18446744073709551616) + mcar X y k) / 18446744073709551616)) (s := (mcar X y (k + 1))) (k := 0) rfl rfl rfl (mw_c1 hy) (mul_hi_lt (dig_lt X k) hy) (by decide) (mw_car X y k) (mcar_lt hy)) ?_
      refine at_d rfl rfl (opr_move rfl rfl) ?_
      refine at_d rfl rfl (opr_extract rfl rfl rfl) ?_
      refine at_d rfl rfl (opr_extract rfl rfl rfl) ?_
      refine at_d rfl rfl (opr_assign rfl rfl) ?_
      refine at_nil ?_
      refine at_inBlock_normal ?_
      refine at_then ?_
      refine at_region ?_
      refine at_d rfl rfl (opr_addI (a := k) (b := 1) rfl rfl rfl (by omega)) ?_
      refine at_d rfl rfl (opr_move rfl rfl) ?_
      refine at_nil ?_
      exact at_round (k + 1) (by omega) (by omega) (allIn ⟨rfl, rfl, rfl, rfl, rfl, rfl, trivial⟩) (List.Sublist.refl _)
    ·
      obtain rfl : k = 4 := by have := of_decide_eq_false ht; omega
      refine at_exit ?_
      refine at_then_exit ?_
      refine at_then_exit ?_
      refine at_inBlock_same ?_
      refine at_then ?_
      refine at_region ?_
      refine at_d rfl rfl (opr_move rfl rfl) ?_
      refine at_d rfl rfl (opr_move rfl rfl) ?_
      refine at_d rfl rfl (opr_lenS rfl rfl Tryz.underlying79) ?_
      refine at_d rfl rfl (opr_move rfl rfl) ?_
      refine at_d rfl rfl (opr_indexAddrS (j := 4) (off' := 4) rfl rfl rfl Tryz.underlying79 (by decide) size29 rfl) ?_
      refine at_d rfl rfl (opr_store (i := 0) rfl rfl rfl rfl rfl size29 rfl (by rw [W_length, mixl_length (digs_length 18446744073709551616 7 _) (List.length_replicate) (by decide)]; decide) flat_one (W_put (by rw [mixl_length (digs_length 18446744073709551616 7 _) (List.length_replicate) (by decide)]; decide) (mw_fin4 X y hX hy))) ?_
      refine at_nil ?_
      exact done_of (res0 Tryz.results69) ⟨rfl, rfl⟩ (by repeat (first | exact List.Sublist.refl _ | apply List.Sublist.cons))
theorem mulWord7_ct {M : Mem} {gz gx Tz Tx cz cx : Nat} {X y : Nat} {lz : List Nat} (hlz : lz.length = 8) (hX : X < 18446744073709551616 ^ 7) (hy : y < 18446744073709551616) : Ct Tryz.prog 69 #[.slice (some ⟨gz, 0, none⟩) 8 cz, .slice (some ⟨gx, 0, none⟩) 7 cx, .int .u64 (y : Int)] (⟨gz, Tz, W lz⟩ :: ⟨gx, Tx, W (digs 18446744073709551616 7 X)⟩ :: M) (Det (.tuple #[]) (⟨gz, Tz, W (digs 18446744073709551616 8 (X * y))⟩ :: ⟨gx, Tx, W (digs 18446744073709551616 7 X)⟩ :: M)) := by
  refine ct_of (vs := [.slice (some ⟨gz, 0, none⟩) 8 cz, .slice (some ⟨gx, 0, none⟩) 7 cx, .int .u64 (y : Int)]) Tryz.func69 rfl Tryz.ntmps69 rfl fun w0 => ?_
  refine at_seq ?_
  refine at_seq ?_
  refine at_region ?_
  refine at_d rfl rfl (opr_move rfl rfl) ?_
  refine at_d rfl rfl (opr_lenS rfl rfl Tryz.underlying79) ?_
  refine at_d rfl rfl (opr_move rfl rfl) ?_
  refine at_nil ?_
  refine at_then ?_
  refine at_block ?_
  refine at_loop (fun (x : Nat) => [(0, .slice (some ⟨gz, 0, none⟩) 8 cz), (1, .slice (some ⟨gx, 0, none⟩) 7 cx), (2, .int .u64 (y : Int)), (13, .int .i64 ((8 : Nat) : Int)), (14, .int .i64 (x : Int))]) (fun (x : Nat) => ⟨gz, Tz, W ((mixl (List.replicate 8 0) lz x))⟩ :: ⟨gx, Tx, W ((digs 18446744073709551616 7 X))⟩ :: M) (fun (x : Nat) => 8 - x) (fun (x : Nat) => x ≤ 8) 0 (Nat.zero_le _) (allIn ⟨rfl, rfl, rfl, rfl, rfl, trivial⟩) (by simp only [mixl_zero]; exact List.Sublist.refl _) ?_
  intro k hk
  dsimp only
  refine at_seq ?_
  refine at_region ?_
  refine at_d rfl rfl (opr_lss (a := k) (b := 8) rfl rfl rfl) ?_
  refine at_nil ?_
  refine at_then ?_
  refine at_seq ?_
  refine at_cond rfl (fun ht => ?_) (fun ht => ?_)
  ·
    have hltK : k < 8 := of_decide_eq_true ht
    have hkz : k ≤ 8 := by omega
    have hkz' : k < 8 := by omega
    refine at_skip ?_
    refine at_then ?_
    refine at_seq ?_
    refine at_block ?_
    refine at_seq ?_
    refine at_region ?_
    refine at_d rfl rfl (opr_move rfl rfl) ?_
    refine at_d rfl rfl (opr_assign rfl rfl) ?_
    refine at_nil ?_
    refine at_then ?_
    refine at_region ?_
    refine at_d rfl rfl (opr_move rfl rfl) ?_
    refine at_d rfl rfl (opr_move rfl rfl) ?_
    refine at_d rfl rfl (opr_indexAddrS (j := k) (off' := k) rfl rfl rfl Tryz.underlying79 hltK size29 (by omega)) ?_
    refine at_d rfl rfl (opr_store (i := 0) rfl rfl rfl rfl rfl size29 rfl (by rw [W_length, mixl_length (List.length_replicate) hlz hk]; omega) flat_one (W_put (by rw [mixl_length (List.length_replicate) hlz hk]; omega) (mixl_put (x := 0) (List.length_replicate) hlz hltK (by rw [List.getElem?_replicate, if_pos hltK])))) ?_
    refine at_nil ?_
    refine at_inBlock_normal ?_
    refine at_then ?_
    refine at_region ?_
    refine at_d rfl rfl (opr_addI (a := k) (b := 1) rfl rfl rfl (by omega)) ?_
    refine at_d rfl rfl (opr_move rfl rfl) ?_
    refine at_nil ?_
    exact at_round (k + 1) (by omega) (by omega) (allIn ⟨rfl, rfl, rfl, rfl, rfl, trivial⟩) (List.Sublist.refl _)
  ·
    obtain rfl : k = 8 := by have := of_decide_eq_false ht; omega
    rw [mixl_end (List.length_replicate) hlz]
    refine at_exit ?_
    refine at_then_exit ?_
    refine at_then_exit ?_
    refine at_inBlock_same ?_
    refine at_then ?_
    refine at_seq ?_
    refine at_region ?_
    refine at_d rfl rfl (opr_eq' (opr_assign rfl rfl) (u64_eq' (mcar_zero X y).symm)) ?_
    refine at_nil ?_
    refine at_then ?_
    refine at_seq ?_
    refine at_seq ?_
    refine at_region ?_
    refine at_d rfl rfl (opr_move rfl rfl) ?_
    refine at_d rfl rfl (opr_lenS rfl rfl Tryz.underlying79) ?_
    refine at_d rfl rfl (opr_move rfl rfl) ?_
    refine at_nil ?_
    refine at_then ?_
    refine at_block ?_
    refine at_loop (fun (x : Nat) => [(0, .slice (some ⟨gz, 0, none⟩) 8 cz), (1, .slice (some ⟨gx, 0, none⟩) 7 cx), (2, .int .u64 (y : Int)), (7, .int .u64 ((mcar X y x : Nat) : Int)), (22, .int .i64 ((7 : Nat) : Int)), (23, .int .i64 (x : Int))]) (fun (x : Nat) => ⟨gz, Tz, W ((mixl (digs 18446744073709551616 8 (X * y)) (List.replicate 8 0) x))⟩ :: ⟨gx, Tx, W ((digs 18446744073709551616 7 X))⟩ :: M) (fun (x : Nat) => 7 - x) (fun (x : Nat) => x ≤ 7) 0 (Nat.zero_le _) (allIn ⟨rfl, rfl, rfl, rfl, rfl, rfl, trivial⟩) (by simp only [mixl_zero]; exact List.Sublist.refl _) ?_
    intro k hk
    dsimp only
    refine at_seq ?_
    refine at_region ?_
    refine at_d rfl rfl (opr_lss (a := k) (b := 7) rfl rfl rfl) ?_
    refine at_nil ?_
    refine at_then ?_
    refine at_seq ?_
    refine at_cond rfl (fun ht => ?_) (fun ht => ?_)
    ·
      have hltK : k < 7 := of_decide_eq_true ht
      have hkz : k ≤ 8 := by omega
      have hkz' : k < 8 := by omega
      refine at_skip ?_
      refine at_then ?_
      refine at_seq ?_
      refine at_block ?_
      refine at_seq ?_
      refine at_region ?_
      refine at_d rfl rfl (opr_move rfl rfl) ?_
      refine at_d rfl rfl (opr_assign rfl rfl) ?_
      refine at_nil ?_
      refine at_then ?_
      refine at_seq ?_
      refine at_region ?_
      refine at_d rfl rfl (opr_move rfl rfl) ?_
      refine at_d rfl rfl (opr_move rfl rfl) ?_
      refine at_d rfl rfl (opr_indexAddrS (j := k) (off' := k) rfl rfl rfl Tryz.underlying79 hltK size29 (by omega)) ?_
      refine at_d rfl rfl (opr_load1 (i := 1) rfl rfl rfl Tryz.underlying29 rfl (W_get (digs_get 7 X k hltK))) ?_
      refine at_d rfl rfl (opr_move rfl rfl) ?_
      refine at_d rfl rfl (opr_call rfl rfl rfl Tryz.func91 (by kernel_rfl) rfl (mul64_det (dig_lt X k) hy)) ?_
      refine at_d rfl rfl (opr_move rfl rfl) ?_
      refine at_d rfl rfl (opr_extract rfl rfl rfl) ?_
      refine at_d rfl rfl (opr_extract rfl rfl rfl) ?_
      refine at_d rfl rfl (opr_assign rfl rfl) ?_
      refine at_d rfl rfl (opr_assign rfl rfl) ?_
      refine at_nil ?_
      refine at_then ?_
      refine at_seq ?_
      refine at_region ?_
      refine at_d rfl rfl (opr_move rfl rfl) ?_
      refine at_d rfl rfl (opr_move rfl rfl) ?_
      refine at_d rfl rfl (opr_move rfl rfl) ?_
      refine at_d rfl rfl (opr_indexAddrS (j := k) (off' := k) rfl rfl rfl Tryz.underlying79 (by omega) size29 (by omega)) ?_
      refine at_d rfl rfl (opr_load1 (i := 0) rfl rfl rfl Tryz.underlying29 rfl (W_get ((mixl_get (digs_length 18446744073709551616 8 _) hkz).trans (by rw [List.getElem?_replicate, if_pos hkz'])))) ?_
      refine at_d rfl rfl (opr_Add64D (a := ((X / 18446744073709551616 ^ k % 18446744073709551616) * y % 18446744073709551616)) (b := 0) (c := 0) (s := ((X / 18446744073709551616 ^ k % 18446744073709551616) * y % 18446744073709551616)) (k := 0) rfl rfl rfl (by decide) (Nat.mod_lt _ (by decide)) (by decide) (by omega) (Nat.mod_lt _ (by decide))) ?_
      refine at_d rfl rfl (opr_move rfl rfl) ?_
      refine at_d rfl rfl (opr_extract rfl rfl rfl) ?_
      refine at_d rfl rfl (opr_extract rfl rfl rfl) ?_
      refine at_d rfl rfl (opr_assign rfl rfl) ?_
      refine at_d rfl rfl (opr_assign rfl rfl) ?_
      refine at_nil ?_
      refine at_then ?_
      refine at_seq ?_
      refine at_region ?_
      refine at_d rfl rfl (opr_move rfl rfl) ?_
      refine at_d rfl rfl (opr_move rfl rfl) ?_
      refine at_d rfl rfl (opr_Add64D (a := ((X / 18446744073709551616 ^ k % 18446744073709551616) * y / 18446744073709551616)) (b := 0) (c := 0) (s := ((X / 18446744073709551616 ^ k % 18446744073709551616) * y / 18446744073709551616)) (k := 0) rfl rfl rfl (by decide) (mul_hi_lt (dig_lt X k) hy) (by decide) (by omega) (mul_hi_lt (dig_lt X k) hy)) ?_
      refine at_d rfl rfl (opr_move rfl rfl) ?_
      refine at_d rfl rfl (opr_extract rfl rfl rfl) ?_
      refine at_d rfl rfl (opr_extract rfl rfl rfl) ?_
      refine at_d rfl rfl (opr_assign rfl rfl) ?_
      refine at_nil ?_
      refine at_then ?_
      refine at_seq ?_
      refine at_region ?_
      refine at_d rfl rfl (opr_move rfl rfl) ?_
      refine at_d rfl rfl (opr_move rfl rfl) ?_
      refine at_d rfl rfl (opr_move rfl rfl) ?_
      refine at_d rfl rfl (opr_move rfl rfl) ?_
      refine at_d rfl rfl (opr_Add64D (a := ((X / 18446744073709551616 ^ k % 18446744073709551616) * y % 18446744073709551616)) (b := mcar X y k) (c := 0) (s := (X * y) / 18446744073709551616 ^ k % 18446744073709551616) (k := ((((X / 18446744073709551616 ^ k % 18446744073709551616) * y % 18446744073709551616) + mcar X y k) / 18446744073709551616)) rfl rfl rfl (by decide) (Nat.mod_lt _ (by decide)) (mcar_lt hy) (mw_dig X y k) (dig_lt _ k)) ?_
      refine at_d rfl rfl (opr_move rfl rfl) ?_
      refine at_d rfl rfl (opr_extract rfl rfl rfl) ?_
      refine at_d rfl rfl (opr_extract rfl rfl rfl) ?_
      refine at_d rfl rfl (opr_indexAddrS (j := k) (off' := k) rfl rfl rfl Tryz.underlying79 (by omega) size29 (by omega)) ?_
      refine at_d rfl rfl (opr_store (i := 0) rfl rfl rfl rfl rfl size29 rfl (by rw [W_length, mixl_length (digs_length 18446744073709551616 8 _) (List.length_replicate) hkz]; omega) flat_one (W_put (by rw [mixl_length (digs_length 18446744073709551616 8 _) (List.length_replicate) hkz]; omega) (mixl_put (digs_length 18446744073709551616 8 _) (List.length_replicate) hkz' (digs_get 8 (X * y) k hkz')))) ?_
      refine at_d rfl rfl (opr_assign rfl rfl) ?_
      refine at_nil ?_
      refine at_then ?_
      refine at_region ?_
      refine at_d rfl rfl (opr_move rfl rfl) ?_
      refine at_d rfl rfl (opr_move rfl rfl) ?_
      refine at_d rfl rfl (opr_Add64D (a := ((X / 18446744073709551616 ^ k % 18446744073709551616) * y / 18446744073709551616)) (b := 0) (c := ((((X / 18446744073709551616 ^ k % 18446744073709551616) * y % 18446744073709551616) + mcar X y k) / 18446744073709551616)) (s := (mcar X y (k + 1))) (k := 0) rfl rfl rfl (mw_c1 hy) (mul_hi_lt (dig_lt X k) hy) (by decide) (mw_car X y k) (mcar_lt hy)) ?_
      refine at_d rfl rfl (opr_move rfl rfl) ?_
      refine at_d rfl rfl (opr_extract rfl rfl rfl) ?_
      refine at_d rfl rfl (opr_extract rfl rfl rfl) ?_
      refine at_d rfl rfl (opr_assign rfl rfl) ?_
      refine at_nil ?_
      refine at_inBlock_normal ?_
      refine at_then ?_
      refine at_region ?_
      refine at_d rfl rfl (opr_addI (a := k) (b := 1) rfl rfl rfl (by omega)) ?_
      refine at_d rfl rfl (opr_move rfl rfl) ?_
      refine at_nil ?_
      exact at_round (k + 1) (by omega) (by omega) (allIn ⟨rfl, rfl, rfl, rfl, rfl, rfl, trivial⟩) (List.Sublist.refl _)
    ·
      obtain rfl : k = 7 := by have := of_decide_eq_false ht; omega
      refine at_exit ?_
      refine at_then_exit ?_
      refine at_then_exit ?_
      refine at_inBlock_same ?_
      refine at_then ?_
      refine at_region ?_
      refine at_d rfl rfl (opr_move rfl rfl) ?_
      refine at_d rfl rfl (opr_move rfl rfl) ?_
      refine at_d rfl rfl (opr_lenS rfl rfl Tryz.underlying79) ?_
      refine at_d rfl rfl (opr_move rfl rfl) ?_
      refine at_d rfl rfl (opr_indexAddrS (j := 7) (off' := 7) rfl rfl rfl Tryz.underlying79 (by decide) size29 rfl) ?_
      refine at_d rfl rfl (opr_store (i := 0) rfl rfl rfl rfl rfl size29 rfl (by rw [W_length, mixl_length (digs_length 18446744073709551616 8 _) (List.length_replicate) (by decide)]; decide) flat_one (W_put (by rw [mixl_length (digs_length 18446744073709551616 8 _) (List.length_replicate) (by decide)]; decide) (mw_fin7 X y hX hy))) ?_
      refine at_nil ?_
      exact done_of (res0 Tryz.results69) ⟨rfl, rfl⟩ (by repeat (first | exact List.Sublist.refl _ | apply List.Sublist.cons))
theorem sCmov0_ct {M : Mem} {gz gx Tz Tx Z X : Nat} : Ct Tryz.prog 94 #[.pointer (some ⟨gz, 0, none⟩), .int .u64 0, .pointer (some ⟨gx, 0, none⟩)] (⟨gz, Tz, W (digs 18446744073709551616 7 (Z))⟩ :: ⟨gx, Tx, W (digs 18446744073709551616 7 (X))⟩ :: M) (Det (.tuple #[]) (⟨gz, Tz, W (digs 18446744073709551616 7 (Z))⟩ :: ⟨gx, Tx, W (digs 18446744073709551616 7 (X))⟩ :: M)) := by
  refine ct_of (vs := [.pointer (some ⟨gz, 0, none⟩), .int .u64 0, .pointer (some ⟨gx, 0, none⟩)]) Tryz.func94 rfl Tryz.ntmps94 rfl fun w0 => ?_
  refine at_seq ?_
  refine at_region ?_
  refine at_d rfl rfl (opr_move rfl rfl) ?_
  refine at_d rfl rfl (opr_binOp (v := .int .u64 0) rfl rfl rfl (fun _ => rfl)) ?_
  refine at_d rfl rfl (opr_assign rfl rfl) ?_
  refine at_nil ?_
  refine at_then ?_
  refine at_seq ?_
  refine at_region ?_
  refine at_d rfl rfl (opr_move rfl rfl) ?_
  refine at_nil ?_
  refine at_then ?_
  refine at_block ?_
  refine at_loop (fun (x : Nat) => [(0, .pointer (some ⟨gz, 0, none⟩)), (2, .pointer (some ⟨gx, 0, none⟩)), (6, .int .u64 0), (10, .int .i64 (x : Int))]) (fun (x : Nat) => ⟨gz, Tz, W ((mixl (digs 18446744073709551616 7 (Z)) (digs 18446744073709551616 7 (Z)) x))⟩ :: ⟨gx, Tx, W ((digs 18446744073709551616 7 (X)))⟩ :: M) (fun (x : Nat) => 7 - x) (fun (x : Nat) => x ≤ 7) 0 (Nat.zero_le _) (allIn ⟨rfl, rfl, rfl, rfl, trivial⟩) (by simp only [mixl_zero]; exact List.Sublist.refl _) ?_
  intro k hk
  dsimp only
  refine at_seq ?_
  refine at_region ?_
  refine at_d rfl rfl (opr_lss (a := k) (b := 7) rfl rfl rfl) ?_
  refine at_nil ?_
  refine at_then ?_
  refine at_seq ?_
  refine at_cond rfl (fun ht => ?_) (fun ht => ?_)
  ·
    have hltK : k < 7 := of_decide_eq_true ht
    refine at_skip ?_
    refine at_then ?_
    refine at_seq ?_
    refine at_block ?_
    refine at_seq ?_
    refine at_region ?_
    refine at_d rfl rfl (opr_move rfl rfl) ?_
    refine at_d rfl rfl (opr_assign rfl rfl) ?_
    refine at_nil ?_
    refine at_then ?_
    refine at_drawK (by kernel_rfl) (by kernel_rfl) (M1 := ⟨gz, Tz, W ((mixl (digs 18446744073709551616 7 (Z)) (digs 18446744073709551616 7 (Z)) (k + 1)))⟩ :: ⟨gx, Tx, W ((digs 18446744073709551616 7 (X)))⟩ :: M) (M2 := ⟨gz, Tz, W ((mixl (digs 18446744073709551616 7 (Z)) (digs 18446744073709551616 7 (Z)) (k + 1)))⟩ :: ⟨gx, Tx, W ((digs 18446744073709551616 7 (X)))⟩ :: M) [0, 0, 0, 0, 0, 0, 4, 0, 0, 0, 0, 0, 0, 4, 0, 0, 0, 0, 0, 1] 19 20 (by kernel_rfl) (.inr rfl) ?_
    refine drK0 rfl rfl (fun _ => opr_move rfl rfl) ?_
    refine drK0 rfl rfl (fun _ => opr_move rfl rfl) ?_
    refine drK0 rfl rfl (fun _ => opr_move rfl rfl) ?_
    refine drK0 rfl rfl (fun _ => opr_move rfl rfl) ?_
    refine drK0 rfl rfl (fun _ => opr_nilCheck rfl rfl) ?_
    refine drK0 rfl rfl (fun _ => opr_indexAddr (j := k) (off' := k) rfl rfl rfl Tryz.underlying117 hltK size29 (by omega)) ?_
    refine drK4 rfl rfl (opr_load1 (i := 0) rfl rfl rfl Tryz.underlying29 rfl (W_get ((mixl_get (digs_length 18446744073709551616 7 _) hk).trans (digs_get 7 Z k hltK)))) ?_
    refine drK0 rfl rfl (fun _ => opr_move rfl rfl) ?_
    refine drK0 rfl rfl (fun _ => opr_andn0 rfl rfl rfl (dig_lt Z k)) ?_
    refine drK0 rfl rfl (fun _ => opr_move rfl rfl) ?_
    refine drK0 rfl rfl (fun _ => opr_move rfl rfl) ?_
    refine drK0 rfl rfl (fun _ => opr_nilCheck rfl rfl) ?_
    refine drK0 rfl rfl (fun _ => opr_indexAddr (j := k) (off' := k) rfl rfl rfl Tryz.underlying117 hltK size29 (by omega)) ?_
    refine drK4 rfl rfl (opr_load1 (i := 1) rfl rfl rfl Tryz.underlying29 rfl (W_get (digs_get 7 X k hltK))) ?_
    refine drK0 rfl rfl (fun _ => opr_move rfl rfl) ?_
    refine drK0 rfl rfl (fun _ => opr_eq' (opr_and64 (b := 0) rfl rfl rfl (dig_lt X k) (by decide)) (u64_eq' (Nat.and_zero _))) ?_
    refine drK0 rfl rfl (fun _ => opr_eq' (opr_or64 (b := 0) rfl rfl rfl (dig_lt Z k) (by decide)) (u64_eq' (Nat.or_zero _))) ?_
    refine drK0 rfl rfl (fun _ => opr_nilCheck rfl rfl) ?_
    refine drK0 rfl rfl (fun _ => opr_indexAddr (j := k) (off' := k) rfl rfl rfl Tryz.underlying117 hltK size29 (by omega)) ?_
    refine drK1 rfl rfl (opr_store (i := 0) rfl rfl rfl rfl rfl size29 rfl (by rw [W_length, mixl_length (digs_length 18446744073709551616 7 _) (digs_length _ _ _) hk]; omega) flat_one (W_put (by rw [mixl_length (digs_length 18446744073709551616 7 _) (digs_length _ _ _) hk]; omega) (mixl_put (digs_length 18446744073709551616 7 _) (digs_length _ _ _) hltK (digs_get 7 Z k hltK)))) ?_
    refine at_inBlock_normal ?_
    refine at_then ?_
    refine at_region ?_
    refine at_d rfl rfl (opr_addI (a := k) (b := 1) rfl rfl rfl (by omega)) ?_
    refine at_d rfl rfl (opr_move rfl rfl) ?_
    refine at_nil ?_
    exact at_round (k + 1) (by omega) (by omega) (allIn ⟨rfl, rfl, rfl, rfl, trivial⟩) (List.Sublist.refl _)
  ·
    obtain rfl : k = 7 := by have := of_decide_eq_false ht; omega
    rw [mixl_end (digs_length 18446744073709551616 7 _) (digs_length _ _ _)]
    refine at_exit ?_
    refine at_then_exit ?_
    refine at_then_exit ?_
    refine at_inBlock_same ?_
    exact done_of (res0 Tryz.results94) ⟨rfl, rfl⟩ (by repeat (first | exact List.Sublist.refl _ | apply List.Sublist.cons))
theorem sCmov1_ct {M : Mem} {gz gx Tz Tx Z X : Nat} : Ct Tryz.prog 94 #[.pointer (some ⟨gz, 0, none⟩), .int .u64 1, .pointer (some ⟨gx, 0, none⟩)] (⟨gz, Tz, W (digs 18446744073709551616 7 (Z))⟩ :: ⟨gx, Tx, W (digs 18446744073709551616 7 (X))⟩ :: M) (Det (.tuple #[]) (⟨gz, Tz, W (digs 18446744073709551616 7 (X))⟩ :: ⟨gx, Tx, W (digs 18446744073709551616 7 (X))⟩ :: M)) := by
  refine ct_of (vs := [.pointer (some ⟨gz, 0, none⟩), .int .u64 1, .pointer (some ⟨gx, 0, none⟩)]) Tryz.func94 rfl Tryz.ntmps94 rfl fun w0 => ?_
  refine at_seq ?_
  refine at_region ?_
  refine at_d rfl rfl (opr_move rfl rfl) ?_
  refine at_d rfl rfl (opr_binOp (v := .int .u64 18446744073709551615) rfl rfl rfl (fun _ => rfl)) ?_
  refine at_d rfl rfl (opr_assign rfl rfl) ?_
  refine at_nil ?_
  refine at_then ?_
  refine at_seq ?_
  refine at_region ?_
  refine at_d rfl rfl (opr_move rfl rfl) ?_
  refine at_nil ?_
  refine at_then ?_
  refine at_block ?_
  refine at_loop (fun (x : Nat) => [(0, .pointer (some ⟨gz, 0, none⟩)), (2, .pointer (some ⟨gx, 0, none⟩)), (6, .int .u64 18446744073709551615), (10, .int .i64 (x : Int))]) (fun (x : Nat) => ⟨gz, Tz, W ((mixl (digs 18446744073709551616 7 (X)) (digs 18446744073709551616 7 (Z)) x))⟩ :: ⟨gx, Tx, W ((digs 18446744073709551616 7 (X)))⟩ :: M) (fun (x : Nat) => 7 - x) (fun (x : Nat) => x ≤ 7) 0 (Nat.zero_le _) (allIn ⟨rfl, rfl, rfl, rfl, trivial⟩) (by simp only [mixl_zero]; exact List.Sublist.refl _) ?_
  intro k hk
  dsimp only
  refine at_seq ?_
  refine at_region ?_
  refine at_d rfl rfl (opr_lss (a := k) (b := 7) rfl rfl rfl) ?_
  refine at_nil ?_
  refine at_then ?_
  refine at_seq ?_
  refine at_cond rfl (fun ht => ?_) (fun ht => ?_)
  ·
    have hltK : k < 7 := of_decide_eq_true ht
    refine at_skip ?_
    refine at_then ?_
    refine at_seq ?_
    refine at_block ?_
    refine at_seq ?_
    refine at_region ?_
    refine at_d rfl rfl (opr_move rfl rfl) ?_
    refine at_d rfl rfl (opr_assign rfl rfl) ?_
    refine at_nil ?_
    refine at_then ?_
    refine at_drawK (by kernel_rfl) (by kernel_rfl) (M1 := ⟨gz, Tz, W ((mixl (digs 18446744073709551616 7 (X)) (digs 18446744073709551616 7 (Z)) (k + 1)))⟩ :: ⟨gx, Tx, W ((digs 18446744073709551616 7 (X)))⟩ :: M) (M2 := ⟨gz, Tz, W ((mixl (digs 18446744073709551616 7 (X)) (digs 18446744073709551616 7 (Z)) (k + 1)))⟩ :: ⟨gx, Tx, W ((digs 18446744073709551616 7 (X)))⟩ :: M) [0, 0, 0, 0, 0, 0, 4, 0, 0, 0, 0, 0, 0, 4, 0, 0, 0, 0, 0, 1] 19 20 (by kernel_rfl) (.inr rfl) ?_
    refine drK0 rfl rfl (fun _ => opr_move rfl rfl) ?_
    refine drK0 rfl rfl (fun _ => opr_move rfl rfl) ?_
    refine drK0 rfl rfl (fun _ => opr_move rfl rfl) ?_
    refine drK0 rfl rfl (fun _ => opr_move rfl rfl) ?_
    refine drK0 rfl rfl (fun _ => opr_nilCheck rfl rfl) ?_
    refine drK0 rfl rfl (fun _ => opr_indexAddr (j := k) (off' := k) rfl rfl rfl Tryz.underlying117 hltK size29 (by omega)) ?_
    refine drK4 rfl rfl (opr_load1 (i := 0) rfl rfl rfl Tryz.underlying29 rfl (W_get ((mixl_get (digs_length 18446744073709551616 7 _) hk).trans (digs_get 7 Z k hltK)))) ?_
    refine drK0 rfl rfl (fun _ => opr_move rfl rfl) ?_
    refine drK0 rfl rfl (fun _ => opr_andn1 rfl rfl rfl) ?_
    refine drK0 rfl rfl (fun _ => opr_move rfl rfl) ?_
    refine drK0 rfl rfl (fun _ => opr_move rfl rfl) ?_
    refine drK0 rfl rfl (fun _ => opr_nilCheck rfl rfl) ?_
    refine drK0 rfl rfl (fun _ => opr_indexAddr (j := k) (off' := k) rfl rfl rfl Tryz.underlying117 hltK size29 (by omega)) ?_
    refine drK4 rfl rfl (opr_load1 (i := 1) rfl rfl rfl Tryz.underlying29 rfl (W_get (digs_get 7 X k hltK))) ?_
    refine drK0 rfl rfl (fun _ => opr_move rfl rfl) ?_
    refine drK0 rfl rfl (fun _ => opr_eq' (opr_and64 (b := 18446744073709551615) rfl rfl rfl (dig_lt X k) (by decide)) (u64_eq' (and_ones (dig_lt X k)))) ?_
    refine drK0 rfl rfl (fun _ => opr_eq' (opr_or64 (a := 0) rfl rfl rfl (by decide) (dig_lt X k)) (u64_eq' (Nat.zero_or _))) ?_
    refine drK0 rfl rfl (fun _ => opr_nilCheck rfl rfl) ?_
    refine drK0 rfl rfl (fun _ => opr_indexAddr (j := k) (off' := k) rfl rfl rfl Tryz.underlying117 hltK size29 (by omega)) ?_
    refine drK1 rfl rfl (opr_store (i := 0) rfl rfl rfl rfl rfl size29 rfl (by rw [W_length, mixl_length (digs_length 18446744073709551616 7 _) (digs_length _ _ _) hk]; omega) flat_one (W_put (by rw [mixl_length (digs_length 18446744073709551616 7 _) (digs_length _ _ _) hk]; omega) (mixl_put (digs_length 18446744073709551616 7 _) (digs_length _ _ _) hltK (digs_get 7 X k hltK)))) ?_
    refine at_inBlock_normal ?_
    refine at_then ?_
    refine at_region ?_
    refine at_d rfl rfl (opr_addI (a := k) (b := 1) rfl rfl rfl (by omega)) ?_
    refine at_d rfl rfl (opr_move rfl rfl) ?_
    refine at_nil ?_
    exact at_round (k + 1) (by omega) (by omega) (allIn ⟨rfl, rfl, rfl, rfl, trivial⟩) (List.Sublist.refl _)
  ·
    obtain rfl : k = 7 := by have := of_decide_eq_false ht; omega
    rw [mixl_end (digs_length 18446744073709551616 7 _) (digs_length _ _ _)]
    refine at_exit ?_
    refine at_then_exit ?_
    refine at_then_exit ?_
    refine at_inBlock_same ?_
    exact done_of (res0 Tryz.results94) ⟨rfl, rfl⟩ (by repeat (first | exact List.Sublist.refl _ | apply List.Sublist.cons))
theorem leftShift_ct {M : Mem} {gz Tz Z low : Nat} (hlow : low < 18446744073709551616) : Ct Tryz.prog 71 #[.pointer (some ⟨gz, 0, none⟩), .int .u64 (low : Int)] (⟨gz, Tz, W (digs 18446744073709551616 7 (Z))⟩ :: M) (Det (.int .u64 ((Z / 18446744073709551616 ^ 6 % 18446744073709551616 : Nat) : Int)) (⟨gz, Tz, W (digs 18446744073709551616 7 (low + 18446744073709551616 * Z))⟩ :: M)) := by
  refine ct_of (vs := [.pointer (some ⟨gz, 0, none⟩), .int .u64 (low : Int)]) Tryz.func71 rfl Tryz.ntmps71 rfl fun w0 => ?_
  refine at_seq ?_
  refine at_region ?_
  refine at_d rfl rfl (opr_assign rfl rfl) ?_
  refine at_nil ?_
  refine at_then ?_
  refine at_seq ?_
  refine at_region ?_
  refine at_d rfl rfl (opr_move rfl rfl) ?_
  refine at_d rfl rfl (opr_nilCheck rfl rfl) ?_
  refine at_d rfl rfl (opr_indexAddr (j := 6) rfl rfl rfl Tryz.underlying117 (by decide) size29 rfl) ?_
  refine at_d rfl rfl (opr_load1 (i := 0) rfl rfl rfl Tryz.underlying29 rfl (W_get (digs_get 7 Z 6 (by decide)))) ?_
  refine at_d rfl rfl (opr_assign rfl rfl) ?_
  refine at_nil ?_
  refine at_then ?_
  refine at_seq ?_
  refine at_seq ?_
  refine at_region ?_
  refine at_d rfl rfl (opr_assign rfl rfl) ?_
  refine at_nil ?_
  refine at_then ?_
  refine at_block ?_
  refine at_loop (fun (x : Nat) => [(0, .pointer (some ⟨gz, 0, none⟩)), (1, .int .u64 (low : Int)), (5, .int .u64 ((Z / 18446744073709551616 ^ 6 % 18446744073709551616 : Nat) : Int)), (6, .int .i64 (6 - (x : Int)))]) (fun (x : Nat) => ⟨gz, Tz, W ((shlW (digs 18446744073709551616 7 (Z)) x))⟩ :: M) (fun (x : Nat) => 6 - x) (fun (x : Nat) => x ≤ 6) 0 (Nat.zero_le _) (allIn ⟨rfl, rfl, rfl, rfl, trivial⟩) (by rw [shl_zero (digs_length _ _ _)]; exact List.Sublist.refl _) ?_
  intro k hk
  dsimp only
  refine at_seq ?_
  refine at_seq ?_
  refine at_region ?_
  refine at_d rfl rfl (opr_move rfl rfl) ?_
  refine at_d rfl rfl (opr_eq' (opr_binOp (v := .bool (decide (6 - (k : Int) > 0))) rfl rfl rfl (fun w => by simp only [binOp, Op.intCmp, ne_eq, not_true_eq_false, if_false, Sem.run_pure])) rfl) ?_
  refine at_nil ?_
  refine at_then ?_
  refine at_cond rfl (fun ht => ?_) (fun ht => ?_)
  ·
    have ht' := of_decide_eq_true ht
    have hltK : k < 6 := by omega
    have ej : 6 - (k : Int) = ((6 - k : Nat) : Int) := by omega
    refine at_skip ?_
    refine at_then ?_
    refine at_seq ?_
    refine at_block ?_
    refine at_drawK (by kernel_rfl) (by kernel_rfl) (M1 := ⟨gz, Tz, W ((shlW (digs 18446744073709551616 7 (Z)) (k + 1)))⟩ :: M) (M2 := ⟨gz, Tz, W ((shlW (digs 18446744073709551616 7 (Z)) (k + 1)))⟩ :: M) [0, 0, 0, 0, 0, 0, 0, 4, 0, 0, 1] 10 11 (by kernel_rfl) (.inr rfl) ?_
    refine drK0 rfl rfl (fun _ => opr_move rfl rfl) ?_
    refine drK0 rfl rfl (fun _ => opr_move rfl rfl) ?_
    refine drK0 rfl rfl (fun _ => opr_move rfl rfl) ?_
    refine drK0 rfl rfl (fun _ => opr_move rfl rfl) ?_
    refine drK0 rfl rfl (fun _ => opr_subIZ (c := ((5 - k : Nat) : Int)) rfl rfl rfl (by omega) (by omega) (by omega)) ?_
    refine drK0 rfl rfl (fun _ => opr_nilCheck rfl rfl) ?_
    refine drK0 rfl rfl (fun _ => opr_indexAddr (j := 5 - k) (off' := 5 - k) rfl rfl rfl Tryz.underlying117 (by omega) size29 (by omega)) ?_
    refine drK4 rfl rfl (opr_load1 (i := 0) rfl rfl rfl Tryz.underlying29 rfl (W_get (shl_get hltK))) ?_
    refine drK0 rfl rfl (fun _ => opr_nilCheck rfl rfl) ?_
    refine drK0 rfl rfl (fun _ => opr_indexAddr (j := 6 - k) (off' := 6 - k) rfl rfl (by exact congrArg (fun n => some (Value.int .i64 n)) ej) Tryz.underlying117 (by omega) size29 (by omega)) ?_
    refine drK1 rfl rfl (opr_store (i := 0) rfl rfl rfl rfl rfl size29 rfl (by rw [W_length, shlW_length]; omega) flat_one (W_put (by rw [shlW_length]; omega) (shl_step (digs_length _ _ _) hltK))) ?_
    refine at_inBlock_normal ?_
    refine at_then ?_
    refine at_region ?_
    refine at_d rfl rfl (opr_move rfl rfl) ?_
    refine at_d rfl rfl (opr_subIZ (c := 6 - ((k + 1 : Nat) : Int)) rfl rfl rfl (by omega) (by omega) (by omega)) ?_
    refine at_d rfl rfl (opr_assign rfl rfl) ?_
    refine at_nil ?_
    exact at_round (k + 1) (by omega) (by omega) (allIn ⟨rfl, rfl, rfl, rfl, trivial⟩) (List.Sublist.refl _)
  ·
    have ht' := of_decide_eq_false ht
    obtain rfl : k = 6 := by omega
    refine at_exit ?_
    refine at_then_exit ?_
    refine at_then_exit ?_
    refine at_inBlock_same ?_
    refine at_then ?_
    refine at_seq ?_
    refine at_region ?_
    refine at_d rfl rfl (opr_move rfl rfl) ?_
    refine at_d rfl rfl (opr_move rfl rfl) ?_
    refine at_d rfl rfl (opr_nilCheck rfl rfl) ?_
    refine at_d rfl rfl (opr_indexAddr (j := 0) rfl rfl rfl Tryz.underlying117 (by decide) size29 rfl) ?_
    refine at_d rfl rfl (opr_store (i := 0) rfl rfl rfl rfl rfl size29 rfl (by rw [W_length, shlW_length]; decide) flat_one (W_put (by rw [shlW_length]; decide) (shl_end hlow))) ?_
    refine at_nil ?_
    refine at_then ?_
    refine at_seq ?_
    refine at_region ?_
    refine at_d rfl rfl (opr_move rfl rfl) ?_
    refine at_d rfl rfl (opr_assign rfl rfl) ?_
    refine at_nil ?_
    refine at_then ?_
    refine at_ret ?_
    refine done_of (res1 Tryz.results71 (res_tmp rfl)) ⟨rfl, rfl⟩ (by repeat (first | exact List.Sublist.refl _ | apply List.Sublist.cons))
theorem add7_ct {M : Mem} {gz gx gy Tz Tx Ty cz cx cy : Nat} {X Y : Nat} {lz ly : List Nat} (hlz : lz.length = 7) (hy : ∀ k, k < 7 → ly[k]? = some (Y / 18446744073709551616 ^ k % 18446744073709551616)) : Ct Tryz.prog 72 #[.slice (some ⟨gz, 0, none⟩) 7 cz, .slice (some ⟨gx, 0, none⟩) 7 cx, .slice (some ⟨gy, 0, none⟩) 7 cy] (⟨gz, Tz, W lz⟩ :: ⟨gx, Tx, W (digs 18446744073709551616 7 (X))⟩ :: ⟨gy, Ty, W ly⟩ :: M) (Det (.int .u64 ((cadd X Y 7 : Nat) : Int)) (⟨gz, Tz, W (digs 18446744073709551616 7 ((X + Y)))⟩ :: ⟨gx, Tx, W (digs 18446744073709551616 7 (X))⟩ :: ⟨gy, Ty, W ly⟩ :: M)) := by
  refine ct_of (vs := [.slice (some ⟨gz, 0, none⟩) 7 cz, .slice (some ⟨gx, 0, none⟩) 7 cx, .slice (some ⟨gy, 0, none⟩) 7 cy]) Tryz.func72 rfl Tryz.ntmps72 rfl fun w0 => ?_
  refine at_seq ?_
  refine at_region ?_
  refine at_d rfl rfl (opr_assign rfl rfl) ?_
  refine at_nil ?_
  refine at_then ?_
  refine at_seq ?_
  refine at_region ?_
  refine at_d rfl rfl (opr_move rfl rfl) ?_
  refine at_d rfl rfl (opr_lenS rfl rfl Tryz.underlying79) ?_
  refine at_d rfl rfl (opr_move rfl rfl) ?_
  refine at_d rfl rfl (opr_lenS rfl rfl Tryz.underlying79) ?_
  refine at_d rfl rfl (opr_move rfl rfl) ?_
  refine at_d rfl rfl (opr_assign rfl rfl) ?_
  refine at_d rfl rfl (opr_assign rfl rfl) ?_
  refine at_d rfl rfl (opr_assign rfl rfl) ?_
  refine at_nil ?_
  refine at_then ?_
  refine at_seq ?_
  refine at_seq ?_
  refine at_region ?_
  refine at_d rfl rfl (opr_move rfl rfl) ?_
  refine at_d rfl rfl (opr_move rfl rfl) ?_
  refine at_d rfl rfl (opr_binOp (v := .bool false) rfl rfl rfl (fun _ => rfl)) ?_
  refine at_nil ?_
  refine at_then ?_
  refine at_cond_false rfl ?_
  refine at_skip ?_
  refine at_then ?_
  refine at_seq ?_
  refine at_region ?_
  refine at_d rfl rfl (opr_eq' (opr_assign rfl rfl) (u64_eq' (cadd_zero X Y).symm)) ?_
  refine at_nil ?_
  refine at_then ?_
  refine at_seq ?_
  refine at_seq ?_
  refine at_region ?_
  refine at_d rfl rfl (opr_assign rfl rfl) ?_
  refine at_nil ?_
  refine at_then ?_
  refine at_block ?_
  refine at_loop (fun (x : Nat) => [(0, .slice (some ⟨gz, 0, none⟩) 7 cz), (1, .slice (some ⟨gx, 0, none⟩) 7 cx), (2, .slice (some ⟨gy, 0, none⟩) 7 cy), (7, .int .i64 ((7 : Nat) : Int)), (8, .int .i64 ((7 : Nat) : Int)), (9, .slice (some ⟨gy, 0, none⟩) 7 cy), (10, .int .u64 ((cadd X Y x : Nat) : Int)), (11, .int .i64 (x : Int))]) (fun (x : Nat) => ⟨gz, Tz, W ((mixl (digs 18446744073709551616 7 ((X + Y))) lz x))⟩ :: ⟨gx, Tx, W ((digs 18446744073709551616 7 (X)))⟩ :: ⟨gy, Ty, W (ly)⟩ :: M) (fun (x : Nat) => 7 - x) (fun (x : Nat) => x ≤ 7) 0 (Nat.zero_le _) (allIn ⟨rfl, rfl, rfl, rfl, rfl, rfl, rfl, rfl, trivial⟩) (by simp only [mixl_zero]; exact List.Sublist.refl _) ?_
  intro k hk
  dsimp only
  refine at_seq ?_
  refine at_seq ?_
  refine at_region ?_
  refine at_d rfl rfl (opr_move rfl rfl) ?_
  refine at_d rfl rfl (opr_move rfl rfl) ?_
  refine at_d rfl rfl (opr_lss (a := k) (b := 7) rfl rfl rfl) ?_
  refine at_nil ?_
  refine at_then ?_
  refine at_cond rfl (fun ht => ?_) (fun ht => ?_)
  ·
    have hltK : k < 7 := of_decide_eq_true ht
    have hk7 : k ≤ 7 := by omega
    have hk7' : k < 7 := by omega
    refine at_skip ?_
    refine at_then ?_
    refine at_seq ?_
    refine at_block ?_
    refine at_drawK (by kernel_rfl) (by kernel_rfl) (M1 := ⟨gz, Tz, W ((mixl (digs 18446744073709551616 7 ((X + Y))) lz (k + 1)))⟩ :: ⟨gx, Tx, W ((digs 18446744073709551616 7 (X)))⟩ :: ⟨gy, Ty, W (ly)⟩ :: M) (M2 := ⟨gz, Tz, W ((mixl (digs 18446744073709551616 7 ((X + Y))) lz (k + 1)))⟩ :: ⟨gx, Tx, W ((digs 18446744073709551616 7 (X)))⟩ :: ⟨gy, Ty, W (ly)⟩ :: M) [0, 0, 0, 0, 0, 4, 0, 0, 0, 4, 0, 0, 0, 0, 0, 0, 1, 0] 16 18 (by kernel_rfl) (.inr rfl) ?_
    refine drK0 rfl rfl (fun _ => opr_move rfl rfl) ?_
    refine drK0 rfl rfl (fun _ => opr_move rfl rfl) ?_
    refine drK0 rfl rfl (fun _ => opr_move rfl rfl) ?_
    refine drK0 rfl rfl (fun _ => opr_move rfl rfl) ?_
    refine drK0 rfl rfl (fun _ => opr_indexAddrS (j := k) (off' := k) rfl rfl rfl Tryz.underlying79 (by omega) size29 (by omega)) ?_
    refine drK4 rfl rfl (opr_load1 (i := 1) rfl rfl rfl Tryz.underlying29 rfl (W_get (digs_get 7 X k hk7'))) ?_
    refine drK0 rfl rfl (fun _ => opr_move rfl rfl) ?_
    refine drK0 rfl rfl (fun _ => opr_move rfl rfl) ?_
    refine drK0 rfl rfl (fun _ => opr_indexAddrS (j := k) (off' := k) rfl rfl rfl Tryz.underlying79 (by omega) size29 (by omega)) ?_
    refine drK4 rfl rfl (opr_load1 (i := 2) rfl rfl rfl Tryz.underlying29 rfl (W_get (hy k (by omega)))) ?_
    refine drK0 rfl rfl (fun _ => opr_move rfl rfl) ?_
    refine drK0 rfl rfl (fun _ => opr_Add64D (a := X / 18446744073709551616 ^ k % 18446744073709551616) (b := Y / 18446744073709551616 ^ k % 18446744073709551616) (c := cadd X Y k) (s := (X + Y) / 18446744073709551616 ^ k % 18446744073709551616) (k := cadd X Y (k + 1)) rfl rfl rfl (cadd_le _ _ _) (dig_lt X k) (dig_lt Y k) (cadd_step X Y k) (dig_lt _ k)) ?_
    refine drK0 rfl rfl (fun _ => opr_move rfl rfl) ?_
    refine drK0 rfl rfl (fun _ => opr_extract rfl rfl rfl) ?_
    refine drK0 rfl rfl (fun _ => opr_extract rfl rfl rfl) ?_
    refine drK0 rfl rfl (fun _ => opr_indexAddrS (j := k) (off' := k) rfl rfl rfl Tryz.underlying79 (by omega) size29 (by omega)) ?_
    refine drK1 rfl rfl (opr_store (i := 0) rfl rfl rfl rfl rfl size29 rfl (by rw [W_length, mixl_length (digs_length 18446744073709551616 7 _) hlz hk7]; omega) flat_one (W_put (by rw [mixl_length (digs_length 18446744073709551616 7 _) hlz hk7]; omega) (mixl_put (digs_length 18446744073709551616 7 _) hlz hk7' (digs_get 7 (X + Y) k hk7')))) ?_
    refine drK0 rfl rfl (fun _ => opr_assign rfl rfl) ?_
    refine at_inBlock_normal ?_
    refine at_then ?_
    refine at_region ?_
    refine at_d rfl rfl (opr_move rfl rfl) ?_
    refine at_d rfl rfl (opr_addI (a := k) (b := 1) rfl rfl rfl (by omega)) ?_
    refine at_d rfl rfl (opr_assign rfl rfl) ?_
    refine at_nil ?_
    exact at_round (k + 1) (by omega) (by omega) (allIn ⟨rfl, rfl, rfl, rfl, rfl, rfl, rfl, rfl, trivial⟩) (List.Sublist.refl _)
  ·
    obtain rfl : k = 7 := by have := of_decide_eq_false ht; omega
    refine at_exit ?_
    refine at_then_exit ?_
    refine at_then_exit ?_
    refine at_inBlock_same ?_
    refine at_then ?_
    refine at_seq ?_
    refine at_seq ?_
    refine at_region ?_
    refine at_d rfl rfl (opr_move rfl rfl) ?_
    refine at_d rfl rfl (opr_assign rfl rfl) ?_
    refine at_nil ?_
    refine at_then ?_
    refine at_block ?_
    refine at_loop (fun (x : Nat) => [(0, .slice (some ⟨gz, 0, none⟩) 7 cz), (8, .int .i64 ((7 : Nat) : Int)), (9, .slice (some ⟨gy, 0, none⟩) 7 cy), (10, .int .u64 ((cadd X Y x : Nat) : Int)), (12, .int .i64 (x : Int))]) (fun (x : Nat) => ⟨gz, Tz, W ((mixl (digs 18446744073709551616 7 ((X + Y))) lz x))⟩ :: ⟨gx, Tx, W ((digs 18446744073709551616 7 (X)))⟩ :: ⟨gy, Ty, W (ly)⟩ :: M) (fun (x : Nat) => 7 - x) (fun (x : Nat) => 7 ≤ x ∧ x ≤ 7) 7 (by decide) (allIn ⟨rfl, rfl, rfl, rfl, rfl, trivial⟩) (List.Sublist.refl _) ?_
    rintro k ⟨hk1, hk⟩
    dsimp only
    refine at_seq ?_
    refine at_seq ?_
    refine at_region ?_
    refine at_d rfl rfl (opr_move rfl rfl) ?_
    refine at_d rfl rfl (opr_move rfl rfl) ?_
    refine at_d rfl rfl (opr_lss (a := k) (b := 7) rfl rfl rfl) ?_
    refine at_nil ?_
    refine at_then ?_
    refine at_cond rfl (fun ht => ?_) (fun ht => ?_)
    ·
      have hltK : k < 7 := of_decide_eq_true ht
      have hk7 : k ≤ 7 := by omega
      have hk7' : k < 7 := by omega
      exact absurd hltK (by omega)
    ·
      obtain rfl : k = 7 := by have := of_decide_eq_false ht; omega
      rw [mixl_end (digs_length 18446744073709551616 7 _) hlz]
      refine at_exit ?_
      refine at_then_exit ?_
      refine at_then_exit ?_
      refine at_inBlock_same ?_
      refine at_then ?_
      refine at_seq ?_
      refine at_region ?_
      refine at_d rfl rfl (opr_move rfl rfl) ?_
      refine at_d rfl rfl (opr_assign rfl rfl) ?_
      refine at_nil ?_
      refine at_then ?_
      refine at_ret ?_
      refine done_of (res1 Tryz.results72 (res_tmp rfl)) ⟨rfl, rfl⟩ (by repeat (first | exact List.Sublist.refl _ | apply List.Sublist.cons))
theorem add4_ct {M : Mem} {gz gx gy Tz Tx Ty cz cx cy : Nat} {X Y : Nat} {lz ly : List Nat} (hlz : lz.length = 7) (hy : ∀ k, k < 4 → ly[k]? = some (Y / 18446744073709551616 ^ k % 18446744073709551616)) (hY : ∀ k, 4 ≤ k → k < 7 → Y / 18446744073709551616 ^ k % 18446744073709551616 = 0) : Ct Tryz.prog 72 #[.slice (some ⟨gz, 0, none⟩) 7 cz, .slice (some ⟨gx, 0, none⟩) 7 cx, .slice (some ⟨gy, 0, none⟩) 4 cy] (⟨gz, Tz, W lz⟩ :: ⟨gx, Tx, W (digs 18446744073709551616 7 (X))⟩ :: ⟨gy, Ty, W ly⟩ :: M) (Det (.int .u64 ((cadd X Y 7 : Nat) : Int)) (⟨gz, Tz, W (digs 18446744073709551616 7 ((X + Y)))⟩ :: ⟨gx, Tx, W (digs 18446744073709551616 7 (X))⟩ :: ⟨gy, Ty, W ly⟩ :: M)) := by
  refine ct_of (vs := [.slice (some ⟨gz, 0, none⟩) 7 cz, .slice (some ⟨gx, 0, none⟩) 7 cx, .slice (some ⟨gy, 0, none⟩) 4 cy]) Tryz.func72 rfl Tryz.ntmps72 rfl fun w0 => ?_
  refine at_seq ?_
  refine at_region ?_
  refine at_d rfl rfl (opr_assign rfl rfl) ?_
  refine at_nil ?_
  refine at_then ?_
  refine at_seq ?_
  refine at_region ?_
  refine at_d rfl rfl (opr_move rfl rfl) ?_
  refine at_d rfl rfl (opr_lenS rfl rfl Tryz.underlying79) ?_
  refine at_d rfl rfl (opr_move rfl rfl) ?_
  refine at_d rfl rfl (opr_lenS rfl rfl Tryz.underlying79) ?_
  refine at_d rfl rfl (opr_move rfl rfl) ?_
  refine at_d rfl rfl (opr_assign rfl rfl) ?_
  refine at_d rfl rfl (opr_assign rfl rfl) ?_
  refine at_d rfl rfl (opr_assign rfl rfl) ?_
  refine at_nil ?_
  refine at_then ?_
  refine at_seq ?_
  refine at_seq ?_
  refine at_region ?_
  refine at_d rfl rfl (opr_move rfl rfl) ?_
  refine at_d rfl rfl (opr_move rfl rfl) ?_
  refine at_d rfl rfl (opr_binOp (v := .bool true) rfl rfl rfl (fun _ => rfl)) ?_
  refine at_nil ?_
  refine at_then ?_
  refine at_cond_true rfl ?_
  refine at_region ?_
  refine at_d rfl rfl (opr_move rfl rfl) ?_
  refine at_d rfl rfl (opr_move rfl rfl) ?_
  refine at_d rfl rfl (opr_move rfl rfl) ?_
  refine at_d rfl rfl (opr_assign rfl rfl) ?_
  refine at_d rfl rfl (opr_assign rfl rfl) ?_
  refine at_d rfl rfl (opr_assign rfl rfl) ?_
  refine at_nil ?_
  refine at_then ?_
  refine at_seq ?_
  refine at_region ?_
  refine at_d rfl rfl (opr_eq' (opr_assign rfl rfl) (u64_eq' (cadd_zero X Y).symm)) ?_
  refine at_nil ?_
  refine at_then ?_
  refine at_seq ?_
  refine at_seq ?_
  refine at_region ?_
  refine at_d rfl rfl (opr_assign rfl rfl) ?_
  refine at_nil ?_
  refine at_then ?_
  refine at_block ?_
  refine at_loop (fun (x : Nat) => [(0, .slice (some ⟨gz, 0, none⟩) 7 cz), (1, .slice (some ⟨gx, 0, none⟩) 7 cx), (2, .slice (some ⟨gy, 0, none⟩) 4 cy), (7, .int .i64 ((4 : Nat) : Int)), (8, .int .i64 ((7 : Nat) : Int)), (9, .slice (some ⟨gx, 0, none⟩) 7 cx), (10, .int .u64 ((cadd X Y x : Nat) : Int)), (11, .int .i64 (x : Int))]) (fun (x : Nat) => ⟨gz, Tz, W ((mixl (digs 18446744073709551616 7 ((X + Y))) lz x))⟩ :: ⟨gx, Tx, W ((digs 18446744073709551616 7 (X)))⟩ :: ⟨gy, Ty, W (ly)⟩ :: M) (fun (x : Nat) => 7 - x) (fun (x : Nat) => x ≤ 4) 0 (Nat.zero_le _) (allIn ⟨rfl, rfl, rfl, rfl, rfl, rfl, rfl, rfl, trivial⟩) (by simp only [mixl_zero]; exact List.Sublist.refl _) ?_
  intro k hk
  dsimp only
  refine at_seq ?_
  refine at_seq ?_
  refine at_region ?_
  refine at_d rfl rfl (opr_move rfl rfl) ?_
  refine at_d rfl rfl (opr_move rfl rfl) ?_
  refine at_d rfl rfl (opr_lss (a := k) (b := 4) rfl rfl rfl) ?_
  refine at_nil ?_
  refine at_then ?_
  refine at_cond rfl (fun ht => ?_) (fun ht => ?_)
  ·
    have hltK : k < 4 := of_decide_eq_true ht
    have hk7 : k ≤ 7 := by omega
    have hk7' : k < 7 := by omega
    refine at_skip ?_
    refine at_then ?_
    refine at_seq ?_
    refine at_block ?_
    refine at_drawK (by kernel_rfl) (by kernel_rfl) (M1 := ⟨gz, Tz, W ((mixl (digs 18446744073709551616 7 ((X + Y))) lz (k + 1)))⟩ :: ⟨gx, Tx, W ((digs 18446744073709551616 7 (X)))⟩ :: ⟨gy, Ty, W (ly)⟩ :: M) (M2 := ⟨gz, Tz, W ((mixl (digs 18446744073709551616 7 ((X + Y))) lz (k + 1)))⟩ :: ⟨gx, Tx, W ((digs 18446744073709551616 7 (X)))⟩ :: ⟨gy, Ty, W (ly)⟩ :: M) [0, 0, 0, 0, 0, 4, 0, 0, 0, 4, 0, 0, 0, 0, 0, 0, 1, 0] 16 18 (by kernel_rfl) (.inr rfl) ?_
    refine drK0 rfl rfl (fun _ => opr_move rfl rfl) ?_
    refine drK0 rfl rfl (fun _ => opr_move rfl rfl) ?_
    refine drK0 rfl rfl (fun _ => opr_move rfl rfl) ?_
    refine drK0 rfl rfl (fun _ => opr_move rfl rfl) ?_
    refine drK0 rfl rfl (fun _ => opr_indexAddrS (j := k) (off' := k) rfl rfl rfl Tryz.underlying79 (by omega) size29 (by omega)) ?_
    refine drK4 rfl rfl (opr_load1 (i := 1) rfl rfl rfl Tryz.underlying29 rfl (W_get (digs_get 7 X k hk7'))) ?_
    refine drK0 rfl rfl (fun _ => opr_move rfl rfl) ?_
    refine drK0 rfl rfl (fun _ => opr_move rfl rfl) ?_
    refine drK0 rfl rfl (fun _ => opr_indexAddrS (j := k) (off' := k) rfl rfl rfl Tryz.underlying79 (by omega) size29 (by omega)) ?_
    refine drK4 rfl rfl (opr_load1 (i := 2) rfl rfl rfl Tryz.underlying29 rfl (W_get (hy k (by omega)))) ?_
    refine drK0 rfl rfl (fun _ => opr_move rfl rfl) ?_
    refine drK0 rfl rfl (fun _ => opr_Add64D (a := X / 18446744073709551616 ^ k % 18446744073709551616) (b := Y / 18446744073709551616 ^ k % 18446744073709551616) (c := cadd X Y k) (s := (X + Y) / 18446744073709551616 ^ k % 18446744073709551616) (k := cadd X Y (k + 1)) rfl rfl rfl (cadd_le _ _ _) (dig_lt X k) (dig_lt Y k) (cadd_step X Y k) (dig_lt _ k)) ?_
    refine drK0 rfl rfl (fun _ => opr_move rfl rfl) ?_
    refine drK0 rfl rfl (fun _ => opr_extract rfl rfl rfl) ?_
    refine drK0 rfl rfl (fun _ => opr_extract rfl rfl rfl) ?_
    refine drK0 rfl rfl (fun _ => opr_indexAddrS (j := k) (off' := k) rfl rfl rfl Tryz.underlying79 (by omega) size29 (by omega)) ?_
    refine drK1 rfl rfl (opr_store (i := 0) rfl rfl rfl rfl rfl size29 rfl (by rw [W_length, mixl_length (digs_length 18446744073709551616 7 _) hlz hk7]; omega) flat_one (W_put (by rw [mixl_length (digs_length 18446744073709551616 7 _) hlz hk7]; omega) (mixl_put (digs_length 18446744073709551616 7 _) hlz hk7' (digs_get 7 (X + Y) k hk7')))) ?_
    refine drK0 rfl rfl (fun _ => opr_assign rfl rfl) ?_
    refine at_inBlock_normal ?_
    refine at_then ?_
    refine at_region ?_
    refine at_d rfl rfl (opr_move rfl rfl) ?_
    refine at_d rfl rfl (opr_addI (a := k) (b := 1) rfl rfl rfl (by omega)) ?_
    refine at_d rfl rfl (opr_assign rfl rfl) ?_
    refine at_nil ?_
    exact at_round (k + 1) (by omega) (by omega) (allIn ⟨rfl, rfl, rfl, rfl, rfl, rfl, rfl, rfl, trivial⟩) (List.Sublist.refl _)
  ·
    obtain rfl : k = 4 := by have := of_decide_eq_false ht; omega
    refine at_exit ?_
    refine at_then_exit ?_
    refine at_then_exit ?_
    refine at_inBlock_same ?_
    refine at_then ?_
    refine at_seq ?_
    refine at_seq ?_
    refine at_region ?_
    refine at_d rfl rfl (opr_move rfl rfl) ?_
    refine at_d rfl rfl (opr_assign rfl rfl) ?_
    refine at_nil ?_
    refine at_then ?_
    refine at_block ?_
    refine at_loop (fun (x : Nat) => [(0, .slice (some ⟨gz, 0, none⟩) 7 cz), (8, .int .i64 ((7 : Nat) : Int)), (9, .slice (some ⟨gx, 0, none⟩) 7 cx), (10, .int .u64 ((cadd X Y x : Nat) : Int)), (12, .int .i64 (x : Int))]) (fun (x : Nat) => ⟨gz, Tz, W ((mixl (digs 18446744073709551616 7 ((X + Y))) lz x))⟩ :: ⟨gx, Tx, W ((digs 18446744073709551616 7 (X)))⟩ :: ⟨gy, Ty, W (ly)⟩ :: M) (fun (x : Nat) => 7 - x) (fun (x : Nat) => 4 ≤ x ∧ x ≤ 7) 4 (by decide) (allIn ⟨rfl, rfl, rfl, rfl, rfl, trivial⟩) (List.Sublist.refl _) ?_
    rintro k ⟨hk1, hk⟩
    dsimp only
    refine at_seq ?_
    refine at_seq ?_
    refine at_region ?_
    refine at_d rfl rfl (opr_move rfl rfl) ?_
    refine at_d rfl rfl (opr_move rfl rfl) ?_
    refine at_d rfl rfl (opr_lss (a := k) (b := 7) rfl rfl rfl) ?_
    refine at_nil ?_
    refine at_then ?_
    refine at_cond rfl (fun ht => ?_) (fun ht => ?_)
    ·
      have hltK : k < 7 := of_decide_eq_true ht
      have hk7 : k ≤ 7 := by omega
      have hk7' : k < 7 := by omega
      refine at_skip ?_
      refine at_then ?_
      refine at_seq ?_
      refine at_block ?_
      refine at_region ?_
      refine at_d rfl rfl (opr_move rfl rfl) ?_
      refine at_d rfl rfl (opr_move rfl rfl) ?_
      refine at_d rfl rfl (opr_move rfl rfl) ?_
      refine at_d rfl rfl (opr_move rfl rfl) ?_
      refine at_d rfl rfl (opr_indexAddrS (j := k) (off' := k) rfl rfl rfl Tryz.underlying79 (by omega) size29 (by omega)) ?_
      refine at_d rfl rfl (opr_load1 (i := 1) rfl rfl rfl Tryz.underlying29 rfl (W_get (digs_get 7 X k hk7'))) ?_
      refine at_d rfl rfl (opr_move rfl rfl) ?_
      refine at_d rfl rfl (opr_Add64D (a := X / 18446744073709551616 ^ k % 18446744073709551616) (b := 0) (c := cadd X Y k) (s := (X + Y) / 18446744073709551616 ^ k % 18446744073709551616) (k := cadd X Y (k + 1)) rfl rfl rfl (cadd_le _ _ _) (dig_lt X k) (by decide) (by have := (cadd_step X Y k); rw [hY k (by omega) hk7'] at this; exact this) (dig_lt _ k)) ?_
      refine at_d rfl rfl (opr_move rfl rfl) ?_
      refine at_d rfl rfl (opr_extract rfl rfl rfl) ?_
      refine at_d rfl rfl (opr_extract rfl rfl rfl) ?_
      refine at_d rfl rfl (opr_indexAddrS (j := k) (off' := k) rfl rfl rfl Tryz.underlying79 (by omega) size29 (by omega)) ?_
      refine at_d rfl rfl (opr_store (i := 0) rfl rfl rfl rfl rfl size29 rfl (by rw [W_length, mixl_length (digs_length 18446744073709551616 7 _) hlz hk7]; omega) flat_one (W_put (by rw [mixl_length (digs_length 18446744073709551616 7 _) hlz hk7]; omega) (mixl_put (digs_length 18446744073709551616 7 _) hlz hk7' (digs_get 7 (X + Y) k hk7')))) ?_
      refine at_d rfl rfl (opr_assign rfl rfl) ?_
      refine at_nil ?_
      refine at_inBlock_normal ?_
      refine at_then ?_
      refine at_region ?_
      refine at_d rfl rfl (opr_move rfl rfl) ?_
      refine at_d rfl rfl (opr_addI (a := k) (b := 1) rfl rfl rfl (by omega)) ?_
      refine at_d rfl rfl (opr_assign rfl rfl) ?_
      refine at_nil ?_
      exact at_round (k + 1) (by omega) (by omega) (allIn ⟨rfl, rfl, rfl, rfl, rfl, trivial⟩) (List.Sublist.refl _)
    ·
      obtain rfl : k = 7 := by have := of_decide_eq_false ht; omega
      rw [mixl_end (digs_length 18446744073709551616 7 _) hlz]
      refine at_exit ?_
      refine at_then_exit ?_
      refine at_then_exit ?_
      refine at_inBlock_same ?_
      refine at_then ?_
      refine at_seq ?_
      refine at_region ?_
      refine at_d rfl rfl (opr_move rfl rfl) ?_
      refine at_d rfl rfl (opr_assign rfl rfl) ?_
      refine at_nil ?_
      refine at_then ?_
      refine at_ret ?_
      refine done_of (res1 Tryz.results72 (res_tmp rfl)) ⟨rfl, rfl⟩ (by repeat (first | exact List.Sublist.refl _ | apply List.Sublist.cons))
theorem addS7_ct {M : Mem} {gz gy Tz Ty cz cx cy : Nat} {X Y : Nat} {ly : List Nat} (hy : ∀ k, k < 7 → ly[k]? = some (Y / 18446744073709551616 ^ k % 18446744073709551616)) : Ct Tryz.prog 72 #[.slice (some ⟨gz, 0, none⟩) 7 cz, .slice (some ⟨gz, 0, none⟩) 7 cx, .slice (some ⟨gy, 0, none⟩) 7 cy] (⟨gz, Tz, W (digs 18446744073709551616 7 (X))⟩ :: ⟨gy, Ty, W ly⟩ :: M) (Det (.int .u64 ((cadd X Y 7 : Nat) : Int)) (⟨gz, Tz, W (digs 18446744073709551616 7 ((X + Y)))⟩ :: ⟨gy, Ty, W ly⟩ :: M)) := by
  refine ct_of (vs := [.slice (some ⟨gz, 0, none⟩) 7 cz, .slice (some ⟨gz, 0, none⟩) 7 cx, .slice (some ⟨gy, 0, none⟩) 7 cy]) Tryz.func72 rfl Tryz.ntmps72 rfl fun w0 => ?_
  refine at_seq ?_
  refine at_region ?_
  refine at_d rfl rfl (opr_assign rfl rfl) ?_
  refine at_nil ?_
  refine at_then ?_
  refine at_seq ?_
  refine at_region ?_
  refine at_d rfl rfl (opr_move rfl rfl) ?_
  refine at_d rfl rfl (opr_lenS rfl rfl Tryz.underlying79) ?_
  refine at_d rfl rfl (opr_move rfl rfl) ?_
  refine at_d rfl rfl (opr_lenS rfl rfl Tryz.underlying79) ?_
  refine at_d rfl rfl (opr_move rfl rfl) ?_
  refine at_d rfl rfl (opr_assign rfl rfl) ?_
  refine at_d rfl rfl (opr_assign rfl rfl) ?_
  refine at_d rfl rfl (opr_assign rfl rfl) ?_
  refine at_nil ?_
  refine at_then ?_
  refine at_seq ?_
  refine at_seq ?_
  refine at_region ?_
  refine at_d rfl rfl (opr_move rfl rfl) ?_
  refine at_d rfl rfl (opr_move rfl rfl) ?_
  refine at_d rfl rfl (opr_binOp (v := .bool false) rfl rfl rfl (fun _ => rfl)) ?_
  refine at_nil ?_
  refine at_then ?_
  refine at_cond_false rfl ?_
  refine at_skip ?_
  refine at_then ?_
  refine at_seq ?_
  refine at_region ?_
  refine at_d rfl rfl (opr_eq' (opr_assign rfl rfl) (u64_eq' (cadd_zero X Y).symm)) ?_
  refine at_nil ?_
  refine at_then ?_
  refine at_seq ?_
  refine at_seq ?_
  refine at_region ?_
  refine at_d rfl rfl (opr_assign rfl rfl) ?_
  refine at_nil ?_
  refine at_then ?_
  refine at_block ?_
  refine at_loop (fun (x : Nat) => [(0, .slice (some ⟨gz, 0, none⟩) 7 cz), (1, .slice (some ⟨gz, 0, none⟩) 7 cx), (2, .slice (some ⟨gy, 0, none⟩) 7 cy), (7, .int .i64 ((7 : Nat) : Int)), (8, .int .i64 ((7 : Nat) : Int)), (9, .slice (some ⟨gy, 0, none⟩) 7 cy), (10, .int .u64 ((cadd X Y x : Nat) : Int)), (11, .int .i64 (x : Int))]) (fun (x : Nat) => ⟨gz, Tz, W ((mixl (digs 18446744073709551616 7 ((X + Y))) (digs 18446744073709551616 7 (X)) x))⟩ :: ⟨gy, Ty, W (ly)⟩ :: M) (fun (x : Nat) => 7 - x) (fun (x : Nat) => x ≤ 7) 0 (Nat.zero_le _) (allIn ⟨rfl, rfl, rfl, rfl, rfl, rfl, rfl, rfl, trivial⟩) (by simp only [mixl_zero]; exact List.Sublist.refl _) ?_
  intro k hk
  dsimp only
  refine at_seq ?_
  refine at_seq ?_
  refine at_region ?_
  refine at_d rfl rfl (opr_move rfl rfl) ?_
  refine at_d rfl rfl (opr_move rfl rfl) ?_
  refine at_d rfl rfl (opr_lss (a := k) (b := 7) rfl rfl rfl) ?_
  refine at_nil ?_
  refine at_then ?_
  refine at_cond rfl (fun ht => ?_) (fun ht => ?_)
  ·
    have hltK : k < 7 := of_decide_eq_true ht
    have hk7 : k ≤ 7 := by omega
    have hk7' : k < 7 := by omega
    refine at_skip ?_
    refine at_then ?_
    refine at_seq ?_
    refine at_block ?_
    refine at_drawK (by kernel_rfl) (by kernel_rfl) (M1 := ⟨gz, Tz, W ((mixl (digs 18446744073709551616 7 ((X + Y))) (digs 18446744073709551616 7 (X)) (k + 1)))⟩ :: ⟨gy, Ty, W (ly)⟩ :: M) (M2 := ⟨gz, Tz, W ((mixl (digs 18446744073709551616 7 ((X + Y))) (digs 18446744073709551616 7 (X)) (k + 1)))⟩ :: ⟨gy, Ty, W (ly)⟩ :: M) [0, 0, 0, 0, 0, 4, 0, 0, 0, 4, 0, 0, 0, 0, 0, 0, 1, 0] 16 18 (by kernel_rfl) (.inr rfl) ?_
    refine drK0 rfl rfl (fun _ => opr_move rfl rfl) ?_
    refine drK0 rfl rfl (fun _ => opr_move rfl rfl) ?_
    refine drK0 rfl rfl (fun _ => opr_move rfl rfl) ?_
    refine drK0 rfl rfl (fun _ => opr_move rfl rfl) ?_
    refine drK0 rfl rfl (fun _ => opr_indexAddrS (j := k) (off' := k) rfl rfl rfl Tryz.underlying79 (by omega) size29 (by omega)) ?_
    refine drK4 rfl rfl (opr_load1 (i := 0) rfl rfl rfl Tryz.underlying29 rfl (W_get ((mixl_get (digs_length 18446744073709551616 7 _) hk7).trans (digs_get 7 X k hk7')))) ?_
    refine drK0 rfl rfl (fun _ => opr_move rfl rfl) ?_
    refine drK0 rfl rfl (fun _ => opr_move rfl rfl) ?_
    refine drK0 rfl rfl (fun _ => opr_indexAddrS (j := k) (off' := k) rfl rfl rfl Tryz.underlying79 (by omega) size29 (by omega)) ?_
    refine drK4 rfl rfl (opr_load1 (i := 1) rfl rfl rfl Tryz.underlying29 rfl (W_get (hy k (by omega)))) ?_
    refine drK0 rfl rfl (fun _ => opr_move rfl rfl) ?_
    refine drK0 rfl rfl (fun _ => opr_Add64D (a := X / 18446744073709551616 ^ k % 18446744073709551616) (b := Y / 18446744073709551616 ^ k % 18446744073709551616) (c := cadd X Y k) (s := (X + Y) / 18446744073709551616 ^ k % 18446744073709551616) (k := cadd X Y (k + 1)) rfl rfl rfl (cadd_le _ _ _) (dig_lt X k) (dig_lt Y k) (cadd_step X Y k) (dig_lt _ k)) ?_
    refine drK0 rfl rfl (fun _ => opr_move rfl rfl) ?_
    refine drK0 rfl rfl (fun _ => opr_extract rfl rfl rfl) ?_
    refine drK0 rfl rfl (fun _ => opr_extract rfl rfl rfl) ?_
    refine drK0 rfl rfl (fun _ => opr_indexAddrS (j := k) (off' := k) rfl rfl rfl Tryz.underlying79 (by omega) size29 (by omega)) ?_
    refine drK1 rfl rfl (opr_store (i := 0) rfl rfl rfl rfl rfl size29 rfl (by rw [W_length, mixl_length (digs_length 18446744073709551616 7 _) (digs_length _ _ _) hk7]; omega) flat_one (W_put (by rw [mixl_length (digs_length 18446744073709551616 7 _) (digs_length _ _ _) hk7]; omega) (mixl_put (digs_length 18446744073709551616 7 _) (digs_length _ _ _) hk7' (digs_get 7 (X + Y) k hk7')))) ?_
    refine drK0 rfl rfl (fun _ => opr_assign rfl rfl) ?_
    refine at_inBlock_normal ?_
    refine at_then ?_
    refine at_region ?_
    refine at_d rfl rfl (opr_move rfl rfl) ?_
    refine at_d rfl rfl (opr_addI (a := k) (b := 1) rfl rfl rfl (by omega)) ?_
    refine at_d rfl rfl (opr_assign rfl rfl) ?_
    refine at_nil ?_
    exact at_round (k + 1) (by omega) (by omega) (allIn ⟨rfl, rfl, rfl, rfl, rfl, rfl, rfl, rfl, trivial⟩) (List.Sublist.refl _)
  ·
    obtain rfl : k = 7 := by have := of_decide_eq_false ht; omega
    refine at_exit ?_
    refine at_then_exit ?_
    refine at_then_exit ?_
    refine at_inBlock_same ?_
    refine at_then ?_
    refine at_seq ?_
    refine at_seq ?_
    refine at_region ?_
    refine at_d rfl rfl (opr_move rfl rfl) ?_
    refine at_d rfl rfl (opr_assign rfl rfl) ?_
    refine at_nil ?_
    refine at_then ?_
    refine at_block ?_
    refine at_loop (fun (x : Nat) => [(0, .slice (some ⟨gz, 0, none⟩) 7 cz), (8, .int .i64 ((7 : Nat) : Int)), (9, .slice (some ⟨gy, 0, none⟩) 7 cy), (10, .int .u64 ((cadd X Y x : Nat) : Int)), (12, .int .i64 (x : Int))]) (fun (x : Nat) => ⟨gz, Tz, W ((mixl (digs 18446744073709551616 7 ((X + Y))) (digs 18446744073709551616 7 (X)) x))⟩ :: ⟨gy, Ty, W (ly)⟩ :: M) (fun (x : Nat) => 7 - x) (fun (x : Nat) => 7 ≤ x ∧ x ≤ 7) 7 (by decide) (allIn ⟨rfl, rfl, rfl, rfl, rfl, trivial⟩) (List.Sublist.refl _) ?_
    rintro k ⟨hk1, hk⟩
    dsimp only
    refine at_seq ?_
    refine at_seq ?_
    refine at_region ?_
    refine at_d rfl rfl (opr_move rfl rfl) ?_
    refine at_d rfl rfl (opr_move rfl rfl) ?_
    refine at_d rfl rfl (opr_lss (a := k) (b := 7) rfl rfl rfl) ?_
    refine at_nil ?_
    refine at_then ?_
    refine at_cond rfl (fun ht => ?_) (fun ht => ?_)
    ·
      have hltK : k < 7 := of_decide_eq_true ht
      have hk7 : k ≤ 7 := by omega
      have hk7' : k < 7 := by omega
      exact absurd hltK (by omega)
    ·
      obtain rfl : k = 7 := by have := of_decide_eq_false ht; omega
      rw [mixl_end (digs_length 18446744073709551616 7 _) (digs_length _ _ _)]
      refine at_exit ?_
      refine at_then_exit ?_
      refine at_then_exit ?_
      refine at_inBlock_same ?_
      refine at_then ?_
      refine at_seq ?_
      refine at_region ?_
      refine at_d rfl rfl (opr_move rfl rfl) ?_
      refine at_d rfl rfl (opr_assign rfl rfl) ?_
      refine at_nil ?_
      refine at_then ?_
      refine at_ret ?_
      refine done_of (res1 Tryz.results72 (res_tmp rfl)) ⟨rfl, rfl⟩ (by repeat (first | exact List.Sublist.refl _ | apply List.Sublist.cons))
theorem sub7_ct {M : Mem} {gz gx gy Tz Tx Ty cz cx cy : Nat} {X Y : Nat} {lz ly : List Nat} (hlz : lz.length = 7) (hy : ∀ k, k < 7 → ly[k]? = some (Y / 18446744073709551616 ^ k % 18446744073709551616)) : Ct Tryz.prog 93 #[.slice (some ⟨gz, 0, none⟩) 7 cz, .slice (some ⟨gx, 0, none⟩) 7 cx, .slice (some ⟨gy, 0, none⟩) 7 cy] (⟨gz, Tz, W lz⟩ :: ⟨gx, Tx, W (digs 18446744073709551616 7 (X))⟩ :: ⟨gy, Ty, W ly⟩ :: M) (Det (.int .u64 ((cadd (dsub X Y) Y 7 : Nat) : Int)) (⟨gz, Tz, W (digs 18446744073709551616 7 ((dsub X Y)))⟩ :: ⟨gx, Tx, W (digs 18446744073709551616 7 (X))⟩ :: ⟨gy, Ty, W ly⟩ :: M)) := by
  refine ct_of (vs := [.slice (some ⟨gz, 0, none⟩) 7 cz, .slice (some ⟨gx, 0, none⟩) 7 cx, .slice (some ⟨gy, 0, none⟩) 7 cy]) Tryz.func93 rfl Tryz.ntmps93 rfl fun w0 => ?_
  refine at_seq ?_
  refine at_region ?_
  refine at_d rfl rfl (opr_assign rfl rfl) ?_
  refine at_nil ?_
  refine at_then ?_
  refine at_seq ?_
  refine at_region ?_
  refine at_d rfl rfl (opr_move rfl rfl) ?_
  refine at_d rfl rfl (opr_lenS rfl rfl Tryz.underlying79) ?_
  refine at_d rfl rfl (opr_move rfl rfl) ?_
  refine at_d rfl rfl (opr_lenS rfl rfl Tryz.underlying79) ?_
  refine at_d rfl rfl (opr_move rfl rfl) ?_
  refine at_d rfl rfl (opr_assign rfl rfl) ?_
  refine at_d rfl rfl (opr_assign rfl rfl) ?_
  refine at_d rfl rfl (opr_assign rfl rfl) ?_
  refine at_nil ?_
  refine at_then ?_
  refine at_seq ?_
  refine at_seq ?_
  refine at_region ?_
  refine at_d rfl rfl (opr_move rfl rfl) ?_
  refine at_d rfl rfl (opr_move rfl rfl) ?_
  refine at_d rfl rfl (opr_binOp (v := .bool false) rfl rfl rfl (fun _ => rfl)) ?_
  refine at_nil ?_
  refine at_then ?_
  refine at_cond_false rfl ?_
  refine at_skip ?_
  refine at_then ?_
  refine at_seq ?_
  refine at_region ?_
  refine at_d rfl rfl (opr_eq' (opr_assign rfl rfl) (u64_eq' (cadd_zero (dsub X Y) Y).symm)) ?_
  refine at_nil ?_
  refine at_then ?_
  refine at_seq ?_
  refine at_seq ?_
  refine at_region ?_
  refine at_d rfl rfl (opr_assign rfl rfl) ?_
  refine at_nil ?_
  refine at_then ?_
  refine at_block ?_
  refine at_loop (fun (x : Nat) => [(0, .slice (some ⟨gz, 0, none⟩) 7 cz), (1, .slice (some ⟨gx, 0, none⟩) 7 cx), (2, .slice (some ⟨gy, 0, none⟩) 7 cy), (7, .int .i64 ((7 : Nat) : Int)), (8, .int .i64 ((7 : Nat) : Int)), (9, .slice (some ⟨gy, 0, none⟩) 7 cy), (10, .int .u64 ((cadd (dsub X Y) Y x : Nat) : Int)), (11, .int .i64 (x : Int))]) (fun (x : Nat) => ⟨gz, Tz, W ((mixl (digs 18446744073709551616 7 ((dsub X Y))) lz x))⟩ :: ⟨gx, Tx, W ((digs 18446744073709551616 7 (X)))⟩ :: ⟨gy, Ty, W (ly)⟩ :: M) (fun (x : Nat) => 7 - x) (fun (x : Nat) => x ≤ 7) 0 (Nat.zero_le _) (allIn ⟨rfl, rfl, rfl, rfl, rfl, rfl, rfl, rfl, trivial⟩) (by simp only [mixl_zero]; exact List.Sublist.refl _) ?_
  intro k hk
  dsimp only
  refine at_seq ?_
  refine at_seq ?_
  refine at_region ?_
  refine at_d rfl rfl (opr_move rfl rfl) ?_
  refine at_d rfl rfl (opr_move rfl rfl) ?_
  refine at_d rfl rfl (opr_lss (a := k) (b := 7) rfl rfl rfl) ?_
  refine at_nil ?_
  refine at_then ?_
  refine at_cond rfl (fun ht => ?_) (fun ht => ?_)
  ·
    have hltK : k < 7 := of_decide_eq_true ht
    have hk7 : k ≤ 7 := by omega
    have hk7' : k < 7 := by omega
    refine at_skip ?_
    refine at_then ?_
    refine at_seq ?_
    refine at_block ?_
    refine at_drawK (by kernel_rfl) (by kernel_rfl) (M1 := ⟨gz, Tz, W ((mixl (digs 18446744073709551616 7 ((dsub X Y))) lz (k + 1)))⟩ :: ⟨gx, Tx, W ((digs 18446744073709551616 7 (X)))⟩ :: ⟨gy, Ty, W (ly)⟩ :: M) (M2 := ⟨gz, Tz, W ((mixl (digs 18446744073709551616 7 ((dsub X Y))) lz (k + 1)))⟩ :: ⟨gx, Tx, W ((digs 18446744073709551616 7 (X)))⟩ :: ⟨gy, Ty, W (ly)⟩ :: M) [0, 0, 0, 0, 0, 4, 0, 0, 0, 4, 0, 0, 0, 0, 0, 0, 1, 0] 16 18 (by kernel_rfl) (.inr rfl) ?_
    refine drK0 rfl rfl (fun _ => opr_move rfl rfl) ?_
    refine drK0 rfl rfl (fun _ => opr_move rfl rfl) ?_
    refine drK0 rfl rfl (fun _ => opr_move rfl rfl) ?_
    refine drK0 rfl rfl (fun _ => opr_move rfl rfl) ?_
    refine drK0 rfl rfl (fun _ => opr_indexAddrS (j := k) (off' := k) rfl rfl rfl Tryz.underlying79 (by omega) size29 (by omega)) ?_
    refine drK4 rfl rfl (opr_load1 (i := 1) rfl rfl rfl Tryz.underlying29 rfl (W_get (digs_get 7 X k hk7'))) ?_
    refine drK0 rfl rfl (fun _ => opr_move rfl rfl) ?_
    refine drK0 rfl rfl (fun _ => opr_move rfl rfl) ?_
    refine drK0 rfl rfl (fun _ => opr_indexAddrS (j := k) (off' := k) rfl rfl rfl Tryz.underlying79 (by omega) size29 (by omega)) ?_
    refine drK4 rfl rfl (opr_load1 (i := 2) rfl rfl rfl Tryz.underlying29 rfl (W_get (hy k (by omega)))) ?_
    refine drK0 rfl rfl (fun _ => opr_move rfl rfl) ?_
    refine drK0 rfl rfl (fun _ => opr_Sub64D (a := X / 18446744073709551616 ^ k % 18446744073709551616) (b := Y / 18446744073709551616 ^ k % 18446744073709551616) (c := cadd (dsub X Y) Y k) (s := (dsub X Y) / 18446744073709551616 ^ k % 18446744073709551616) (k := cadd (dsub X Y) Y (k + 1)) rfl rfl rfl (cadd_le _ _ _) (dig_lt X k) (dig_lt Y k) (csub_step X Y k hk7') (dig_lt _ k) (cadd_le _ _ _)) ?_
    refine drK0 rfl rfl (fun _ => opr_move rfl rfl) ?_
    refine drK0 rfl rfl (fun _ => opr_extract rfl rfl rfl) ?_
    refine drK0 rfl rfl (fun _ => opr_extract rfl rfl rfl) ?_
    refine drK0 rfl rfl (fun _ => opr_indexAddrS (j := k) (off' := k) rfl rfl rfl Tryz.underlying79 (by omega) size29 (by omega)) ?_
    refine drK1 rfl rfl (opr_store (i := 0) rfl rfl rfl rfl rfl size29 rfl (by rw [W_length, mixl_length (digs_length 18446744073709551616 7 _) hlz hk7]; omega) flat_one (W_put (by rw [mixl_length (digs_length 18446744073709551616 7 _) hlz hk7]; omega) (mixl_put (digs_length 18446744073709551616 7 _) hlz hk7' (digs_get 7 (dsub X Y) k hk7')))) ?_
    refine drK0 rfl rfl (fun _ => opr_assign rfl rfl) ?_
    refine at_inBlock_normal ?_
    refine at_then ?_
    refine at_region ?_
    refine at_d rfl rfl (opr_move rfl rfl) ?_
    refine at_d rfl rfl (opr_addI (a := k) (b := 1) rfl rfl rfl (by omega)) ?_
    refine at_d rfl rfl (opr_assign rfl rfl) ?_
    refine at_nil ?_
    exact at_round (k + 1) (by omega) (by omega) (allIn ⟨rfl, rfl, rfl, rfl, rfl, rfl, rfl, rfl, trivial⟩) (List.Sublist.refl _)
  ·
    obtain rfl : k = 7 := by have := of_decide_eq_false ht; omega
    refine at_exit ?_
    refine at_then_exit ?_
    refine at_then_exit ?_
    refine at_inBlock_same ?_
    refine at_then ?_
    refine at_seq ?_
    refine at_seq ?_
    refine at_region ?_
    refine at_d rfl rfl (opr_move rfl rfl) ?_
    refine at_d rfl rfl (opr_assign rfl rfl) ?_
    refine at_nil ?_
    refine at_then ?_
    refine at_block ?_
    refine at_loop (fun (x : Nat) => [(0, .slice (some ⟨gz, 0, none⟩) 7 cz), (8, .int .i64 ((7 : Nat) : Int)), (9, .slice (some ⟨gy, 0, none⟩) 7 cy), (10, .int .u64 ((cadd (dsub X Y) Y x : Nat) : Int)), (12, .int .i64 (x : Int))]) (fun (x : Nat) => ⟨gz, Tz, W ((mixl (digs 18446744073709551616 7 ((dsub X Y))) lz x))⟩ :: ⟨gx, Tx, W ((digs 18446744073709551616 7 (X)))⟩ :: ⟨gy, Ty, W (ly)⟩ :: M) (fun (x : Nat) => 7 - x) (fun (x : Nat) => 7 ≤ x ∧ x ≤ 7) 7 (by decide) (allIn ⟨rfl, rfl, rfl, rfl, rfl, trivial⟩) (List.Sublist.refl _) ?_
    rintro k ⟨hk1, hk⟩
    dsimp only
    refine at_seq ?_
    refine at_seq ?_
    refine at_region ?_
    refine at_d rfl rfl (opr_move rfl rfl) ?_
    refine at_d rfl rfl (opr_move rfl rfl) ?_
    refine at_d rfl rfl (opr_lss (a := k) (b := 7) rfl rfl rfl) ?_
    refine at_nil ?_
    refine at_then ?_
    refine at_cond rfl (fun ht => ?_) (fun ht => ?_)
    ·
      have hltK : k < 7 := of_decide_eq_true ht
      have hk7 : k ≤ 7 := by omega
      have hk7' : k < 7 := by omega
      exact absurd hltK (by omega)
    ·
      obtain rfl : k = 7 := by have := of_decide_eq_false ht; omega
      rw [mixl_end (digs_length 18446744073709551616 7 _) hlz]
      refine at_exit ?_
      refine at_then_exit ?_
      refine at_then_exit ?_
      refine at_inBlock_same ?_
      refine at_then ?_
      refine at_seq ?_
      refine at_region ?_
      refine at_d rfl rfl (opr_move rfl rfl) ?_
      refine at_d rfl rfl (opr_assign rfl rfl) ?_
      refine at_nil ?_
      refine at_then ?_
      refine at_ret ?_
      refine done_of (res1 Tryz.results93 (res_tmp rfl)) ⟨rfl, rfl⟩ (by repeat (first | exact List.Sublist.refl _ | apply List.Sublist.cons))
theorem sub4_ct {M : Mem} {gz gx gy Tz Tx Ty cz cx cy : Nat} {X Y : Nat} {lz ly : List Nat} (hlz : lz.length = 7) (hy : ∀ k, k < 4 → ly[k]? = some (Y / 18446744073709551616 ^ k % 18446744073709551616)) (hY : ∀ k, 4 ≤ k → k < 7 → Y / 18446744073709551616 ^ k % 18446744073709551616 = 0) : Ct Tryz.prog 93 #[.slice (some ⟨gz, 0, none⟩) 7 cz, .slice (some ⟨gx, 0, none⟩) 7 cx, .slice (some ⟨gy, 0, none⟩) 4 cy] (⟨gz, Tz, W lz⟩ :: ⟨gx, Tx, W (digs 18446744073709551616 7 (X))⟩ :: ⟨gy, Ty, W ly⟩ :: M) (Det (.int .u64 ((cadd (dsub X Y) Y 7 : Nat) : Int)) (⟨gz, Tz, W (digs 18446744073709551616 7 ((dsub X Y)))⟩ :: ⟨gx, Tx, W (digs 18446744073709551616 7 (X))⟩ :: ⟨gy, Ty, W ly⟩ :: M)) := by
  refine ct_of (vs := [.slice (some ⟨gz, 0, none⟩) 7 cz, .slice (some ⟨gx, 0, none⟩) 7 cx, .slice (some ⟨gy, 0, none⟩) 4 cy]) Tryz.func93 rfl Tryz.ntmps93 rfl fun w0 => ?_
  refine at_seq ?_
  refine at_region ?_
  refine at_d rfl rfl (opr_assign rfl rfl) ?_
  refine at_nil ?_
  refine at_then ?_
  refine at_seq ?_
  refine at_region ?_
  refine at_d rfl rfl (opr_move rfl rfl) ?_
  refine at_d rfl rfl (opr_lenS rfl rfl Tryz.underlying79) ?_
  refine at_d rfl rfl (opr_move rfl rfl) ?_
  refine at_d rfl rfl (opr_lenS rfl rfl Tryz.underlying79) ?_
  refine at_d rfl rfl (opr_move rfl rfl) ?_
  refine at_d rfl rfl (opr_assign rfl rfl) ?_
  refine at_d rfl rfl (opr_assign rfl rfl) ?_
  refine at_d rfl rfl (opr_assign rfl rfl) ?_
  refine at_nil ?_
  refine at_then ?_
  refine at_seq ?_
  refine at_seq ?_
  refine at_region ?_
  refine at_d rfl rfl (opr_move rfl rfl) ?_
  refine at_d rfl rfl (opr_move rfl rfl) ?_
  refine at_d rfl rfl (opr_binOp (v := .bool true) rfl rfl rfl (fun _ => rfl)) ?_
  refine at_nil ?_
  refine at_then ?_
  refine at_cond_true rfl ?_
  refine at_region ?_
  refine at_d rfl rfl (opr_move rfl rfl) ?_
  refine at_d rfl rfl (opr_move rfl rfl) ?_
  refine at_d rfl rfl (opr_move rfl rfl) ?_
  refine at_d rfl rfl (opr_assign rfl rfl) ?_
  refine at_d rfl rfl (opr_assign rfl rfl) ?_
  refine at_d rfl rfl (opr_assign rfl rfl) ?_
  refine at_nil ?_
  refine at_then ?_
  refine at_seq ?_
  refine at_region ?_
  refine at_d rfl rfl (opr_eq' (opr_assign rfl rfl) (u64_eq' (cadd_zero (dsub X Y) Y).symm)) ?_
  refine at_nil ?_
  refine at_then ?_
  refine at_seq ?_
  refine at_seq ?_
  refine at_region ?_
  refine at_d rfl rfl (opr_assign rfl rfl) ?_
  refine at_nil ?_
  refine at_then ?_
  refine at_block ?_
  refine at_loop (fun (x : Nat) => [(0, .slice (some ⟨gz, 0, none⟩) 7 cz), (1, .slice (some ⟨gx, 0, none⟩) 7 cx), (2, .slice (some ⟨gy, 0, none⟩) 4 cy), (7, .int .i64 ((4 : Nat) : Int)), (8, .int .i64 ((7 : Nat) : Int)), (9, .slice (some ⟨gx, 0, none⟩) 7 cx), (10, .int .u64 ((cadd (dsub X Y) Y x : Nat) : Int)), (11, .int .i64 (x : Int))]) (fun (x : Nat) => ⟨gz, Tz, W ((mixl (digs 18446744073709551616 7 ((dsub X Y))) lz x))⟩ :: ⟨gx, Tx, W ((digs 18446744073709551616 7 (X)))⟩ :: ⟨gy, Ty, W (ly)⟩ :: M) (fun (x : Nat) => 7 - x) (fun (x : Nat) => x ≤ 4) 0 (Nat.zero_le _) (allIn ⟨rfl, rfl, rfl, rfl, rfl, rfl, rfl, rfl, trivial⟩) (by simp only [mixl_zero]; exact List.Sublist.refl _) ?_
  intro k hk
  dsimp only
  refine at_seq ?_
  refine at_seq ?_
  refine at_region ?_
  refine at_d rfl rfl (opr_move rfl rfl) ?_
  refine at_d rfl rfl (opr_move rfl rfl) ?_
  refine at_d rfl rfl (opr_lss (a := k) (b := 4) rfl rfl rfl) ?_
  refine at_nil ?_
  refine at_then ?_
  refine at_cond rfl (fun ht => ?_) (fun ht => ?_)
  ·
    have hltK : k < 4 := of_decide_eq_true ht
    have hk7 : k ≤ 7 := by omega
    have hk7' : k < 7 := by omega
    refine at_skip ?_
    refine at_then ?_
    refine at_seq ?_
    refine at_block ?_
    refine at_drawK (by kernel_rfl) (by kernel_rfl) (M1 := ⟨gz, Tz, W ((mixl (digs 18446744073709551616 7 ((dsub X Y))) lz (k + 1)))⟩ :: ⟨gx, Tx, W ((digs 18446744073709551616 7 (X)))⟩ :: ⟨gy, Ty, W (ly)⟩ :: M) (M2 := ⟨gz, Tz, W ((mixl (digs 18446744073709551616 7 ((dsub X Y))) lz (k + 1)))⟩ :: ⟨gx, Tx, W ((digs 18446744073709551616 7 (X)))⟩ :: ⟨gy, Ty, W (ly)⟩ :: M) [0, 0, 0, 0, 0, 4, 0, 0, 0, 4, 0, 0, 0, 0, 0, 0, 1, 0] 16 18 (by kernel_rfl) (.inr rfl) ?_
    refine drK0 rfl rfl (fun _ => opr_move rfl rfl) ?_
    refine drK0 rfl rfl (fun _ => opr_move rfl rfl) ?_
    refine drK0 rfl rfl (fun _ => opr_move rfl rfl) ?_
    refine drK0 rfl rfl (fun _ => opr_move rfl rfl) ?_
    refine drK0 rfl rfl (fun _ => opr_indexAddrS (j := k) (off' := k) rfl rfl rfl Tryz.underlying79 (by omega) size29 (by omega)) ?_
    refine drK4 rfl rfl (opr_load1 (i := 1) rfl rfl rfl Tryz.underlying29 rfl (W_get (digs_get 7 X k hk7'))) ?_
    refine drK0 rfl rfl (fun _ => opr_move rfl rfl) ?_
    refine drK0 rfl rfl (fun _ => opr_move rfl rfl) ?_
    refine drK0 rfl rfl (fun _ => opr_indexAddrS (j := k) (off' := k) rfl rfl rfl Tryz.underlying79 (by omega) size29 (by omega)) ?_
    refine drK4 rfl rfl (opr_load1 (i := 2) rfl rfl rfl Tryz.underlying29 rfl (W_get (hy k (by omega)))) ?_
    refine drK0 rfl rfl (fun _ => opr_move rfl rfl) ?_
    refine drK0 rfl rfl (fun _ => opr_Sub64D (a := X / 18446744073709551616 ^ k % 18446744073709551616) (b := Y / 18446744073709551616 ^ k % 18446744073709551616) (c := cadd (dsub X Y) Y k) (s := (dsub X Y) / 18446744073709551616 ^ k % 18446744073709551616) (k := cadd (dsub X Y) Y (k + 1)) rfl rfl rfl (cadd_le _ _ _) (dig_lt X k) (dig_lt Y k) (csub_step X Y k hk7') (dig_lt _ k) (cadd_le _ _ _)) ?_
    refine drK0 rfl rfl (fun _ => opr_move rfl rfl) ?_
    refine drK0 rfl rfl (fun _ => opr_extract rfl rfl rfl) ?_
    refine drK0 rfl rfl (fun _ => opr_extract rfl rfl rfl) ?_
    refine drK0 rfl rfl (fun _ => opr_indexAddrS (j := k) (off' := k) rfl rfl rfl Tryz.underlying79 (by omega) size29 (by omega)) ?_
    refine drK1 rfl rfl (opr_store (i := 0) rfl rfl rfl rfl rfl size29 rfl (by rw [W_length, mixl_length (digs_length 18446744073709551616 7 _) hlz hk7]; omega) flat_one (W_put (by rw [mixl_length (digs_length 18446744073709551616 7 _) hlz hk7]; omega) (mixl_put (digs_length 18446744073709551616 7 _) hlz hk7' (digs_get 7 (dsub X Y) k hk7')))) ?_
    refine drK0 rfl rfl (fun _ => opr_assign rfl rfl) ?_
    refine at_inBlock_normal ?_
    refine at_then ?_
    refine at_region ?_
    refine at_d rfl rfl (opr_move rfl rfl) ?_
    refine at_d rfl rfl (opr_addI (a := k) (b := 1) rfl rfl rfl (by omega)) ?_
    refine at_d rfl rfl (opr_assign rfl rfl) ?_
    refine at_nil ?_
    exact at_round (k + 1) (by omega) (by omega) (allIn ⟨rfl, rfl, rfl, rfl, rfl, rfl, rfl, rfl, trivial⟩) (List.Sublist.refl _)
  ·
    obtain rfl : k = 4 := by have := of_decide_eq_false ht; omega
    refine at_exit ?_
    refine at_then_exit ?_
    refine at_then_exit ?_
    refine at_inBlock_same ?_
    refine at_then ?_
    refine at_seq ?_
    refine at_seq ?_
    refine at_region ?_
    refine at_d rfl rfl (opr_move rfl rfl) ?_
    refine at_d rfl rfl (opr_assign rfl rfl) ?_
    refine at_nil ?_
    refine at_then ?_
    refine at_block ?_
    refine at_loop (fun (x : Nat) => [(0, .slice (some ⟨gz, 0, none⟩) 7 cz), (8, .int .i64 ((7 : Nat) : Int)), (9, .slice (some ⟨gx, 0, none⟩) 7 cx), (10, .int .u64 ((cadd (dsub X Y) Y x : Nat) : Int)), (12, .int .i64 (x : Int))]) (fun (x : Nat) => ⟨gz, Tz, W ((mixl (digs 18446744073709551616 7 ((dsub X Y))) lz x))⟩ :: ⟨gx, Tx, W ((digs 18446744073709551616 7 (X)))⟩ :: ⟨gy, Ty, W (ly)⟩ :: M) (fun (x : Nat) => 7 - x) (fun (x : Nat) => 4 ≤ x ∧ x ≤ 7) 4 (by decide) (allIn ⟨rfl, rfl, rfl, rfl, rfl, trivial⟩) (List.Sublist.refl _) ?_
    rintro k ⟨hk1, hk⟩
    dsimp only
    refine at_seq ?_
    refine at_seq ?_
    refine at_region ?_
    refine at_d rfl rfl (opr_move rfl rfl) ?_
    refine at_d rfl rfl (opr_move rfl rfl) ?_
    refine at_d rfl rfl (opr_lss (a := k) (b := 7) rfl rfl rfl) ?_
    refine at_nil ?_
    refine at_then ?_
    refine at_cond rfl (fun ht => ?_) (fun ht => ?_)
    ·
      have hltK : k < 7 := of_decide_eq_true ht
      have hk7 : k ≤ 7 := by omega
      have hk7' : k < 7 := by omega
      refine at_skip ?_
      refine at_then ?_
      refine at_seq ?_
      refine at_block ?_
      refine at_region ?_
      refine at_d rfl rfl (opr_move rfl rfl) ?_
      refine at_d rfl rfl (opr_move rfl rfl) ?_
      refine at_d rfl rfl (opr_move rfl rfl) ?_
      refine at_d rfl rfl (opr_move rfl rfl) ?_
      refine at_d rfl rfl (opr_indexAddrS (j := k) (off' := k) rfl rfl rfl Tryz.underlying79 (by omega) size29 (by omega)) ?_
      refine at_d rfl rfl (opr_load1 (i := 1) rfl rfl rfl Tryz.underlying29 rfl (W_get (digs_get 7 X k hk7'))) ?_
      refine at_d rfl rfl (opr_move rfl rfl) ?_
      refine at_d rfl rfl (opr_Sub64D (a := X / 18446744073709551616 ^ k % 18446744073709551616) (b := 0) (c := cadd (dsub X Y) Y k) (s := (dsub X Y) / 18446744073709551616 ^ k % 18446744073709551616) (k := cadd (dsub X Y) Y (k + 1)) rfl rfl rfl (cadd_le _ _ _) (dig_lt X k) (by decide) (by have := (csub_step X Y k hk7'); rw [hY k (by omega) hk7'] at this; exact this) (dig_lt _ k) (cadd_le _ _ _)) ?_
      refine at_d rfl rfl (opr_move rfl rfl) ?_
      refine at_d rfl rfl (opr_extract rfl rfl rfl) ?_
      refine at_d rfl rfl (opr_extract rfl rfl rfl) ?_
      refine at_d rfl rfl (opr_indexAddrS (j := k) (off' := k) rfl rfl rfl Tryz.underlying79 (by omega) size29 (by omega)) ?_
      refine at_d rfl rfl (opr_store (i := 0) rfl rfl rfl rfl rfl size29 rfl (by rw [W_length, mixl_length (digs_length 18446744073709551616 7 _) hlz hk7]; omega) flat_one (W_put (by rw [mixl_length (digs_length 18446744073709551616 7 _) hlz hk7]; omega) (mixl_put (digs_length 18446744073709551616 7 _) hlz hk7' (digs_get 7 (dsub X Y) k hk7')))) ?_
      refine at_d rfl rfl (opr_assign rfl rfl) ?_
      refine at_nil ?_
      refine at_inBlock_normal ?_
      refine at_then ?_
      refine at_region ?_
      refine at_d rfl rfl (opr_move rfl rfl) ?_
      refine at_d rfl rfl (opr_addI (a := k) (b := 1) rfl rfl rfl (by omega)) ?_
      refine at_d rfl rfl (opr_assign rfl rfl) ?_
      refine at_nil ?_
      exact at_round (k + 1) (by omega) (by omega) (allIn ⟨rfl, rfl, rfl, rfl, rfl, trivial⟩) (List.Sublist.refl _)
    ·
      obtain rfl : k = 7 := by have := of_decide_eq_false ht; omega
      rw [mixl_end (digs_length 18446744073709551616 7 _) hlz]
      refine at_exit ?_
      refine at_then_exit ?_
      refine at_then_exit ?_
      refine at_inBlock_same ?_
      refine at_then ?_
      refine at_seq ?_
      refine at_region ?_
      refine at_d rfl rfl (opr_move rfl rfl) ?_
      refine at_d rfl rfl (opr_assign rfl rfl) ?_
      refine at_nil ?_
      refine at_then ?_
      refine at_ret ?_
      refine done_of (res1 Tryz.results93 (res_tmp rfl)) ⟨rfl, rfl⟩ (by repeat (first | exact List.Sublist.refl _ | apply List.Sublist.cons))
end Go.Proofs.YtjlhhcdefcofkaaGreatDoor
