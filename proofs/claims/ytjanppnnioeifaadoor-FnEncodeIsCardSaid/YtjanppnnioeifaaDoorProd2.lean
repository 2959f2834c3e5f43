/- The product of two numbers and its folding (2). -/
import Derived.Test.YtjanppnnioeifaaDoorProd1
namespace Go.Proofs.YtjanppnnioeifaaDoor
open Go
set_option maxRecDepth 100000


theorem red64_ct {M : Mem} {iz il ih gz gl gh Tz Tl Th kz oz l0 l1 l2 l3 l4 l5 l6 h0 h1 h2 h3 h4 h5 h6 : Nat} {lz : List Nat} (hz : M[iz]? = some ⟨gz, Tz, EE lz⟩) (hkz : kz < lz.length) (hoz : 56 * kz = oz) (hl : M[il]? = some ⟨gl, Tl, W [l0, l1, l2, l3, l4, l5, l6]⟩) (hh : M[ih]? = some ⟨gh, Th, W [h0, h1, h2, h3, h4, h5, h6]⟩) (hl0 : l0 < 18446744073709551616) (hl1 : l1 < 18446744073709551616) (hl2 : l2 < 18446744073709551616) (hl3 : l3 < 18446744073709551616) (hl4 : l4 < 18446744073709551616) (hl5 : l5 < 18446744073709551616) (hl6 : l6 < 18446744073709551616) (hh0 : h0 < 18446744073709551616) (hh1 : h1 < 18446744073709551616) (hh2 : h2 < 18446744073709551616) (hh3 : h3 < 18446744073709551616) (hh4 : h4 < 18446744073709551616) (hh5 : h5 < 18446744073709551616) (hh6 : h6 < 18446744073709551616) :
    Ct Tryd.prog 107 #[.pointer (some ⟨gz, oz, none⟩), .pointer (some ⟨gl, 0, none⟩), .pointer (some ⟨gh, 0, none⟩)] M (fun v M' => ∃ r, r < RR ∧ r % pp = (dval 18446744073709551616 [l0, l1, l2, l3, l4, l5, l6] + RR * dval 18446744073709551616 [h0, h1, h2, h3, h4, h5, h6]) % pp ∧ v = .tuple #[] ∧ M' = M.set iz ⟨gz, Tz, EE (lz.set kz r)⟩) := by
  have hle : oz + 56 ≤ (EE lz).length := by rw [EE_length]; omega
  refine ct_of (vs := [.pointer (some ⟨gz, oz, none⟩), .pointer (some ⟨gl, 0, none⟩), .pointer (some ⟨gh, 0, none⟩)]) Tryd.func107 rfl Tryd.ntmps107 rfl fun w0 => ?_
  refine at_seq ?_
  refine at_region ?_
  refine at_d rfl rfl (opr_move rfl rfl) ?_
  refine at_d rfl rfl (opr_nilCheck rfl rfl) ?_
  refine at_d rfl rfl (opr_indexAddr (j := 0) rfl rfl rfl Tryd.underlying119 (by decide) size29 rfl) ?_
  refine at_d rfl rfl (opr_load1 (i := ih) rfl rfl hh Tryd.underlying29 rfl rfl) ?_
  refine at_d rfl rfl (opr_assign rfl rfl) ?_
  refine at_nil ?_
  refine at_then ?_
  refine at_seq ?_
  refine at_region ?_
  refine at_d rfl rfl (opr_move rfl rfl) ?_
  refine at_d rfl rfl (opr_nilCheck rfl rfl) ?_
  refine at_d rfl rfl (opr_indexAddr (j := 1) rfl rfl rfl Tryd.underlying119 (by decide) size29 rfl) ?_
  refine at_d rfl rfl (opr_load1 (i := ih) rfl rfl hh Tryd.underlying29 rfl rfl) ?_
  refine at_d rfl rfl (opr_assign rfl rfl) ?_
  refine at_nil ?_
  refine at_then ?_
  refine at_seq ?_
  refine at_region ?_
  refine at_d rfl rfl (opr_move rfl rfl) ?_
  refine at_d rfl rfl (opr_nilCheck rfl rfl) ?_
  refine at_d rfl rfl (opr_indexAddr (j := 2) rfl rfl rfl Tryd.underlying119 (by decide) size29 rfl) ?_
  refine at_d rfl rfl (opr_load1 (i := ih) rfl rfl hh Tryd.underlying29 rfl rfl) ?_
  refine at_d rfl rfl (opr_assign rfl rfl) ?_
  refine at_nil ?_
  refine at_then ?_
  refine at_seq ?_
  refine at_draw (by kernel_rfl) (by kernel_rfl) (by kernel_rfl) (List.cons_ne_nil _ _) ?_
  refine dr_op rfl rfl (opr_move rfl rfl) ?_
  refine dr_op rfl rfl (opr_nilCheck rfl rfl) ?_
  refine dr_op rfl rfl (opr_indexAddr (j := 3) rfl rfl rfl Tryd.underlying119 (by decide) size29 rfl) ?_
  refine dr_op rfl rfl (opr_load1 (i := ih) rfl rfl hh Tryd.underlying29 rfl rfl) ?_
  refine dr_op rfl rfl (opr_and64 rfl rfl rfl hh3 (by decide)) ?_
  refine dr_op rfl rfl (opr_shl64 rfl rfl rfl (by decide)) ?_
  refine dr_op rfl rfl (opr_move rfl rfl) ?_
  refine dr_op rfl rfl (opr_nilCheck rfl rfl) ?_
  refine dr_op rfl rfl (opr_indexAddr (j := 3) rfl rfl rfl Tryd.underlying119 (by decide) size29 rfl) ?_
  refine dr_op rfl rfl (opr_load1 (i := ih) rfl rfl hh Tryd.underlying29 rfl rfl) ?_
  refine dr_op rfl rfl (opr_and64 rfl rfl rfl hh3 (by decide)) ?_
  refine dr_op rfl rfl (opr_eq (opr_or64 rfl rfl rfl (Nat.mod_lt _ (by decide)) (Nat.and_lt_two_pow (n := 64) _ (by decide))) (u64_eq (k3_eq hh3))) ?_
  refine dr_last rfl rfl (opr_assign rfl rfl) ?_
  refine at_then ?_
  refine at_seq ?_
  refine at_draw (by kernel_rfl) (by kernel_rfl) (by kernel_rfl) (List.cons_ne_nil _ _) ?_
  refine dr_op rfl rfl (opr_move rfl rfl) ?_
  refine dr_op rfl rfl (opr_nilCheck rfl rfl) ?_
  refine dr_op rfl rfl (opr_indexAddr (j := 3) rfl rfl rfl Tryd.underlying119 (by decide) size29 rfl) ?_
  refine dr_op rfl rfl (opr_load1 (i := ih) rfl rfl hh Tryd.underlying29 rfl rfl) ?_
  refine dr_op rfl rfl (opr_shr64 rfl rfl rfl (by decide)) ?_
  refine dr_op rfl rfl (opr_move rfl rfl) ?_
  refine dr_op rfl rfl (opr_nilCheck rfl rfl) ?_
  refine dr_op rfl rfl (opr_indexAddr (j := 4) rfl rfl rfl Tryd.underlying119 (by decide) size29 rfl) ?_
  refine dr_op rfl rfl (opr_load1 (i := ih) rfl rfl hh Tryd.underlying29 rfl rfl) ?_
  refine dr_op rfl rfl (opr_shl64 rfl rfl rfl (by decide)) ?_
  refine dr_op rfl rfl (opr_eq (opr_or64 rfl rfl rfl (Nat.lt_of_le_of_lt (Nat.div_le_self _ _) hh3) (Nat.mod_lt _ (by decide))) (u64_eq (k4_eq hh3))) ?_
  refine dr_last rfl rfl (opr_assign rfl rfl) ?_
  refine at_then ?_
  refine at_seq ?_
  refine at_draw (by kernel_rfl) (by kernel_rfl) (by kernel_rfl) (List.cons_ne_nil _ _) ?_
  refine dr_op rfl rfl (opr_move rfl rfl) ?_
  refine dr_op rfl rfl (opr_nilCheck rfl rfl) ?_
  refine dr_op rfl rfl (opr_indexAddr (j := 4) rfl rfl rfl Tryd.underlying119 (by decide) size29 rfl) ?_
  refine dr_op rfl rfl (opr_load1 (i := ih) rfl rfl hh Tryd.underlying29 rfl rfl) ?_
  refine dr_op rfl rfl (opr_shr64 rfl rfl rfl (by decide)) ?_
  refine dr_op rfl rfl (opr_move rfl rfl) ?_
  refine dr_op rfl rfl (opr_nilCheck rfl rfl) ?_
  refine dr_op rfl rfl (opr_indexAddr (j := 5) rfl rfl rfl Tryd.underlying119 (by decide) size29 rfl) ?_
  refine dr_op rfl rfl (opr_load1 (i := ih) rfl rfl hh Tryd.underlying29 rfl rfl) ?_
  refine dr_op rfl rfl (opr_shl64 rfl rfl rfl (by decide)) ?_
  refine dr_op rfl rfl (opr_eq (opr_or64 rfl rfl rfl (Nat.lt_of_le_of_lt (Nat.div_le_self _ _) hh4) (Nat.mod_lt _ (by decide))) (u64_eq (k4_eq hh4))) ?_
  refine dr_last rfl rfl (opr_assign rfl rfl) ?_
  refine at_then ?_
  refine at_seq ?_
  refine at_draw (by kernel_rfl) (by kernel_rfl) (by kernel_rfl) (List.cons_ne_nil _ _) ?_
  refine dr_op rfl rfl (opr_move rfl rfl) ?_
  refine dr_op rfl rfl (opr_nilCheck rfl rfl) ?_
  refine dr_op rfl rfl (opr_indexAddr (j := 5) rfl rfl rfl Tryd.underlying119 (by decide) size29 rfl) ?_
  refine dr_op rfl rfl (opr_load1 (i := ih) rfl rfl hh Tryd.underlying29 rfl rfl) ?_
  refine dr_op rfl rfl (opr_shr64 rfl rfl rfl (by decide)) ?_
  refine dr_op rfl rfl (opr_move rfl rfl) ?_
  refine dr_op rfl rfl (opr_nilCheck rfl rfl) ?_
  refine dr_op rfl rfl (opr_indexAddr (j := 6) rfl rfl rfl Tryd.underlying119 (by decide) size29 rfl) ?_
  refine dr_op rfl rfl (opr_load1 (i := ih) rfl rfl hh Tryd.underlying29 rfl rfl) ?_
  refine dr_op rfl rfl (opr_shl64 rfl rfl rfl (by decide)) ?_
  refine dr_op rfl rfl (opr_eq (opr_or64 rfl rfl rfl (Nat.lt_of_le_of_lt (Nat.div_le_self _ _) hh5) (Nat.mod_lt _ (by decide))) (u64_eq (k4_eq hh5))) ?_
  refine dr_last rfl rfl (opr_assign rfl rfl) ?_
  refine at_then ?_
  refine at_seq ?_
  refine at_region ?_
  refine at_d rfl rfl (opr_move rfl rfl) ?_
  refine at_d rfl rfl (opr_nilCheck rfl rfl) ?_
  refine at_d rfl rfl (opr_indexAddr (j := 6) rfl rfl rfl Tryd.underlying119 (by decide) size29 rfl) ?_
  refine at_d rfl rfl (opr_load1 (i := ih) rfl rfl hh Tryd.underlying29 rfl rfl) ?_
  refine at_d rfl rfl (opr_eq (opr_shr64 rfl rfl rfl (by decide)) (u64_eq ((rfl : _ = h6 / 9223372036854775808)))) ?_
  refine at_d rfl rfl (opr_assign rfl rfl) ?_
  refine at_nil ?_
  refine at_then ?_
  refine at_seq ?_
  refine at_region ?_
  refine at_d rfl rfl (opr_move rfl rfl) ?_
  refine at_d rfl rfl (opr_move rfl rfl) ?_
  refine at_d rfl rfl (opr_nilCheck rfl rfl) ?_
  refine at_d rfl rfl (opr_indexAddr (j := 0) rfl rfl rfl Tryd.underlying119 (by decide) size29 rfl) ?_
  refine at_d rfl rfl (opr_load1 (i := il) rfl rfl hl Tryd.underlying29 rfl rfl) ?_
  refine at_c rfl rfl (opr_Add64 rfl rfl rfl (by decide) hh0 hl0) ?_
  rintro _ _ ⟨s0, k0, rfl, e0, l0_, m0, rfl⟩
  refine at_d rfl rfl (opr_move rfl rfl) ?_
  refine at_d rfl rfl (opr_extract rfl rfl rfl) ?_
  refine at_d rfl rfl (opr_extract rfl rfl rfl) ?_
  refine at_d rfl rfl (opr_assign rfl rfl) ?_
  refine at_d rfl rfl (opr_assign rfl rfl) ?_
  refine at_nil ?_
  refine at_then ?_
  refine at_seq ?_
  refine at_region ?_
  refine at_d rfl rfl (opr_move rfl rfl) ?_
  refine at_d rfl rfl (opr_move rfl rfl) ?_
  refine at_d rfl rfl (opr_nilCheck rfl rfl) ?_
  refine at_d rfl rfl (opr_indexAddr (j := 1) rfl rfl rfl Tryd.underlying119 (by decide) size29 rfl) ?_
  refine at_d rfl rfl (opr_load1 (i := il) rfl rfl hl Tryd.underlying29 rfl rfl) ?_
  refine at_d rfl rfl (opr_move rfl rfl) ?_
  refine at_c rfl rfl (opr_Add64 rfl rfl rfl m0 hh1 hl1) ?_
  rintro _ _ ⟨s1, k1, rfl, e1, l1_, m1, rfl⟩
  refine at_d rfl rfl (opr_move rfl rfl) ?_
  refine at_d rfl rfl (opr_extract rfl rfl rfl) ?_
  refine at_d rfl rfl (opr_extract rfl rfl rfl) ?_
  refine at_d rfl rfl (opr_assign rfl rfl) ?_
  refine at_d rfl rfl (opr_assign rfl rfl) ?_
  refine at_nil ?_
  refine at_then ?_
  refine at_seq ?_
  refine at_region ?_
  refine at_d rfl rfl (opr_move rfl rfl) ?_
  refine at_d rfl rfl (opr_move rfl rfl) ?_
  refine at_d rfl rfl (opr_nilCheck rfl rfl) ?_
  refine at_d rfl rfl (opr_indexAddr (j := 2) rfl rfl rfl Tryd.underlying119 (by decide) size29 rfl) ?_
  refine at_d rfl rfl (opr_load1 (i := il) rfl rfl hl Tryd.underlying29 rfl rfl) ?_
  refine at_d rfl rfl (opr_move rfl rfl) ?_
  refine at_c rfl rfl (opr_Add64 rfl rfl rfl m1 hh2 hl2) ?_
  rintro _ _ ⟨s2, k2, rfl, e2, l2_, m2, rfl⟩
  refine at_d rfl rfl (opr_move rfl rfl) ?_
  refine at_d rfl rfl (opr_extract rfl rfl rfl) ?_
  refine at_d rfl rfl (opr_extract rfl rfl rfl) ?_
  refine at_d rfl rfl (opr_assign rfl rfl) ?_
  refine at_d rfl rfl (opr_assign rfl rfl) ?_
  refine at_nil ?_
  refine at_then ?_
  refine at_seq ?_
  refine at_region ?_
  refine at_d rfl rfl (opr_move rfl rfl) ?_
  refine at_d rfl rfl (opr_move rfl rfl) ?_
  refine at_d rfl rfl (opr_nilCheck rfl rfl) ?_
  refine at_d rfl rfl (opr_indexAddr (j := 3) rfl rfl rfl Tryd.underlying119 (by decide) size29 rfl) ?_
  refine at_d rfl rfl (opr_load1 (i := il) rfl rfl hl Tryd.underlying29 rfl rfl) ?_
  refine at_d rfl rfl (opr_move rfl rfl) ?_
  refine at_c rfl rfl (opr_Add64 rfl rfl rfl m2 k3_lt hl3) ?_
  rintro _ _ ⟨s3, k3, rfl, e3, l3_, m3, rfl⟩
  refine at_d rfl rfl (opr_move rfl rfl) ?_
  refine at_d rfl rfl (opr_extract rfl rfl rfl) ?_
  refine at_d rfl rfl (opr_extract rfl rfl rfl) ?_
  refine at_d rfl rfl (opr_assign rfl rfl) ?_
  refine at_d rfl rfl (opr_assign rfl rfl) ?_
  refine at_nil ?_
  refine at_then ?_
  refine at_seq ?_
  refine at_region ?_
  refine at_d rfl rfl (opr_move rfl rfl) ?_
  refine at_d rfl rfl (opr_move rfl rfl) ?_
  refine at_d rfl rfl (opr_nilCheck rfl rfl) ?_
  refine at_d rfl rfl (opr_indexAddr (j := 4) rfl rfl rfl Tryd.underlying119 (by decide) size29 rfl) ?_
  refine at_d rfl rfl (opr_load1 (i := il) rfl rfl hl Tryd.underlying29 rfl rfl) ?_
  refine at_d rfl rfl (opr_move rfl rfl) ?_
  refine at_c rfl rfl (opr_Add64 rfl rfl rfl m3 (k4_lt hh3) hl4) ?_
  rintro _ _ ⟨s4, k4, rfl, e4, l4_, m4, rfl⟩
  refine at_d rfl rfl (opr_move rfl rfl) ?_
  refine at_d rfl rfl (opr_extract rfl rfl rfl) ?_
  refine at_d rfl rfl (opr_extract rfl rfl rfl) ?_
  refine at_d rfl rfl (opr_assign rfl rfl) ?_
  refine at_d rfl rfl (opr_assign rfl rfl) ?_
  refine at_nil ?_
  refine at_then ?_
  refine at_seq ?_
  refine at_region ?_
  refine at_d rfl rfl (opr_move rfl rfl) ?_
  refine at_d rfl rfl (opr_move rfl rfl) ?_
  refine at_d rfl rfl (opr_nilCheck rfl rfl) ?_
  refine at_d rfl rfl (opr_indexAddr (j := 5) rfl rfl rfl Tryd.underlying119 (by decide) size29 rfl) ?_
  refine at_d rfl rfl (opr_load1 (i := il) rfl rfl hl Tryd.underlying29 rfl rfl) ?_
  refine at_d rfl rfl (opr_move rfl rfl) ?_
  refine at_c rfl rfl (opr_Add64 rfl rfl rfl m4 (k4_lt hh4) hl5) ?_
  rintro _ _ ⟨s5, k5, rfl, e5, l5_, m5, rfl⟩
  refine at_d rfl rfl (opr_move rfl rfl) ?_
  refine at_d rfl rfl (opr_extract rfl rfl rfl) ?_
  refine at_d rfl rfl (opr_extract rfl rfl rfl) ?_
  refine at_d rfl rfl (opr_assign rfl rfl) ?_
  refine at_d rfl rfl (opr_assign rfl rfl) ?_
  refine at_nil ?_
  refine at_then ?_
  refine at_seq ?_
  refine at_region ?_
  refine at_d rfl rfl (opr_move rfl rfl) ?_
  refine at_d rfl rfl (opr_move rfl rfl) ?_
  refine at_d rfl rfl (opr_nilCheck rfl rfl) ?_
  refine at_d rfl rfl (opr_indexAddr (j := 6) rfl rfl rfl Tryd.underlying119 (by decide) size29 rfl) ?_
  refine at_d rfl rfl (opr_load1 (i := il) rfl rfl hl Tryd.underlying29 rfl rfl) ?_
  refine at_d rfl rfl (opr_move rfl rfl) ?_
  refine at_c rfl rfl (opr_Add64 rfl rfl rfl m5 (k4_lt hh5) hl6) ?_
  rintro _ _ ⟨s6, k6, rfl, e6, l6_, m6, rfl⟩
  refine at_d rfl rfl (opr_move rfl rfl) ?_
  refine at_d rfl rfl (opr_extract rfl rfl rfl) ?_
  refine at_d rfl rfl (opr_extract rfl rfl rfl) ?_
  refine at_d rfl rfl (opr_assign rfl rfl) ?_
  refine at_d rfl rfl (opr_assign rfl rfl) ?_
  refine at_nil ?_
  refine at_then ?_
  refine at_seq ?_
  refine at_region ?_
  refine at_d rfl rfl (opr_move rfl rfl) ?_
  refine at_d rfl rfl (opr_move rfl rfl) ?_
  refine at_c rfl rfl (opr_Add64 rfl rfl rfl m6 (k7_lt hh6) (by decide)) ?_
  rintro _ _ ⟨s7, k7, rfl, e7, l7_, m7, rfl⟩
  refine at_d rfl rfl (opr_move rfl rfl) ?_
  refine at_d rfl rfl (opr_extract rfl rfl rfl) ?_
  refine at_d rfl rfl (opr_extract rfl rfl rfl) ?_
  refine at_d rfl rfl (opr_assign rfl rfl) ?_
  refine at_d rfl rfl (opr_assign rfl rfl) ?_
  refine at_nil ?_
  refine at_then ?_
  refine at_seq ?_
  refine at_draw (by kernel_rfl) (by kernel_rfl) (by kernel_rfl) (List.cons_ne_nil _ _) ?_
  refine dr_op rfl rfl (opr_move rfl rfl) ?_
  refine dr_op rfl rfl (opr_nilCheck rfl rfl) ?_
  refine dr_op rfl rfl (opr_indexAddr (j := 3) rfl rfl rfl Tryd.underlying119 (by decide) size29 rfl) ?_
  refine dr_op rfl rfl (opr_load1 (i := ih) rfl rfl hh Tryd.underlying29 rfl rfl) ?_
  refine dr_op rfl rfl (opr_shr64 rfl rfl rfl (by decide)) ?_
  refine dr_op rfl rfl (opr_move rfl rfl) ?_
  refine dr_op rfl rfl (opr_nilCheck rfl rfl) ?_
  refine dr_op rfl rfl (opr_indexAddr (j := 4) rfl rfl rfl Tryd.underlying119 (by decide) size29 rfl) ?_
  refine dr_op rfl rfl (opr_load1 (i := ih) rfl rfl hh Tryd.underlying29 rfl rfl) ?_
  refine dr_op rfl rfl (opr_shl64 rfl rfl rfl (by decide)) ?_
  refine dr_op rfl rfl (opr_eq (opr_or64 rfl rfl rfl (Nat.lt_of_le_of_lt (Nat.div_le_self _ _) hh3) (Nat.mod_lt _ (by decide))) (u64_eq (q_eq hh3))) ?_
  refine dr_last rfl rfl (opr_assign rfl rfl) ?_
  refine at_then ?_
  refine at_seq ?_
  refine at_draw (by kernel_rfl) (by kernel_rfl) (by kernel_rfl) (List.cons_ne_nil _ _) ?_
  refine dr_op rfl rfl (opr_move rfl rfl) ?_
  refine dr_op rfl rfl (opr_nilCheck rfl rfl) ?_
  refine dr_op rfl rfl (opr_indexAddr (j := 4) rfl rfl rfl Tryd.underlying119 (by decide) size29 rfl) ?_
  refine dr_op rfl rfl (opr_load1 (i := ih) rfl rfl hh Tryd.underlying29 rfl rfl) ?_
  refine dr_op rfl rfl (opr_shr64 rfl rfl rfl (by decide)) ?_
  refine dr_op rfl rfl (opr_move rfl rfl) ?_
  refine dr_op rfl rfl (opr_nilCheck rfl rfl) ?_
  refine dr_op rfl rfl (opr_indexAddr (j := 5) rfl rfl rfl Tryd.underlying119 (by decide) size29 rfl) ?_
  refine dr_op rfl rfl (opr_load1 (i := ih) rfl rfl hh Tryd.underlying29 rfl rfl) ?_
  refine dr_op rfl rfl (opr_shl64 rfl rfl rfl (by decide)) ?_
  refine dr_op rfl rfl (opr_eq (opr_or64 rfl rfl rfl (Nat.lt_of_le_of_lt (Nat.div_le_self _ _) hh4) (Nat.mod_lt _ (by decide))) (u64_eq (q_eq hh4))) ?_
  refine dr_last rfl rfl (opr_assign rfl rfl) ?_
  refine at_then ?_
  refine at_seq ?_
  refine at_draw (by kernel_rfl) (by kernel_rfl) (by kernel_rfl) (List.cons_ne_nil _ _) ?_
  refine dr_op rfl rfl (opr_move rfl rfl) ?_
  refine dr_op rfl rfl (opr_nilCheck rfl rfl) ?_
  refine dr_op rfl rfl (opr_indexAddr (j := 5) rfl rfl rfl Tryd.underlying119 (by decide) size29 rfl) ?_
  refine dr_op rfl rfl (opr_load1 (i := ih) rfl rfl hh Tryd.underlying29 rfl rfl) ?_
  refine dr_op rfl rfl (opr_shr64 rfl rfl rfl (by decide)) ?_
  refine dr_op rfl rfl (opr_move rfl rfl) ?_
  refine dr_op rfl rfl (opr_nilCheck rfl rfl) ?_
  refine dr_op rfl rfl (opr_indexAddr (j := 6) rfl rfl rfl Tryd.underlying119 (by decide) size29 rfl) ?_
  refine dr_op rfl rfl (opr_load1 (i := ih) rfl rfl hh Tryd.underlying29 rfl rfl) ?_
  refine dr_op rfl rfl (opr_shl64 rfl rfl rfl (by decide)) ?_
  refine dr_op rfl rfl (opr_eq (opr_or64 rfl rfl rfl (Nat.lt_of_le_of_lt (Nat.div_le_self _ _) hh5) (Nat.mod_lt _ (by decide))) (u64_eq (q_eq hh5))) ?_
  refine dr_last rfl rfl (opr_assign rfl rfl) ?_
  refine at_then ?_
  refine at_seq ?_
  refine at_draw (by kernel_rfl) (by kernel_rfl) (by kernel_rfl) (List.cons_ne_nil _ _) ?_
  refine dr_op rfl rfl (opr_move rfl rfl) ?_
  refine dr_op rfl rfl (opr_nilCheck rfl rfl) ?_
  refine dr_op rfl rfl (opr_indexAddr (j := 6) rfl rfl rfl Tryd.underlying119 (by decide) size29 rfl) ?_
  refine dr_op rfl rfl (opr_load1 (i := ih) rfl rfl hh Tryd.underlying29 rfl rfl) ?_
  refine dr_op rfl rfl (opr_shr64 rfl rfl rfl (by decide)) ?_
  refine dr_op rfl rfl (opr_move rfl rfl) ?_
  refine dr_op rfl rfl (opr_nilCheck rfl rfl) ?_
  refine dr_op rfl rfl (opr_indexAddr (j := 0) rfl rfl rfl Tryd.underlying119 (by decide) size29 rfl) ?_
  refine dr_op rfl rfl (opr_load1 (i := ih) rfl rfl hh Tryd.underlying29 rfl rfl) ?_
  refine dr_op rfl rfl (opr_shl64 rfl rfl rfl (by decide)) ?_
  refine dr_op rfl rfl (opr_eq (opr_or64 rfl rfl rfl (Nat.lt_of_le_of_lt (Nat.div_le_self _ _) hh6) (Nat.mod_lt _ (by decide))) (u64_eq (q_eq hh6))) ?_
  refine dr_last rfl rfl (opr_assign rfl rfl) ?_
  refine at_then ?_
  refine at_seq ?_
  refine at_draw (by kernel_rfl) (by kernel_rfl) (by kernel_rfl) (List.cons_ne_nil _ _) ?_
  refine dr_op rfl rfl (opr_move rfl rfl) ?_
  refine dr_op rfl rfl (opr_nilCheck rfl rfl) ?_
  refine dr_op rfl rfl (opr_indexAddr (j := 0) rfl rfl rfl Tryd.underlying119 (by decide) size29 rfl) ?_
  refine dr_op rfl rfl (opr_load1 (i := ih) rfl rfl hh Tryd.underlying29 rfl rfl) ?_
  refine dr_op rfl rfl (opr_shr64 rfl rfl rfl (by decide)) ?_
  refine dr_op rfl rfl (opr_move rfl rfl) ?_
  refine dr_op rfl rfl (opr_nilCheck rfl rfl) ?_
  refine dr_op rfl rfl (opr_indexAddr (j := 1) rfl rfl rfl Tryd.underlying119 (by decide) size29 rfl) ?_
  refine dr_op rfl rfl (opr_load1 (i := ih) rfl rfl hh Tryd.underlying29 rfl rfl) ?_
  refine dr_op rfl rfl (opr_shl64 rfl rfl rfl (by decide)) ?_
  refine dr_op rfl rfl (opr_eq (opr_or64 rfl rfl rfl (Nat.lt_of_le_of_lt (Nat.div_le_self _ _) hh0) (Nat.mod_lt _ (by decide))) (u64_eq (q_eq hh0))) ?_
  refine dr_last rfl rfl (opr_assign rfl rfl) ?_
  refine at_then ?_
  refine at_seq ?_
  refine at_draw (by kernel_rfl) (by kernel_rfl) (by kernel_rfl) (List.cons_ne_nil _ _) ?_
  refine dr_op rfl rfl (opr_move rfl rfl) ?_
  refine dr_op rfl rfl (opr_nilCheck rfl rfl) ?_
  refine dr_op rfl rfl (opr_indexAddr (j := 1) rfl rfl rfl Tryd.underlying119 (by decide) size29 rfl) ?_
  refine dr_op rfl rfl (opr_load1 (i := ih) rfl rfl hh Tryd.underlying29 rfl rfl) ?_
  refine dr_op rfl rfl (opr_shr64 rfl rfl rfl (by decide)) ?_
  refine dr_op rfl rfl (opr_move rfl rfl) ?_
  refine dr_op rfl rfl (opr_nilCheck rfl rfl) ?_
  refine dr_op rfl rfl (opr_indexAddr (j := 2) rfl rfl rfl Tryd.underlying119 (by decide) size29 rfl) ?_
  refine dr_op rfl rfl (opr_load1 (i := ih) rfl rfl hh Tryd.underlying29 rfl rfl) ?_
  refine dr_op rfl rfl (opr_shl64 rfl rfl rfl (by decide)) ?_
  refine dr_op rfl rfl (opr_eq (opr_or64 rfl rfl rfl (Nat.lt_of_le_of_lt (Nat.div_le_self _ _) hh1) (Nat.mod_lt _ (by decide))) (u64_eq (q_eq hh1))) ?_
  refine dr_last rfl rfl (opr_assign rfl rfl) ?_
  refine at_then ?_
  refine at_seq ?_
  refine at_draw (by kernel_rfl) (by kernel_rfl) (by kernel_rfl) (List.cons_ne_nil _ _) ?_
  refine dr_op rfl rfl (opr_move rfl rfl) ?_
  refine dr_op rfl rfl (opr_nilCheck rfl rfl) ?_
  refine dr_op rfl rfl (opr_indexAddr (j := 2) rfl rfl rfl Tryd.underlying119 (by decide) size29 rfl) ?_
  refine dr_op rfl rfl (opr_load1 (i := ih) rfl rfl hh Tryd.underlying29 rfl rfl) ?_
  refine dr_op rfl rfl (opr_shr64 rfl rfl rfl (by decide)) ?_
  refine dr_op rfl rfl (opr_move rfl rfl) ?_
  refine dr_op rfl rfl (opr_nilCheck rfl rfl) ?_
  refine dr_op rfl rfl (opr_indexAddr (j := 3) rfl rfl rfl Tryd.underlying119 (by decide) size29 rfl) ?_
  refine dr_op rfl rfl (opr_load1 (i := ih) rfl rfl hh Tryd.underlying29 rfl rfl) ?_
  refine dr_op rfl rfl (opr_shl64 rfl rfl rfl (by decide)) ?_
  refine dr_op rfl rfl (opr_eq (opr_or64 rfl rfl rfl (Nat.lt_of_le_of_lt (Nat.div_le_self _ _) hh2) (Nat.mod_lt _ (by decide))) (u64_eq (q_eq hh2))) ?_
  refine dr_last rfl rfl (opr_assign rfl rfl) ?_
  refine at_then ?_
  refine at_seq ?_
  refine at_region ?_
  refine at_d rfl rfl (opr_move rfl rfl) ?_
  refine at_d rfl rfl (opr_move rfl rfl) ?_
  refine at_c rfl rfl (opr_Add64 rfl rfl rfl (by decide) l0_ (q_lt hh3)) ?_
  rintro _ _ ⟨s8, k8, rfl, e8, l8_, m8, rfl⟩
  refine at_d rfl rfl (opr_move rfl rfl) ?_
  refine at_d rfl rfl (opr_extract rfl rfl rfl) ?_
  refine at_d rfl rfl (opr_extract rfl rfl rfl) ?_
  refine at_d rfl rfl (opr_assign rfl rfl) ?_
  refine at_d rfl rfl (opr_assign rfl rfl) ?_
  refine at_nil ?_
  refine at_then ?_
  refine at_seq ?_
  refine at_region ?_
  refine at_d rfl rfl (opr_move rfl rfl) ?_
  refine at_d rfl rfl (opr_move rfl rfl) ?_
  refine at_d rfl rfl (opr_move rfl rfl) ?_
  refine at_c rfl rfl (opr_Add64 rfl rfl rfl m8 l1_ (q_lt hh4)) ?_
  rintro _ _ ⟨s9, k9, rfl, e9, l9_, m9, rfl⟩
  refine at_d rfl rfl (opr_move rfl rfl) ?_
  refine at_d rfl rfl (opr_extract rfl rfl rfl) ?_
  refine at_d rfl rfl (opr_extract rfl rfl rfl) ?_
  refine at_d rfl rfl (opr_assign rfl rfl) ?_
  refine at_d rfl rfl (opr_assign rfl rfl) ?_
  refine at_nil ?_
  refine at_then ?_
  refine at_seq ?_
  refine at_region ?_
  refine at_d rfl rfl (opr_move rfl rfl) ?_
  refine at_d rfl rfl (opr_move rfl rfl) ?_
  refine at_d rfl rfl (opr_move rfl rfl) ?_
  refine at_c rfl rfl (opr_Add64 rfl rfl rfl m9 l2_ (q_lt hh5)) ?_
  rintro _ _ ⟨s10, k10, rfl, e10, l10_, m10, rfl⟩
  refine at_d rfl rfl (opr_move rfl rfl) ?_
  refine at_d rfl rfl (opr_extract rfl rfl rfl) ?_
  refine at_d rfl rfl (opr_extract rfl rfl rfl) ?_
  refine at_d rfl rfl (opr_assign rfl rfl) ?_
  refine at_d rfl rfl (opr_assign rfl rfl) ?_
  refine at_nil ?_
  refine at_then ?_
  refine at_seq ?_
  refine at_region ?_
  refine at_d rfl rfl (opr_move rfl rfl) ?_
  refine at_d rfl rfl (opr_move rfl rfl) ?_
  refine at_d rfl rfl (opr_move rfl rfl) ?_
  refine at_c rfl rfl (opr_Add64 rfl rfl rfl m10 l3_ (q_lt hh6)) ?_
  rintro _ _ ⟨s11, k11, rfl, e11, l11_, m11, rfl⟩
  refine at_d rfl rfl (opr_move rfl rfl) ?_
  refine at_d rfl rfl (opr_extract rfl rfl rfl) ?_
  refine at_d rfl rfl (opr_extract rfl rfl rfl) ?_
  refine at_d rfl rfl (opr_assign rfl rfl) ?_
  refine at_d rfl rfl (opr_assign rfl rfl) ?_
  refine at_nil ?_
  refine at_then ?_
  refine at_seq ?_
  refine at_region ?_
  refine at_d rfl rfl (opr_move rfl rfl) ?_
  refine at_d rfl rfl (opr_move rfl rfl) ?_
  refine at_d rfl rfl (opr_move rfl rfl) ?_
  refine at_c rfl rfl (opr_Add64 rfl rfl rfl m11 l4_ (q_lt hh0)) ?_
  rintro _ _ ⟨s12, k12, rfl, e12, l12_, m12, rfl⟩
  refine at_d rfl rfl (opr_move rfl rfl) ?_
  refine at_d rfl rfl (opr_extract rfl rfl rfl) ?_
  refine at_d rfl rfl (opr_extract rfl rfl rfl) ?_
  refine at_d rfl rfl (opr_assign rfl rfl) ?_
  refine at_d rfl rfl (opr_assign rfl rfl) ?_
  refine at_nil ?_
  refine at_then ?_
  refine at_seq ?_
  refine at_region ?_
  refine at_d rfl rfl (opr_move rfl rfl) ?_
  refine at_d rfl rfl (opr_move rfl rfl) ?_
  refine at_d rfl rfl (opr_move rfl rfl) ?_
  refine at_c rfl rfl (opr_Add64 rfl rfl rfl m12 l5_ (q_lt hh1)) ?_
  rintro _ _ ⟨s13, k13, rfl, e13, l13_, m13, rfl⟩
  refine at_d rfl rfl (opr_move rfl rfl) ?_
  refine at_d rfl rfl (opr_extract rfl rfl rfl) ?_
  refine at_d rfl rfl (opr_extract rfl rfl rfl) ?_
  refine at_d rfl rfl (opr_assign rfl rfl) ?_
  refine at_d rfl rfl (opr_assign rfl rfl) ?_
  refine at_nil ?_
  refine at_then ?_
  refine at_seq ?_
  refine at_region ?_
  refine at_d rfl rfl (opr_move rfl rfl) ?_
  refine at_d rfl rfl (opr_move rfl rfl) ?_
  refine at_d rfl rfl (opr_move rfl rfl) ?_
  refine at_c rfl rfl (opr_Add64 rfl rfl rfl m13 l6_ (q_lt hh2)) ?_
  rintro _ _ ⟨s14, k14, rfl, e14, l14_, m14, rfl⟩
  refine at_d rfl rfl (opr_move rfl rfl) ?_
  refine at_d rfl rfl (opr_extract rfl rfl rfl) ?_
  refine at_d rfl rfl (opr_extract rfl rfl rfl) ?_
  refine at_d rfl rfl (opr_assign rfl rfl) ?_
  refine at_d rfl rfl (opr_assign rfl rfl) ?_
  refine at_nil ?_
  refine at_then ?_
  refine at_seq ?_
  refine at_region ?_
  refine at_d rfl rfl (opr_move rfl rfl) ?_
  refine at_d rfl rfl (opr_move rfl rfl) ?_
  refine at_c rfl rfl (opr_Add64 rfl rfl rfl m14 l7_ (by decide)) ?_
  rintro _ _ ⟨s15, k15, rfl, e15, l15_, m15, rfl⟩
  refine at_d rfl rfl (opr_move rfl rfl) ?_
  refine at_d rfl rfl (opr_extract rfl rfl rfl) ?_
  refine at_d rfl rfl (opr_extract rfl rfl rfl) ?_
  refine at_d rfl rfl (opr_assign rfl rfl) ?_
  refine at_nil ?_
  refine at_then ?_
  refine at_seq ?_
  refine at_region ?_
  refine at_d rfl rfl (opr_move rfl rfl) ?_
  refine at_d rfl rfl (opr_move rfl rfl) ?_
  refine at_c rfl rfl (opr_Add64 rfl rfl rfl (by decide) l8_ l15_) ?_
  rintro _ _ ⟨s16, k16, rfl, e16, l16_, m16, rfl⟩
  refine at_d rfl rfl (opr_move rfl rfl) ?_
  refine at_d rfl rfl (opr_extract rfl rfl rfl) ?_
  refine at_d rfl rfl (opr_extract rfl rfl rfl) ?_
  refine at_d rfl rfl (opr_assign rfl rfl) ?_
  refine at_d rfl rfl (opr_assign rfl rfl) ?_
  refine at_nil ?_
  refine at_then ?_
  refine at_seq ?_
  refine at_region ?_
  refine at_d rfl rfl (opr_move rfl rfl) ?_
  refine at_d rfl rfl (opr_move rfl rfl) ?_
  refine at_c rfl rfl (opr_Add64 rfl rfl rfl m16 l9_ (by decide)) ?_
  rintro _ _ ⟨s17, k17, rfl, e17, l17_, m17, rfl⟩
  refine at_d rfl rfl (opr_move rfl rfl) ?_
  refine at_d rfl rfl (opr_extract rfl rfl rfl) ?_
  refine at_d rfl rfl (opr_extract rfl rfl rfl) ?_
  refine at_d rfl rfl (opr_assign rfl rfl) ?_
  refine at_d rfl rfl (opr_assign rfl rfl) ?_
  refine at_nil ?_
  refine at_then ?_
  refine at_seq ?_
  refine at_region ?_
  refine at_d rfl rfl (opr_move rfl rfl) ?_
  refine at_d rfl rfl (opr_move rfl rfl) ?_
  refine at_c rfl rfl (opr_Add64 rfl rfl rfl m17 l10_ (by decide)) ?_
  rintro _ _ ⟨s18, k18, rfl, e18, l18_, m18, rfl⟩
  refine at_d rfl rfl (opr_move rfl rfl) ?_
  refine at_d rfl rfl (opr_extract rfl rfl rfl) ?_
  refine at_d rfl rfl (opr_extract rfl rfl rfl) ?_
  refine at_d rfl rfl (opr_assign rfl rfl) ?_
  refine at_d rfl rfl (opr_assign rfl rfl) ?_
  refine at_nil ?_
  refine at_then ?_
  refine at_seq ?_
  refine at_region ?_
  refine at_d rfl rfl (opr_move rfl rfl) ?_
  refine at_d rfl rfl (opr_move rfl rfl) ?_
  refine at_d rfl rfl (opr_shl64 rfl rfl rfl (by decide)) ?_
  refine at_d rfl rfl (opr_move rfl rfl) ?_
  refine at_c rfl rfl (opr_Add64 rfl rfl rfl m18 l11_ (Nat.mod_lt _ (by decide))) ?_
  rintro _ _ ⟨s19, k19, rfl, e19, l19_, m19, rfl⟩
  refine at_d rfl rfl (opr_move rfl rfl) ?_
  refine at_d rfl rfl (opr_extract rfl rfl rfl) ?_
  refine at_d rfl rfl (opr_extract rfl rfl rfl) ?_
  refine at_d rfl rfl (opr_assign rfl rfl) ?_
  refine at_d rfl rfl (opr_assign rfl rfl) ?_
  refine at_nil ?_
  refine at_then ?_
  refine at_seq ?_
  refine at_region ?_
  refine at_d rfl rfl (opr_move rfl rfl) ?_
  refine at_d rfl rfl (opr_move rfl rfl) ?_
  refine at_c rfl rfl (opr_Add64 rfl rfl rfl m19 l12_ (by decide)) ?_
  rintro _ _ ⟨s20, k20, rfl, e20, l20_, m20, rfl⟩
  refine at_d rfl rfl (opr_move rfl rfl) ?_
  refine at_d rfl rfl (opr_extract rfl rfl rfl) ?_
  refine at_d rfl rfl (opr_extract rfl rfl rfl) ?_
  refine at_d rfl rfl (opr_assign rfl rfl) ?_
  refine at_d rfl rfl (opr_assign rfl rfl) ?_
  refine at_nil ?_
  refine at_then ?_
  refine at_seq ?_
  refine at_region ?_
  refine at_d rfl rfl (opr_move rfl rfl) ?_
  refine at_d rfl rfl (opr_move rfl rfl) ?_
  refine at_c rfl rfl (opr_Add64 rfl rfl rfl m20 l13_ (by decide)) ?_
  rintro _ _ ⟨s21, k21, rfl, e21, l21_, m21, rfl⟩
  refine at_d rfl rfl (opr_move rfl rfl) ?_
  refine at_d rfl rfl (opr_extract rfl rfl rfl) ?_
  refine at_d rfl rfl (opr_extract rfl rfl rfl) ?_
  refine at_d rfl rfl (opr_assign rfl rfl) ?_
  refine at_d rfl rfl (opr_assign rfl rfl) ?_
  refine at_nil ?_
  refine at_then ?_
  refine at_seq ?_
  refine at_region ?_
  refine at_d rfl rfl (opr_move rfl rfl) ?_
  refine at_d rfl rfl (opr_move rfl rfl) ?_
  refine at_c rfl rfl (opr_Add64 rfl rfl rfl m21 l14_ (by decide)) ?_
  rintro _ _ ⟨s22, k22, rfl, e22, l22_, m22, rfl⟩
  refine at_d rfl rfl (opr_move rfl rfl) ?_
  refine at_d rfl rfl (opr_extract rfl rfl rfl) ?_
  refine at_d rfl rfl (opr_extract rfl rfl rfl) ?_
  refine at_d rfl rfl (opr_assign rfl rfl) ?_
  refine at_d rfl rfl (opr_assign rfl rfl) ?_
  refine at_nil ?_
  refine at_then ?_
  refine at_seq ?_
  refine at_region ?_
  refine at_d rfl rfl (opr_move rfl rfl) ?_
  refine at_d rfl rfl (opr_move rfl rfl) ?_
  refine at_c rfl rfl (opr_Add64 rfl rfl rfl (by decide) l16_ (Nat.lt_of_le_of_lt m22 (by decide))) ?_
  rintro _ _ ⟨s23, k23, rfl, e23, l23_, m23, rfl⟩
  refine at_d rfl rfl (opr_move rfl rfl) ?_
  refine at_d rfl rfl (opr_extract rfl rfl rfl) ?_
  refine at_d rfl rfl (opr_extract rfl rfl rfl) ?_
  refine at_d rfl rfl (opr_assign rfl rfl) ?_
  refine at_d rfl rfl (opr_assign rfl rfl) ?_
  refine at_nil ?_
  refine at_then ?_
  refine at_seq ?_
  refine at_region ?_
  refine at_d rfl rfl (opr_move rfl rfl) ?_
  refine at_d rfl rfl (opr_move rfl rfl) ?_
  refine at_c rfl rfl (opr_Add64 rfl rfl rfl m23 l17_ (by decide)) ?_
  rintro _ _ ⟨s24, k24, rfl, e24, l24_, m24, rfl⟩
  refine at_d rfl rfl (opr_move rfl rfl) ?_
  refine at_d rfl rfl (opr_extract rfl rfl rfl) ?_
  refine at_d rfl rfl (opr_extract rfl rfl rfl) ?_
  refine at_d rfl rfl (opr_assign rfl rfl) ?_
  refine at_d rfl rfl (opr_assign rfl rfl) ?_
  refine at_nil ?_
  refine at_then ?_
  refine at_seq ?_
  refine at_region ?_
  refine at_d rfl rfl (opr_move rfl rfl) ?_
  refine at_d rfl rfl (opr_move rfl rfl) ?_
  refine at_c rfl rfl (opr_Add64 rfl rfl rfl m24 l18_ (by decide)) ?_
  rintro _ _ ⟨s25, k25, rfl, e25, l25_, m25, rfl⟩
  refine at_d rfl rfl (opr_move rfl rfl) ?_
  refine at_d rfl rfl (opr_extract rfl rfl rfl) ?_
  refine at_d rfl rfl (opr_extract rfl rfl rfl) ?_
  refine at_d rfl rfl (opr_assign rfl rfl) ?_
  refine at_d rfl rfl (opr_assign rfl rfl) ?_
  refine at_nil ?_
  refine at_then ?_
  refine at_seq ?_
  refine at_region ?_
  refine at_d rfl rfl (opr_move rfl rfl) ?_
  refine at_d rfl rfl (opr_move rfl rfl) ?_
  refine at_d rfl rfl (opr_shl64 rfl rfl rfl (by decide)) ?_
  refine at_d rfl rfl (opr_move rfl rfl) ?_
  refine at_c rfl rfl (opr_Add64 rfl rfl rfl m25 l19_ (Nat.mod_lt _ (by decide))) ?_
  rintro _ _ ⟨s26, k26, rfl, e26, l26_, m26, rfl⟩
  refine at_d rfl rfl (opr_move rfl rfl) ?_
  refine at_d rfl rfl (opr_extract rfl rfl rfl) ?_
  refine at_d rfl rfl (opr_extract rfl rfl rfl) ?_
  refine at_d rfl rfl (opr_assign rfl rfl) ?_
  refine at_d rfl rfl (opr_assign rfl rfl) ?_
  refine at_nil ?_
  refine at_then ?_
  refine at_seq ?_
  refine at_region ?_
  refine at_d rfl rfl (opr_move rfl rfl) ?_
  refine at_d rfl rfl (opr_move rfl rfl) ?_
  refine at_c rfl rfl (opr_Add64 rfl rfl rfl m26 l20_ (by decide)) ?_
  rintro _ _ ⟨s27, k27, rfl, e27, l27_, m27, rfl⟩
  refine at_d rfl rfl (opr_move rfl rfl) ?_
  refine at_d rfl rfl (opr_extract rfl rfl rfl) ?_
  refine at_d rfl rfl (opr_extract rfl rfl rfl) ?_
  refine at_d rfl rfl (opr_assign rfl rfl) ?_
  refine at_d rfl rfl (opr_assign rfl rfl) ?_
  refine at_nil ?_
  refine at_then ?_
  refine at_seq ?_
  refine at_region ?_
  refine at_d rfl rfl (opr_move rfl rfl) ?_
  refine at_d rfl rfl (opr_move rfl rfl) ?_
  refine at_c rfl rfl (opr_Add64 rfl rfl rfl m27 l21_ (by decide)) ?_
  rintro _ _ ⟨s28, k28, rfl, e28, l28_, m28, rfl⟩
  refine at_d rfl rfl (opr_move rfl rfl) ?_
  refine at_d rfl rfl (opr_extract rfl rfl rfl) ?_
  refine at_d rfl rfl (opr_extract rfl rfl rfl) ?_
  refine at_d rfl rfl (opr_assign rfl rfl) ?_
  refine at_d rfl rfl (opr_assign rfl rfl) ?_
  refine at_nil ?_
  refine at_then ?_
  refine at_seq ?_
  refine at_region ?_
  refine at_d rfl rfl (opr_move rfl rfl) ?_
  refine at_d rfl rfl (opr_move rfl rfl) ?_
  refine at_c rfl rfl (opr_Add64 rfl rfl rfl m28 l22_ (by decide)) ?_
  rintro _ _ ⟨s29, k29, rfl, e29, l29_, m29, rfl⟩
  refine at_d rfl rfl (opr_move rfl rfl) ?_
  refine at_d rfl rfl (opr_extract rfl rfl rfl) ?_
  refine at_d rfl rfl (opr_extract rfl rfl rfl) ?_
  refine at_d rfl rfl (opr_assign rfl rfl) ?_
  refine at_nil ?_
  refine at_then ?_
  refine at_seq ?_
  refine at_draw (by kernel_rfl) (by kernel_rfl) (by kernel_rfl) (List.cons_ne_nil _ _) ?_
  refine dr_op rfl rfl (opr_load0 rfl rfl Tryd.underlying117 rfl size117) ?_
  refine dr_op rfl rfl (opr_move rfl rfl) ?_
  refine dr_op rfl rfl (opr_nilCheck rfl rfl) ?_
  refine dr_op rfl rfl (opr_slice (a := 0) (b := 8) (off' := oz) rfl rfl rfl rfl Tryd.underlying82 (by decide) (by decide) (by decide) size5 rfl) ?_
  refine dr_op rfl rfl (opr_move rfl rfl) ?_
  refine dr_last rfl rfl (opr_call rfl rfl rfl Tryd.func109 (by kernel_rfl) rfl (putUint64_ct hz (Nat.le_trans (by omega) hle) l23_ (by decide))) ?_
  refine at_then ?_
  refine at_seq ?_
  refine at_draw (by kernel_rfl) (by kernel_rfl) (by kernel_rfl) (List.cons_ne_nil _ _) ?_
  refine dr_op rfl rfl (opr_load0 rfl rfl Tryd.underlying117 rfl size117) ?_
  refine dr_op rfl rfl (opr_move rfl rfl) ?_
  refine dr_op rfl rfl (opr_nilCheck rfl rfl) ?_
  refine dr_op rfl rfl (opr_slice (a := 8) (b := 16) (off' := oz + 8) rfl rfl rfl rfl Tryd.underlying82 (by decide) (by decide) (by decide) size5 rfl) ?_
  refine dr_op rfl rfl (opr_move rfl rfl) ?_
  refine dr_last rfl rfl (opr_call rfl rfl rfl Tryd.func109 (by kernel_rfl) rfl (putUint64_ct (get_set hz) (Nat.le_trans (by omega) (ple hle (by omega))) l24_ (by decide))) ?_
  refine at_then ?_
  refine at_seq ?_
  refine at_draw (by kernel_rfl) (by kernel_rfl) (by kernel_rfl) (List.cons_ne_nil _ _) ?_
  refine dr_op rfl rfl (opr_load0 rfl rfl Tryd.underlying117 rfl size117) ?_
  refine dr_op rfl rfl (opr_move rfl rfl) ?_
  refine dr_op rfl rfl (opr_nilCheck rfl rfl) ?_
  refine dr_op rfl rfl (opr_slice (a := 16) (b := 24) (off' := oz + 16) rfl rfl rfl rfl Tryd.underlying82 (by decide) (by decide) (by decide) size5 rfl) ?_
  refine dr_op rfl rfl (opr_move rfl rfl) ?_
  refine dr_last rfl rfl (opr_call rfl rfl rfl Tryd.func109 (by kernel_rfl) rfl (putUint64_ct (get_set (get_set hz)) (Nat.le_trans (by omega) (ple (ple hle (by omega)) (by omega))) l25_ (by decide))) ?_
  refine at_then ?_
  refine at_seq ?_
  refine at_draw (by kernel_rfl) (by kernel_rfl) (by kernel_rfl) (List.cons_ne_nil _ _) ?_
  refine dr_op rfl rfl (opr_load0 rfl rfl Tryd.underlying117 rfl size117) ?_
  refine dr_op rfl rfl (opr_move rfl rfl) ?_
  refine dr_op rfl rfl (opr_nilCheck rfl rfl) ?_
  refine dr_op rfl rfl (opr_slice (a := 24) (b := 32) (off' := oz + 24) rfl rfl rfl rfl Tryd.underlying82 (by decide) (by decide) (by decide) size5 rfl) ?_
  refine dr_op rfl rfl (opr_move rfl rfl) ?_
  refine dr_last rfl rfl (opr_call rfl rfl rfl Tryd.func109 (by kernel_rfl) rfl (putUint64_ct (get_set (get_set (get_set hz))) (Nat.le_trans (by omega) (ple (ple (ple hle (by omega)) (by omega)) (by omega))) l26_ (by decide))) ?_
  refine at_then ?_
  refine at_seq ?_
  refine at_draw (by kernel_rfl) (by kernel_rfl) (by kernel_rfl) (List.cons_ne_nil _ _) ?_
  refine dr_op rfl rfl (opr_load0 rfl rfl Tryd.underlying117 rfl size117) ?_
  refine dr_op rfl rfl (opr_move rfl rfl) ?_
  refine dr_op rfl rfl (opr_nilCheck rfl rfl) ?_
  refine dr_op rfl rfl (opr_slice (a := 32) (b := 40) (off' := oz + 32) rfl rfl rfl rfl Tryd.underlying82 (by decide) (by decide) (by decide) size5 rfl) ?_
  refine dr_op rfl rfl (opr_move rfl rfl) ?_
  refine dr_last rfl rfl (opr_call rfl rfl rfl Tryd.func109 (by kernel_rfl) rfl (putUint64_ct (get_set (get_set (get_set (get_set hz)))) (Nat.le_trans (by omega) (ple (ple (ple (ple hle (by omega)) (by omega)) (by omega)) (by omega))) l27_ (by decide))) ?_
  refine at_then ?_
  refine at_seq ?_
  refine at_draw (by kernel_rfl) (by kernel_rfl) (by kernel_rfl) (List.cons_ne_nil _ _) ?_
  refine dr_op rfl rfl (opr_load0 rfl rfl Tryd.underlying117 rfl size117) ?_
  refine dr_op rfl rfl (opr_move rfl rfl) ?_
  refine dr_op rfl rfl (opr_nilCheck rfl rfl) ?_
  refine dr_op rfl rfl (opr_slice (a := 40) (b := 48) (off' := oz + 40) rfl rfl rfl rfl Tryd.underlying82 (by decide) (by decide) (by decide) size5 rfl) ?_
  refine dr_op rfl rfl (opr_move rfl rfl) ?_
  refine dr_last rfl rfl (opr_call rfl rfl rfl Tryd.func109 (by kernel_rfl) rfl (putUint64_ct (get_set (get_set (get_set (get_set (get_set hz))))) (Nat.le_trans (by omega) (ple (ple (ple (ple (ple hle (by omega)) (by omega)) (by omega)) (by omega)) (by omega))) l28_ (by decide))) ?_
  refine at_then ?_
  refine at_draw (by kernel_rfl) (by kernel_rfl) (by kernel_rfl) (List.cons_ne_nil _ _) ?_
  refine dr_op rfl rfl (opr_load0 rfl rfl Tryd.underlying117 rfl size117) ?_
  refine dr_op rfl rfl (opr_move rfl rfl) ?_
  refine dr_op rfl rfl (opr_nilCheck rfl rfl) ?_
  refine dr_op rfl rfl (opr_slice (a := 48) (b := 56) (off' := oz + 48) rfl rfl rfl rfl Tryd.underlying82 (by decide) (by decide) (by decide) size5 rfl) ?_
  refine dr_op rfl rfl (opr_move rfl rfl) ?_
  refine dr_last rfl rfl (opr_call rfl rfl rfl Tryd.func109 (by kernel_rfl) rfl (putUint64_ct (get_set (get_set (get_set (get_set (get_set (get_set hz)))))) (Nat.le_trans (by omega) (ple (ple (ple (ple (ple (ple hle (by omega)) (by omega)) (by omega)) (by omega)) (by omega)) (by omega))) l29_ (by decide))) ?_
  refine done_of (res0 rfl) ⟨_, dval7_lt l23_ l24_ l25_ l26_ l27_ l28_ l29_, ?_, rfl, put7 hkz hoz l23_ l24_ l25_ l26_ l27_ l28_ l29_⟩ (List.Sublist.refl _)
  have f1 := add_chain e0 e1 e2 e3 e4 e5 e6
  have f2 := add_chain e8 e9 e10 e11 e12 e13 e14
  have f3 := add_chain e16 e17 e18 e19 e20 e21 e22
  have f4 := add_chain e23 e24 e25 e26 e27 e28 e29
  have hk7 := k7_le hh6
  rw [fold3_words (m7_le m6 m14 hk7 e7 e15)] at f3
  rw [fold_words m22] at f4
  rw [fold_H (h0 := h0) (h1 := h1) (h2 := h2) (h3 := h3)]
  exact red_folds (dval7_lt hl0 hl1 hl2 hl3 hl4 hl5 hl6) (dval7_lt l0_ l1_ l2_ l3_ l4_ l5_ l6_) (dval7_lt l8_ l9_ l10_ l11_ l12_ l13_ l14_) (dval7_lt l16_ l17_ l18_ l19_ l20_ l21_ l22_) (dval7_lt l23_ l24_ l25_ l26_ l27_ l28_ l29_) fold_K fold_Q f1 f2 m6 m14 hk7 e7 e15 f3 m22 f4 m29

end Go.Proofs.YtjanppnnioeifaaDoor
