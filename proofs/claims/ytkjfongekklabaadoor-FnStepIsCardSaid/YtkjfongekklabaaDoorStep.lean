/- The ladder's step, of the package and of the reference. -/
import Derived.Test.YtkjfongekklabaaDoorEl
import Derived.Test.YtkjfongekklabaaDoorA24
import Derived.Test.YtkjfongekklabaaDoorMove
import Derived.Test.YtkjfongekklabaaDoorFill
namespace Go.Proofs.YtkjfongekklabaaDoor
open Go
set_option maxRecDepth 100000
theorem size39 : (Tryd.prog.info? 39).map (·.size) = some 140 := by kernel_rfl
theorem zero39 : (Tryd.prog.info? 39).bind (·.zero) = some (.agg (NN [0, 0, 0, 0, 0]).toArray) := by kernel_rfl
structure DblEl (x z r s : Fin pp) : Prop where
  h1 : r = (x + z) * (x + z) * ((x - z) * (x - z))
  h2 : s = ((x + z) * (x + z) - (x - z) * (x - z)) * ((x + z) * (x + z) + el 39081 * ((x + z) * (x + z) - (x - z) * (x - z)))
structure StepEl (x1 x2 z2 x3 z3 r1 r2 r3 r4 : Fin pp) : Prop where
  d : DblEl x2 z2 r1 r2
  h3 : r3 = ((x3 - z3) * (x2 + z2) + (x3 + z3) * (x2 - z2)) * ((x3 - z3) * (x2 + z2) + (x3 + z3) * (x2 - z2))
  h4 : r4 = x1 * (((x3 - z3) * (x2 + z2) - (x3 + z3) * (x2 - z2)) * ((x3 - z3) * (x2 + z2) - (x3 + z3) * (x2 - z2)))
theorem el_24 : el 39082 = el 39081 + 1 := by rw [← el_one, ← el_add]
theorem eq_of_el {a b : Nat} (ha : a < pp) (hb : b < pp) (h : el a = el b) : a = b := by
  have := el_eq.1 h
  rwa [Nat.mod_eq_of_lt ha, Nat.mod_eq_of_lt hb] at this
theorem add_neg (a b : Fin pp) : a + -b = a - b := by grind
theorem lt_pp (a : Nat) : a % pp < pp := Nat.mod_lt _ (by decide)
theorem built_nn (ps : List (Nat × Nat)) (h : (ps.all fun p => decide (p.1 < 5) && decide ((some (p.1 * 28, 28) : Option (Nat × Nat)) = some (28 * p.1, 28))) = true) : Tryd.prog.built 39 (ps.map fun p => (p.1, .agg (N p.2).toArray)) = some (NN (ps.foldl (fun l p => l.set p.1 p.2) [0, 0, 0, 0, 0])).toArray := by
  rw [built_arr Tryd.underlying39 zero39 size25]
  exact fillNN ps [0, 0, 0, 0, 0] h
def stepL (u0 u1 u2 u3 u4 : Nat) : List Nat := [(u0 % pp), ((((u1 + u2) % pp) * ((u1 + u2) % pp) % pp) * (((u1 + negp u2) % pp) * ((u1 + negp u2) % pp) % pp) % pp), ((((((u1 + u2) % pp) * ((u1 + u2) % pp) % pp) + negp (((u1 + negp u2) % pp) * ((u1 + negp u2) % pp) % pp)) % pp) * (((((u1 + u2) % pp) * ((u1 + u2) % pp) % pp) + (39081 * (((((u1 + u2) % pp) * ((u1 + u2) % pp) % pp) + negp (((u1 + negp u2) % pp) * ((u1 + negp u2) % pp) % pp)) % pp) % pp)) % pp) % pp), ((((((u3 + negp u4) % pp) * ((u1 + u2) % pp) % pp) + (((u3 + u4) % pp) * ((u1 + negp u2) % pp) % pp)) % pp) * (((((u3 + negp u4) % pp) * ((u1 + u2) % pp) % pp) + (((u3 + u4) % pp) * ((u1 + negp u2) % pp) % pp)) % pp) % pp), (u0 * ((((((u3 + negp u4) % pp) * ((u1 + u2) % pp) % pp) + negp (((u3 + u4) % pp) * ((u1 + negp u2) % pp) % pp)) % pp) * (((((u3 + negp u4) % pp) * ((u1 + u2) % pp) % pp) + negp (((u3 + u4) % pp) * ((u1 + negp u2) % pp) % pp)) % pp) % pp) % pp)]
theorem sStep0_ct {M : Mem} {u0 u1 u2 u3 u4 : Nat} (hu0 : u0 < RR) (hu1 : u1 < RR) (hu2 : u2 < RR) (hu3 : u3 < RR) (hu4 : u4 < RR) : Ct Tryd.prog 24 #[.agg (NN [u0, u1, u2, u3, u4]).toArray, .int .u64 0] M (Det (.agg (NN (stepL u0 u1 u2 u3 u4)).toArray) M) := by
  refine ct_of (vs := [.agg (NN [u0, u1, u2, u3, u4]).toArray, .int .u64 0]) Tryd.func24 rfl Tryd.ntmps24 rfl fun w0 => ?_
  refine at_seq ?_
  refine at_region ?_
  refine at_n rfl rfl (opr_box rfl rfl rfl) ?_
  intro g0
  refine at_n rfl rfl (opr_alloc rfl zero39 rfl) ?_
  intro g1
  refine at_nil ?_
  refine at_then ?_
  refine at_seq ?_
  refine at_seq ?_
  refine at_region ?_
  refine at_d rfl rfl (opr_move rfl rfl) ?_
  refine at_d rfl rfl (opr_binOp (v := .bool false) rfl rfl rfl (fun _ => rfl)) ?_
  refine at_nil ?_
  refine at_then ?_
  refine at_cond_false rfl ?_
  refine at_skip ?_
  refine at_then ?_
  refine at_seq ?_
  refine at_drawG (B := [⟨g1, 39, NN [0, 0, 0, 0, 0]⟩, ⟨g0, 39, NN [u0, u1, u2, u3, u4]⟩]) (E := [⟨.pure [], 0, [], .v (.pointer (some ⟨g0, 28, none⟩))⟩, ⟨.pure [1], 0, [], .v (.agg (N (u1)).toArray)⟩, ⟨.pure [], 0, [], .v (.pointer (some ⟨g0, 56, none⟩))⟩, ⟨.pure [1], 0, [], .v (.agg (N (u2)).toArray)⟩, ⟨.pure [], 0, [], .v (.agg (N (((u1 + u2) % pp))).toArray)⟩, ⟨.pure [], 0, [], .v (.pointer (some ⟨g0, 28, none⟩))⟩, ⟨.pure [1], 0, [], .v (.agg (N (u1)).toArray)⟩, ⟨.pure [], 0, [], .v (.pointer (some ⟨g0, 56, none⟩))⟩, ⟨.pure [1], 0, [], .v (.agg (N (u2)).toArray)⟩, ⟨.pure [], 0, [], .v (.agg (N (((u1 + negp u2) % pp))).toArray)⟩, ⟨.alloc, 25, N (0), .p 10 0⟩, ⟨.alloc, 25, N (0), .p 11 0⟩, ⟨.storeA 10, 0, N (((u1 + u2) % pp)), .v undef⟩, ⟨.storeA 11, 0, N (((u1 + negp u2) % pp)), .v undef⟩]) (by kernel_rfl) (by kernel_rfl) (by kernel_rfl) (fun γ0 => ?_)
  refine gs_pure rfl rfl (fun M' sB sT => ?_) ?_
  · exact opr_indexAddr (j := 1) rfl rfl rfl Tryd.underlying39 (by decide) size25 rfl
  refine gs_pure rfl rfl (fun M' sB sT => ?_) ?_
  · obtain ⟨iB1, hB1⟩ := sB 1 _ rfl rfl; exact opr_load (i := iB1) rfl rfl hB1 Tryd.underlying25 rfl size25 (N_length _) (NN_at (k := 1) rfl rfl rfl)
  refine gs_pure rfl rfl (fun M' sB sT => ?_) ?_
  · exact opr_indexAddr (j := 2) rfl rfl rfl Tryd.underlying39 (by decide) size25 rfl
  refine gs_pure rfl rfl (fun M' sB sT => ?_) ?_
  · obtain ⟨iB1, hB1⟩ := sB 1 _ rfl rfl; exact opr_load (i := iB1) rfl rfl hB1 Tryd.underlying25 rfl size25 (N_length _) (NN_at (k := 2) rfl rfl rfl)
  refine gs_pure rfl rfl (fun M' sB sT => ?_) ?_
  · exact opr_call rfl rfl rfl Tryd.func41 (by kernel_rfl) rfl (sAdd_ct hu1 hu2)
  refine gs_pure rfl rfl (fun M' sB sT => ?_) ?_
  · exact opr_indexAddr (j := 1) rfl rfl rfl Tryd.underlying39 (by decide) size25 rfl
  refine gs_pure rfl rfl (fun M' sB sT => ?_) ?_
  · obtain ⟨iB1, hB1⟩ := sB 1 _ rfl rfl; exact opr_load (i := iB1) rfl rfl hB1 Tryd.underlying25 rfl size25 (N_length _) (NN_at (k := 1) rfl rfl rfl)
  refine gs_pure rfl rfl (fun M' sB sT => ?_) ?_
  · exact opr_indexAddr (j := 2) rfl rfl rfl Tryd.underlying39 (by decide) size25 rfl
  refine gs_pure rfl rfl (fun M' sB sT => ?_) ?_
  · obtain ⟨iB1, hB1⟩ := sB 1 _ rfl rfl; exact opr_load (i := iB1) rfl rfl hB1 Tryd.underlying25 rfl size25 (N_length _) (NN_at (k := 2) rfl rfl rfl)
  refine gs_pure rfl rfl (fun M' sB sT => ?_) ?_
  · exact opr_call rfl rfl rfl Tryd.func42 (by kernel_rfl) rfl (sSub_ct hu1 hu2)
  refine gs_alloc rfl rfl (fun M' => opr_alloc rfl zero25 rfl) ?_
  refine gs_alloc rfl rfl (fun M' => opr_alloc rfl zero25 rfl) ?_
  refine gs_storeA rfl rfl rfl rfl rfl (fun M' j hj => opr_store (i := j) rfl rfl rfl rfl hj size25 (N_length _) (by rw [N_length]; decide) (N_flat _) N_over) ?_
  refine gs_storeA rfl rfl rfl rfl rfl (fun M' j hj => opr_store (i := j) rfl rfl rfl rfl hj size25 (N_length _) (by rw [N_length]; decide) (N_flat _) N_over) ?_
  refine gs_nil ?_
  refine (show At _ _ (⟨(γ0 11), 25, N (((u1 + negp u2) % pp))⟩ :: ⟨(γ0 10), 25, N (((u1 + u2) % pp))⟩ :: ⟨g1, 39, NN [0, 0, 0, 0, 0]⟩ :: ⟨g0, 39, NN [u0, u1, u2, u3, u4]⟩ :: _) _ from ?_)
  refine at_then ?_
  refine at_seq ?_
  refine at_drawG (B := [⟨(γ0 11), 25, N (((u1 + negp u2) % pp))⟩, ⟨(γ0 10), 25, N (((u1 + u2) % pp))⟩, ⟨g1, 39, NN [0, 0, 0, 0, 0]⟩, ⟨g0, 39, NN [u0, u1, u2, u3, u4]⟩]) (E := [⟨.pure [1], 0, [], .v (.agg (N (((u1 + u2) % pp))).toArray)⟩, ⟨.pure [1], 0, [], .v (.agg (N (((u1 + u2) % pp))).toArray)⟩, ⟨.pure [], 0, [], .v (.agg (N ((((u1 + u2) % pp) * ((u1 + u2) % pp) % pp))).toArray)⟩, ⟨.pure [0], 0, [], .v (.agg (N (((u1 + negp u2) % pp))).toArray)⟩, ⟨.pure [0], 0, [], .v (.agg (N (((u1 + negp u2) % pp))).toArray)⟩, ⟨.pure [], 0, [], .v (.agg (N ((((u1 + negp u2) % pp) * ((u1 + negp u2) % pp) % pp))).toArray)⟩, ⟨.alloc, 25, N (0), .p 6 0⟩, ⟨.alloc, 25, N (0), .p 7 0⟩, ⟨.storeA 6, 0, N ((((u1 + u2) % pp) * ((u1 + u2) % pp) % pp)), .v undef⟩, ⟨.storeA 7, 0, N ((((u1 + negp u2) % pp) * ((u1 + negp u2) % pp) % pp)), .v undef⟩]) (by kernel_rfl) (by kernel_rfl) (by kernel_rfl) (fun γ1 => ?_)
  refine gs_pure rfl rfl (fun M' sB sT => ?_) ?_
  · obtain ⟨iB1, hB1⟩ := sB 1 _ rfl rfl; exact opr_load (i := iB1) rfl rfl hB1 Tryd.underlying25 rfl size25 (N_length _) (N_at _)
  refine gs_pure rfl rfl (fun M' sB sT => ?_) ?_
  · obtain ⟨iB1, hB1⟩ := sB 1 _ rfl rfl; exact opr_load (i := iB1) rfl rfl hB1 Tryd.underlying25 rfl size25 (N_length _) (N_at _)
  refine gs_pure rfl rfl (fun M' sB sT => ?_) ?_
  · exact opr_call rfl rfl rfl Tryd.func22 (by kernel_rfl) rfl (sMul_ct (modp_lt _) (modp_lt _))
  refine gs_pure rfl rfl (fun M' sB sT => ?_) ?_
  · obtain ⟨iB0, hB0⟩ := sB 0 _ rfl rfl; exact opr_load (i := iB0) rfl rfl hB0 Tryd.underlying25 rfl size25 (N_length _) (N_at _)
  refine gs_pure rfl rfl (fun M' sB sT => ?_) ?_
  · obtain ⟨iB0, hB0⟩ := sB 0 _ rfl rfl; exact opr_load (i := iB0) rfl rfl hB0 Tryd.underlying25 rfl size25 (N_length _) (N_at _)
  refine gs_pure rfl rfl (fun M' sB sT => ?_) ?_
  · exact opr_call rfl rfl rfl Tryd.func22 (by kernel_rfl) rfl (sMul_ct (modp_lt _) (modp_lt _))
  refine gs_alloc rfl rfl (fun M' => opr_alloc rfl zero25 rfl) ?_
  refine gs_alloc rfl rfl (fun M' => opr_alloc rfl zero25 rfl) ?_
  refine gs_storeA rfl rfl rfl rfl rfl (fun M' j hj => opr_store (i := j) rfl rfl rfl rfl hj size25 (N_length _) (by rw [N_length]; decide) (N_flat _) N_over) ?_
  refine gs_storeA rfl rfl rfl rfl rfl (fun M' j hj => opr_store (i := j) rfl rfl rfl rfl hj size25 (N_length _) (by rw [N_length]; decide) (N_flat _) N_over) ?_
  refine gs_nil ?_
  refine (show At _ _ (⟨(γ1 7), 25, N ((((u1 + negp u2) % pp) * ((u1 + negp u2) % pp) % pp))⟩ :: ⟨(γ1 6), 25, N ((((u1 + u2) % pp) * ((u1 + u2) % pp) % pp))⟩ :: ⟨(γ0 11), 25, N (((u1 + negp u2) % pp))⟩ :: ⟨(γ0 10), 25, N (((u1 + u2) % pp))⟩ :: ⟨g1, 39, NN [0, 0, 0, 0, 0]⟩ :: ⟨g0, 39, NN [u0, u1, u2, u3, u4]⟩ :: _) _ from ?_)
  refine at_then ?_
  refine at_seq ?_
  refine at_region ?_
  refine at_d rfl rfl (opr_load (i := 1) rfl rfl rfl Tryd.underlying25 rfl size25 (N_length _) (N_at _)) ?_
  refine at_d rfl rfl (opr_load (i := 0) rfl rfl rfl Tryd.underlying25 rfl size25 (N_length _) (N_at _)) ?_
  refine at_d rfl rfl (opr_call rfl rfl rfl Tryd.func42 (by kernel_rfl) rfl (sSub_ct (modp_lt _) (modp_lt _))) ?_
  refine at_n rfl rfl (opr_alloc rfl zero25 rfl) ?_
  intro g2
  refine at_d rfl rfl (opr_store (i := 0) rfl rfl rfl rfl rfl size25 (N_length _) (by rw [N_length]; decide) (N_flat _) N_over) ?_
  refine at_nil ?_
  refine at_then ?_
  refine at_seq ?_
  refine at_drawG (B := [⟨g2, 25, N ((((((u1 + u2) % pp) * ((u1 + u2) % pp) % pp) + negp (((u1 + negp u2) % pp) * ((u1 + negp u2) % pp) % pp)) % pp))⟩, ⟨(γ1 7), 25, N ((((u1 + negp u2) % pp) * ((u1 + negp u2) % pp) % pp))⟩, ⟨(γ1 6), 25, N ((((u1 + u2) % pp) * ((u1 + u2) % pp) % pp))⟩, ⟨(γ0 11), 25, N (((u1 + negp u2) % pp))⟩, ⟨(γ0 10), 25, N (((u1 + u2) % pp))⟩, ⟨g1, 39, NN [0, 0, 0, 0, 0]⟩, ⟨g0, 39, NN [u0, u1, u2, u3, u4]⟩]) (E := [⟨.pure [], 0, [], .v (.pointer (some ⟨g0, 84, none⟩))⟩, ⟨.pure [6], 0, [], .v (.agg (N (u3)).toArray)⟩, ⟨.pure [], 0, [], .v (.pointer (some ⟨g0, 112, none⟩))⟩, ⟨.pure [6], 0, [], .v (.agg (N (u4)).toArray)⟩, ⟨.pure [], 0, [], .v (.agg (N (((u3 + negp u4) % pp))).toArray)⟩, ⟨.pure [4], 0, [], .v (.agg (N (((u1 + u2) % pp))).toArray)⟩, ⟨.pure [], 0, [], .v (.agg (N ((((u3 + negp u4) % pp) * ((u1 + u2) % pp) % pp))).toArray)⟩, ⟨.alloc, 25, N (0), .p 7 0⟩, ⟨.storeA 7, 0, N ((((u3 + negp u4) % pp) * ((u1 + u2) % pp) % pp)), .v undef⟩]) (by kernel_rfl) (by kernel_rfl) (by kernel_rfl) (fun γ2 => ?_)
  refine gs_pure rfl rfl (fun M' sB sT => ?_) ?_
  · exact opr_indexAddr (j := 3) rfl rfl rfl Tryd.underlying39 (by decide) size25 rfl
  refine gs_pure rfl rfl (fun M' sB sT => ?_) ?_
  · obtain ⟨iB6, hB6⟩ := sB 6 _ rfl rfl; exact opr_load (i := iB6) rfl rfl hB6 Tryd.underlying25 rfl size25 (N_length _) (NN_at (k := 3) rfl rfl rfl)
  refine gs_pure rfl rfl (fun M' sB sT => ?_) ?_
  · exact opr_indexAddr (j := 4) rfl rfl rfl Tryd.underlying39 (by decide) size25 rfl
  refine gs_pure rfl rfl (fun M' sB sT => ?_) ?_
  · obtain ⟨iB6, hB6⟩ := sB 6 _ rfl rfl; exact opr_load (i := iB6) rfl rfl hB6 Tryd.underlying25 rfl size25 (N_length _) (NN_at (k := 4) rfl rfl rfl)
  refine gs_pure rfl rfl (fun M' sB sT => ?_) ?_
  · exact opr_call rfl rfl rfl Tryd.func42 (by kernel_rfl) rfl (sSub_ct hu3 hu4)
  refine gs_pure rfl rfl (fun M' sB sT => ?_) ?_
  · obtain ⟨iB4, hB4⟩ := sB 4 _ rfl rfl; exact opr_load (i := iB4) rfl rfl hB4 Tryd.underlying25 rfl size25 (N_length _) (N_at _)
  refine gs_pure rfl rfl (fun M' sB sT => ?_) ?_
  · exact opr_call rfl rfl rfl Tryd.func22 (by kernel_rfl) rfl (sMul_ct (modp_lt _) (modp_lt _))
  refine gs_alloc rfl rfl (fun M' => opr_alloc rfl zero25 rfl) ?_
  refine gs_storeA rfl rfl rfl rfl rfl (fun M' j hj => opr_store (i := j) rfl rfl rfl rfl hj size25 (N_length _) (by rw [N_length]; decide) (N_flat _) N_over) ?_
  refine gs_nil ?_
  refine (show At _ _ (⟨(γ2 7), 25, N ((((u3 + negp u4) % pp) * ((u1 + u2) % pp) % pp))⟩ :: ⟨g2, 25, N ((((((u1 + u2) % pp) * ((u1 + u2) % pp) % pp) + negp (((u1 + negp u2) % pp) * ((u1 + negp u2) % pp) % pp)) % pp))⟩ :: ⟨(γ1 7), 25, N ((((u1 + negp u2) % pp) * ((u1 + negp u2) % pp) % pp))⟩ :: ⟨(γ1 6), 25, N ((((u1 + u2) % pp) * ((u1 + u2) % pp) % pp))⟩ :: ⟨(γ0 11), 25, N (((u1 + negp u2) % pp))⟩ :: ⟨(γ0 10), 25, N (((u1 + u2) % pp))⟩ :: ⟨g1, 39, NN [0, 0, 0, 0, 0]⟩ :: ⟨g0, 39, NN [u0, u1, u2, u3, u4]⟩ :: _) _ from ?_)
  refine at_then ?_
  refine at_seq ?_
  refine at_drawG (B := [⟨(γ2 7), 25, N ((((u3 + negp u4) % pp) * ((u1 + u2) % pp) % pp))⟩, ⟨g2, 25, N ((((((u1 + u2) % pp) * ((u1 + u2) % pp) % pp) + negp (((u1 + negp u2) % pp) * ((u1 + negp u2) % pp) % pp)) % pp))⟩, ⟨(γ1 7), 25, N ((((u1 + negp u2) % pp) * ((u1 + negp u2) % pp) % pp))⟩, ⟨(γ1 6), 25, N ((((u1 + u2) % pp) * ((u1 + u2) % pp) % pp))⟩, ⟨(γ0 11), 25, N (((u1 + negp u2) % pp))⟩, ⟨(γ0 10), 25, N (((u1 + u2) % pp))⟩, ⟨g1, 39, NN [0, 0, 0, 0, 0]⟩, ⟨g0, 39, NN [u0, u1, u2, u3, u4]⟩]) (E := [⟨.pure [], 0, [], .v (.pointer (some ⟨g0, 84, none⟩))⟩, ⟨.pure [7], 0, [], .v (.agg (N (u3)).toArray)⟩, ⟨.pure [], 0, [], .v (.pointer (some ⟨g0, 112, none⟩))⟩, ⟨.pure [7], 0, [], .v (.agg (N (u4)).toArray)⟩, ⟨.pure [], 0, [], .v (.agg (N (((u3 + u4) % pp))).toArray)⟩, ⟨.pure [4], 0, [], .v (.agg (N (((u1 + negp u2) % pp))).toArray)⟩, ⟨.pure [], 0, [], .v (.agg (N ((((u3 + u4) % pp) * ((u1 + negp u2) % pp) % pp))).toArray)⟩, ⟨.alloc, 25, N (0), .p 7 0⟩, ⟨.storeA 7, 0, N ((((u3 + u4) % pp) * ((u1 + negp u2) % pp) % pp)), .v undef⟩]) (by kernel_rfl) (by kernel_rfl) (by kernel_rfl) (fun γ3 => ?_)
  refine gs_pure rfl rfl (fun M' sB sT => ?_) ?_
  · exact opr_indexAddr (j := 3) rfl rfl rfl Tryd.underlying39 (by decide) size25 rfl
  refine gs_pure rfl rfl (fun M' sB sT => ?_) ?_
  · obtain ⟨iB7, hB7⟩ := sB 7 _ rfl rfl; exact opr_load (i := iB7) rfl rfl hB7 Tryd.underlying25 rfl size25 (N_length _) (NN_at (k := 3) rfl rfl rfl)
  refine gs_pure rfl rfl (fun M' sB sT => ?_) ?_
  · exact opr_indexAddr (j := 4) rfl rfl rfl Tryd.underlying39 (by decide) size25 rfl
  refine gs_pure rfl rfl (fun M' sB sT => ?_) ?_
  · obtain ⟨iB7, hB7⟩ := sB 7 _ rfl rfl; exact opr_load (i := iB7) rfl rfl hB7 Tryd.underlying25 rfl size25 (N_length _) (NN_at (k := 4) rfl rfl rfl)
  refine gs_pure rfl rfl (fun M' sB sT => ?_) ?_
  · exact opr_call rfl rfl rfl Tryd.func41 (by kernel_rfl) rfl (sAdd_ct hu3 hu4)
  refine gs_pure rfl rfl (fun M' sB sT => ?_) ?_
  · obtain ⟨iB4, hB4⟩ := sB 4 _ rfl rfl; exact opr_load (i := iB4) rfl rfl hB4 Tryd.underlying25 rfl size25 (N_length _) (N_at _)
  refine gs_pure rfl rfl (fun M' sB sT => ?_) ?_
  · exact opr_call rfl rfl rfl Tryd.func22 (by kernel_rfl) rfl (sMul_ct (modp_lt _) (modp_lt _))
  refine gs_alloc rfl rfl (fun M' => opr_alloc rfl zero25 rfl) ?_
  refine gs_storeA rfl rfl rfl rfl rfl (fun M' j hj => opr_store (i := j) rfl rfl rfl rfl hj size25 (N_length _) (by rw [N_length]; decide) (N_flat _) N_over) ?_
  refine gs_nil ?_
  refine (show At _ _ (⟨(γ3 7), 25, N ((((u3 + u4) % pp) * ((u1 + negp u2) % pp) % pp))⟩ :: ⟨(γ2 7), 25, N ((((u3 + negp u4) % pp) * ((u1 + u2) % pp) % pp))⟩ :: ⟨g2, 25, N ((((((u1 + u2) % pp) * ((u1 + u2) % pp) % pp) + negp (((u1 + negp u2) % pp) * ((u1 + negp u2) % pp) % pp)) % pp))⟩ :: ⟨(γ1 7), 25, N ((((u1 + negp u2) % pp) * ((u1 + negp u2) % pp) % pp))⟩ :: ⟨(γ1 6), 25, N ((((u1 + u2) % pp) * ((u1 + u2) % pp) % pp))⟩ :: ⟨(γ0 11), 25, N (((u1 + negp u2) % pp))⟩ :: ⟨(γ0 10), 25, N (((u1 + u2) % pp))⟩ :: ⟨g1, 39, NN [0, 0, 0, 0, 0]⟩ :: ⟨g0, 39, NN [u0, u1, u2, u3, u4]⟩ :: _) _ from ?_)
  refine at_then ?_
  refine at_seq ?_
  refine at_drawG (B := [⟨(γ3 7), 25, N ((((u3 + u4) % pp) * ((u1 + negp u2) % pp) % pp))⟩, ⟨(γ2 7), 25, N ((((u3 + negp u4) % pp) * ((u1 + u2) % pp) % pp))⟩, ⟨g2, 25, N ((((((u1 + u2) % pp) * ((u1 + u2) % pp) % pp) + negp (((u1 + negp u2) % pp) * ((u1 + negp u2) % pp) % pp)) % pp))⟩, ⟨(γ1 7), 25, N ((((u1 + negp u2) % pp) * ((u1 + negp u2) % pp) % pp))⟩, ⟨(γ1 6), 25, N ((((u1 + u2) % pp) * ((u1 + u2) % pp) % pp))⟩, ⟨(γ0 11), 25, N (((u1 + negp u2) % pp))⟩, ⟨(γ0 10), 25, N (((u1 + u2) % pp))⟩, ⟨g1, 39, NN [0, 0, 0, 0, 0]⟩, ⟨g0, 39, NN [u0, u1, u2, u3, u4]⟩]) (E := [⟨.pure [1], 0, [], .v (.agg (N ((((u3 + negp u4) % pp) * ((u1 + u2) % pp) % pp))).toArray)⟩, ⟨.pure [0], 0, [], .v (.agg (N ((((u3 + u4) % pp) * ((u1 + negp u2) % pp) % pp))).toArray)⟩, ⟨.pure [], 0, [], .v (.agg (N ((((((u3 + negp u4) % pp) * ((u1 + u2) % pp) % pp) + (((u3 + u4) % pp) * ((u1 + negp u2) % pp) % pp)) % pp))).toArray)⟩, ⟨.pure [1], 0, [], .v (.agg (N ((((u3 + negp u4) % pp) * ((u1 + u2) % pp) % pp))).toArray)⟩, ⟨.pure [0], 0, [], .v (.agg (N ((((u3 + u4) % pp) * ((u1 + negp u2) % pp) % pp))).toArray)⟩, ⟨.pure [], 0, [], .v (.agg (N ((((((u3 + negp u4) % pp) * ((u1 + u2) % pp) % pp) + negp (((u3 + u4) % pp) * ((u1 + negp u2) % pp) % pp)) % pp))).toArray)⟩, ⟨.alloc, 25, N (0), .p 6 0⟩, ⟨.alloc, 25, N (0), .p 7 0⟩, ⟨.storeA 6, 0, N ((((((u3 + negp u4) % pp) * ((u1 + u2) % pp) % pp) + (((u3 + u4) % pp) * ((u1 + negp u2) % pp) % pp)) % pp)), .v undef⟩, ⟨.storeA 7, 0, N ((((((u3 + negp u4) % pp) * ((u1 + u2) % pp) % pp) + negp (((u3 + u4) % pp) * ((u1 + negp u2) % pp) % pp)) % pp)), .v undef⟩]) (by kernel_rfl) (by kernel_rfl) (by kernel_rfl) (fun γ4 => ?_)
  refine gs_pure rfl rfl (fun M' sB sT => ?_) ?_
  · obtain ⟨iB1, hB1⟩ := sB 1 _ rfl rfl; exact opr_load (i := iB1) rfl rfl hB1 Tryd.underlying25 rfl size25 (N_length _) (N_at _)
  refine gs_pure rfl rfl (fun M' sB sT => ?_) ?_
  · obtain ⟨iB0, hB0⟩ := sB 0 _ rfl rfl; exact opr_load (i := iB0) rfl rfl hB0 Tryd.underlying25 rfl size25 (N_length _) (N_at _)
  refine gs_pure rfl rfl (fun M' sB sT => ?_) ?_
  · exact opr_call rfl rfl rfl Tryd.func41 (by kernel_rfl) rfl (sAdd_ct (modp_lt _) (modp_lt _))
  refine gs_pure rfl rfl (fun M' sB sT => ?_) ?_
  · obtain ⟨iB1, hB1⟩ := sB 1 _ rfl rfl; exact opr_load (i := iB1) rfl rfl hB1 Tryd.underlying25 rfl size25 (N_length _) (N_at _)
  refine gs_pure rfl rfl (fun M' sB sT => ?_) ?_
  · obtain ⟨iB0, hB0⟩ := sB 0 _ rfl rfl; exact opr_load (i := iB0) rfl rfl hB0 Tryd.underlying25 rfl size25 (N_length _) (N_at _)
  refine gs_pure rfl rfl (fun M' sB sT => ?_) ?_
  · exact opr_call rfl rfl rfl Tryd.func42 (by kernel_rfl) rfl (sSub_ct (modp_lt _) (modp_lt _))
  refine gs_alloc rfl rfl (fun M' => opr_alloc rfl zero25 rfl) ?_
  refine gs_alloc rfl rfl (fun M' => opr_alloc rfl zero25 rfl) ?_
  refine gs_storeA rfl rfl rfl rfl rfl (fun M' j hj => opr_store (i := j) rfl rfl rfl rfl hj size25 (N_length _) (by rw [N_length]; decide) (N_flat _) N_over) ?_
  refine gs_storeA rfl rfl rfl rfl rfl (fun M' j hj => opr_store (i := j) rfl rfl rfl rfl hj size25 (N_length _) (by rw [N_length]; decide) (N_flat _) N_over) ?_
  refine gs_nil ?_
  refine (show At _ _ (⟨(γ4 7), 25, N ((((((u3 + negp u4) % pp) * ((u1 + u2) % pp) % pp) + negp (((u3 + u4) % pp) * ((u1 + negp u2) % pp) % pp)) % pp))⟩ :: ⟨(γ4 6), 25, N ((((((u3 + negp u4) % pp) * ((u1 + u2) % pp) % pp) + (((u3 + u4) % pp) * ((u1 + negp u2) % pp) % pp)) % pp))⟩ :: ⟨(γ3 7), 25, N ((((u3 + u4) % pp) * ((u1 + negp u2) % pp) % pp))⟩ :: ⟨(γ2 7), 25, N ((((u3 + negp u4) % pp) * ((u1 + u2) % pp) % pp))⟩ :: ⟨g2, 25, N ((((((u1 + u2) % pp) * ((u1 + u2) % pp) % pp) + negp (((u1 + negp u2) % pp) * ((u1 + negp u2) % pp) % pp)) % pp))⟩ :: ⟨(γ1 7), 25, N ((((u1 + negp u2) % pp) * ((u1 + negp u2) % pp) % pp))⟩ :: ⟨(γ1 6), 25, N ((((u1 + u2) % pp) * ((u1 + u2) % pp) % pp))⟩ :: ⟨(γ0 11), 25, N (((u1 + negp u2) % pp))⟩ :: ⟨(γ0 10), 25, N (((u1 + u2) % pp))⟩ :: ⟨g1, 39, NN [0, 0, 0, 0, 0]⟩ :: ⟨g0, 39, NN [u0, u1, u2, u3, u4]⟩ :: _) _ from ?_)
  refine at_then ?_
  refine at_seq ?_
  refine at_draw (by kernel_rfl) (by kernel_rfl) (by kernel_rfl) (List.cons_ne_nil _ _) ?_
  refine dr_op rfl rfl (opr_indexAddr (j := 0) rfl rfl rfl Tryd.underlying39 (by decide) size25 rfl) ?_
  refine dr_op rfl rfl (opr_load (i := 10) rfl rfl rfl Tryd.underlying25 rfl size25 (N_length _) (NN_at (k := 0) rfl rfl rfl)) ?_
  refine dr_op rfl rfl (opr_call rfl rfl rfl Tryd.func10 (by kernel_rfl) rfl (mod_ct hu0)) ?_
  refine dr_op rfl rfl (opr_load (i := 6) rfl rfl rfl Tryd.underlying25 rfl size25 (N_length _) (N_at _)) ?_
  refine dr_op rfl rfl (opr_load (i := 5) rfl rfl rfl Tryd.underlying25 rfl size25 (N_length _) (N_at _)) ?_
  refine dr_op rfl rfl (opr_call rfl rfl rfl Tryd.func22 (by kernel_rfl) rfl (sMul_ct (modp_lt _) (modp_lt _))) ?_
  refine dr_op rfl rfl (opr_load (i := 4) rfl rfl rfl Tryd.underlying25 rfl size25 (N_length _) (N_at _)) ?_
  refine dr_op rfl rfl (opr_load (i := 6) rfl rfl rfl Tryd.underlying25 rfl size25 (N_length _) (N_at _)) ?_
  refine dr_op rfl rfl (opr_call rfl rfl rfl Tryd.func23 (by kernel_rfl) rfl (small_ct (c := 39081) (by decide))) ?_
  refine dr_op rfl rfl (opr_load (i := 4) rfl rfl rfl Tryd.underlying25 rfl size25 (N_length _) (N_at _)) ?_
  refine dr_op rfl rfl (opr_call rfl rfl rfl Tryd.func22 (by kernel_rfl) rfl (sMul_ct (by decide) (modp_lt _))) ?_
  refine dr_op rfl rfl (opr_call rfl rfl rfl Tryd.func41 (by kernel_rfl) rfl (sAdd_ct (modp_lt _) (modp_lt _))) ?_
  refine dr_op rfl rfl (opr_call rfl rfl rfl Tryd.func22 (by kernel_rfl) rfl (sMul_ct (modp_lt _) (modp_lt _))) ?_
  refine dr_op rfl rfl (opr_load (i := 1) rfl rfl rfl Tryd.underlying25 rfl size25 (N_length _) (N_at _)) ?_
  refine dr_op rfl rfl (opr_load (i := 1) rfl rfl rfl Tryd.underlying25 rfl size25 (N_length _) (N_at _)) ?_
  refine dr_op rfl rfl (opr_call rfl rfl rfl Tryd.func22 (by kernel_rfl) rfl (sMul_ct (modp_lt _) (modp_lt _))) ?_
  refine dr_op rfl rfl (opr_indexAddr (j := 0) rfl rfl rfl Tryd.underlying39 (by decide) size25 rfl) ?_
  refine dr_op rfl rfl (opr_load (i := 10) rfl rfl rfl Tryd.underlying25 rfl size25 (N_length _) (NN_at (k := 0) rfl rfl rfl)) ?_
  refine dr_op rfl rfl (opr_load (i := 0) rfl rfl rfl Tryd.underlying25 rfl size25 (N_length _) (N_at _)) ?_
  refine dr_op rfl rfl (opr_load (i := 0) rfl rfl rfl Tryd.underlying25 rfl size25 (N_length _) (N_at _)) ?_
  refine dr_op rfl rfl (opr_call rfl rfl rfl Tryd.func22 (by kernel_rfl) rfl (sMul_ct (modp_lt _) (modp_lt _))) ?_
  refine dr_op rfl rfl (opr_call rfl rfl rfl Tryd.func22 (by kernel_rfl) rfl (sMul_ct hu0 (modp_lt _))) ?_
  refine dr_op rfl rfl (opr_buildE rfl rfl (built_nn [(0, (u0 % pp)), (1, ((((u1 + u2) % pp) * ((u1 + u2) % pp) % pp) * (((u1 + negp u2) % pp) * ((u1 + negp u2) % pp) % pp) % pp)), (2, ((((((u1 + u2) % pp) * ((u1 + u2) % pp) % pp) + negp (((u1 + negp u2) % pp) * ((u1 + negp u2) % pp) % pp)) % pp) * (((((u1 + u2) % pp) * ((u1 + u2) % pp) % pp) + (39081 * (((((u1 + u2) % pp) * ((u1 + u2) % pp) % pp) + negp (((u1 + negp u2) % pp) * ((u1 + negp u2) % pp) % pp)) % pp) % pp)) % pp) % pp)), (3, ((((((u3 + negp u4) % pp) * ((u1 + u2) % pp) % pp) + (((u3 + u4) % pp) * ((u1 + negp u2) % pp) % pp)) % pp) * (((((u3 + negp u4) % pp) * ((u1 + u2) % pp) % pp) + (((u3 + u4) % pp) * ((u1 + negp u2) % pp) % pp)) % pp) % pp)), (4, (u0 * ((((((u3 + negp u4) % pp) * ((u1 + u2) % pp) % pp) + negp (((u3 + u4) % pp) * ((u1 + negp u2) % pp) % pp)) % pp) * (((((u3 + negp u4) % pp) * ((u1 + u2) % pp) % pp) + negp (((u3 + u4) % pp) * ((u1 + negp u2) % pp) % pp)) % pp) % pp) % pp))] rfl) rfl) ?_
  refine dr_last rfl rfl (opr_store (i := 9) rfl rfl rfl rfl rfl size39 (NN_length _) (by rw [NN_length]; exact Nat.le_of_ble_eq_true rfl) (NN_flat _) (NN_over rfl)) ?_
  refine at_then ?_
  refine at_ret ?_
  refine done_of (res1 Tryd.results24 (res_cell (i := 9) rfl rfl Tryd.underlying39 rfl size39 (NN_length _) (NN_all rfl))) ⟨rfl, rfl⟩ (by repeat (first | exact List.Sublist.refl _ | apply List.Sublist.cons))
theorem sStep1_ct {M : Mem} {u0 u1 u2 u3 u4 : Nat} (hu0 : u0 < RR) (hu1 : u1 < RR) (hu2 : u2 < RR) (hu3 : u3 < RR) (hu4 : u4 < RR) : Ct Tryd.prog 24 #[.agg (NN [u0, u1, u2, u3, u4]).toArray, .int .u64 1] M (Det (.agg (NN (stepL u0 u3 u4 u1 u2)).toArray) M) := by
  refine ct_of (vs := [.agg (NN [u0, u1, u2, u3, u4]).toArray, .int .u64 1]) Tryd.func24 rfl Tryd.ntmps24 rfl fun w0 => ?_
  refine at_seq ?_
  refine at_region ?_
  refine at_n rfl rfl (opr_box rfl rfl rfl) ?_
  intro g0
  refine at_n rfl rfl (opr_alloc rfl zero39 rfl) ?_
  intro g1
  refine at_nil ?_
  refine at_then ?_
  refine at_seq ?_
  refine at_seq ?_
  refine at_region ?_
  refine at_d rfl rfl (opr_move rfl rfl) ?_
  refine at_d rfl rfl (opr_binOp (v := .bool true) rfl rfl rfl (fun _ => rfl)) ?_
  refine at_nil ?_
  refine at_then ?_
  refine at_cond_true rfl ?_
  refine at_region ?_
  refine at_d rfl rfl (opr_indexAddr (j := 3) rfl rfl rfl Tryd.underlying39 (by decide) size25 rfl) ?_
  refine at_d rfl rfl (opr_load (i := 1) rfl rfl rfl Tryd.underlying25 rfl size25 (N_length _) (NN_at (k := 3) rfl rfl rfl)) ?_
  refine at_d rfl rfl (opr_indexAddr (j := 4) rfl rfl rfl Tryd.underlying39 (by decide) size25 rfl) ?_
  refine at_d rfl rfl (opr_load (i := 1) rfl rfl rfl Tryd.underlying25 rfl size25 (N_length _) (NN_at (k := 4) rfl rfl rfl)) ?_
  refine at_d rfl rfl (opr_indexAddr (j := 1) rfl rfl rfl Tryd.underlying39 (by decide) size25 rfl) ?_
  refine at_d rfl rfl (opr_load (i := 1) rfl rfl rfl Tryd.underlying25 rfl size25 (N_length _) (NN_at (k := 1) rfl rfl rfl)) ?_
  refine at_d rfl rfl (opr_indexAddr (j := 2) rfl rfl rfl Tryd.underlying39 (by decide) size25 rfl) ?_
  refine at_d rfl rfl (opr_load (i := 1) rfl rfl rfl Tryd.underlying25 rfl size25 (N_length _) (NN_at (k := 2) rfl rfl rfl)) ?_
  refine at_d rfl rfl (opr_indexAddr (j := 1) rfl rfl rfl Tryd.underlying39 (by decide) size25 rfl) ?_
  refine at_d rfl rfl (opr_store (i := 1) rfl rfl rfl rfl rfl size25 (N_length _) (by rw [NN_length]; exact Nat.le_of_ble_eq_true rfl) (N_flat _) (NN_set (k := 1) (Nat.le_of_ble_eq_true rfl) rfl)) ?_
  refine at_d rfl rfl (opr_indexAddr (j := 2) rfl rfl rfl Tryd.underlying39 (by decide) size25 rfl) ?_
  refine at_d rfl rfl (opr_store (i := 1) rfl rfl rfl rfl rfl size25 (N_length _) (by rw [NN_length]; exact Nat.le_of_ble_eq_true rfl) (N_flat _) (NN_set (k := 2) (Nat.le_of_ble_eq_true rfl) rfl)) ?_
  refine at_d rfl rfl (opr_indexAddr (j := 3) rfl rfl rfl Tryd.underlying39 (by decide) size25 rfl) ?_
  refine at_d rfl rfl (opr_store (i := 1) rfl rfl rfl rfl rfl size25 (N_length _) (by rw [NN_length]; exact Nat.le_of_ble_eq_true rfl) (N_flat _) (NN_set (k := 3) (Nat.le_of_ble_eq_true rfl) rfl)) ?_
  refine at_d rfl rfl (opr_indexAddr (j := 4) rfl rfl rfl Tryd.underlying39 (by decide) size25 rfl) ?_
  refine at_d rfl rfl (opr_store (i := 1) rfl rfl rfl rfl rfl size25 (N_length _) (by rw [NN_length]; exact Nat.le_of_ble_eq_true rfl) (N_flat _) (NN_set (k := 4) (Nat.le_of_ble_eq_true rfl) rfl)) ?_
  refine at_nil ?_
  refine at_then ?_
  refine at_seq ?_
  refine at_drawG (B := [⟨g1, 39, NN [0, 0, 0, 0, 0]⟩, ⟨g0, 39, NN [u0, u3, u4, u1, u2]⟩]) (E := [⟨.pure [], 0, [], .v (.pointer (some ⟨g0, 28, none⟩))⟩, ⟨.pure [1], 0, [], .v (.agg (N (u3)).toArray)⟩, ⟨.pure [], 0, [], .v (.pointer (some ⟨g0, 56, none⟩))⟩, ⟨.pure [1], 0, [], .v (.agg (N (u4)).toArray)⟩, ⟨.pure [], 0, [], .v (.agg (N (((u3 + u4) % pp))).toArray)⟩, ⟨.pure [], 0, [], .v (.pointer (some ⟨g0, 28, none⟩))⟩, ⟨.pure [1], 0, [], .v (.agg (N (u3)).toArray)⟩, ⟨.pure [], 0, [], .v (.pointer (some ⟨g0, 56, none⟩))⟩, ⟨.pure [1], 0, [], .v (.agg (N (u4)).toArray)⟩, ⟨.pure [], 0, [], .v (.agg (N (((u3 + negp u4) % pp))).toArray)⟩, ⟨.alloc, 25, N (0), .p 10 0⟩, ⟨.alloc, 25, N (0), .p 11 0⟩, ⟨.storeA 10, 0, N (((u3 + u4) % pp)), .v undef⟩, ⟨.storeA 11, 0, N (((u3 + negp u4) % pp)), .v undef⟩]) (by kernel_rfl) (by kernel_rfl) (by kernel_rfl) (fun γ0 => ?_)
  refine gs_pure rfl rfl (fun M' sB sT => ?_) ?_
  · exact opr_indexAddr (j := 1) rfl rfl rfl Tryd.underlying39 (by decide) size25 rfl
  refine gs_pure rfl rfl (fun M' sB sT => ?_) ?_
  · obtain ⟨iB1, hB1⟩ := sB 1 _ rfl rfl; exact opr_load (i := iB1) rfl rfl hB1 Tryd.underlying25 rfl size25 (N_length _) (NN_at (k := 1) rfl rfl rfl)
  refine gs_pure rfl rfl (fun M' sB sT => ?_) ?_
  · exact opr_indexAddr (j := 2) rfl rfl rfl Tryd.underlying39 (by decide) size25 rfl
  refine gs_pure rfl rfl (fun M' sB sT => ?_) ?_
  · obtain ⟨iB1, hB1⟩ := sB 1 _ rfl rfl; exact opr_load (i := iB1) rfl rfl hB1 Tryd.underlying25 rfl size25 (N_length _) (NN_at (k := 2) rfl rfl rfl)
  refine gs_pure rfl rfl (fun M' sB sT => ?_) ?_
  · exact opr_call rfl rfl rfl Tryd.func41 (by kernel_rfl) rfl (sAdd_ct hu3 hu4)
  refine gs_pure rfl rfl (fun M' sB sT => ?_) ?_
  · exact opr_indexAddr (j := 1) rfl rfl rfl Tryd.underlying39 (by decide) size25 rfl
  refine gs_pure rfl rfl (fun M' sB sT => ?_) ?_
  · obtain ⟨iB1, hB1⟩ := sB 1 _ rfl rfl; exact opr_load (i := iB1) rfl rfl hB1 Tryd.underlying25 rfl size25 (N_length _) (NN_at (k := 1) rfl rfl rfl)
  refine gs_pure rfl rfl (fun M' sB sT => ?_) ?_
  · exact opr_indexAddr (j := 2) rfl rfl rfl Tryd.underlying39 (by decide) size25 rfl
  refine gs_pure rfl rfl (fun M' sB sT => ?_) ?_
  · obtain ⟨iB1, hB1⟩ := sB 1 _ rfl rfl; exact opr_load (i := iB1) rfl rfl hB1 Tryd.underlying25 rfl size25 (N_length _) (NN_at (k := 2) rfl rfl rfl)
  refine gs_pure rfl rfl (fun M' sB sT => ?_) ?_
  · exact opr_call rfl rfl rfl Tryd.func42 (by kernel_rfl) rfl (sSub_ct hu3 hu4)
  refine gs_alloc rfl rfl (fun M' => opr_alloc rfl zero25 rfl) ?_
  refine gs_alloc rfl rfl (fun M' => opr_alloc rfl zero25 rfl) ?_
  refine gs_storeA rfl rfl rfl rfl rfl (fun M' j hj => opr_store (i := j) rfl rfl rfl rfl hj size25 (N_length _) (by rw [N_length]; decide) (N_flat _) N_over) ?_
  refine gs_storeA rfl rfl rfl rfl rfl (fun M' j hj => opr_store (i := j) rfl rfl rfl rfl hj size25 (N_length _) (by rw [N_length]; decide) (N_flat _) N_over) ?_
  refine gs_nil ?_
  refine (show At _ _ (⟨(γ0 11), 25, N (((u3 + negp u4) % pp))⟩ :: ⟨(γ0 10), 25, N (((u3 + u4) % pp))⟩ :: ⟨g1, 39, NN [0, 0, 0, 0, 0]⟩ :: ⟨g0, 39, NN [u0, u3, u4, u1, u2]⟩ :: _) _ from ?_)
  refine at_then ?_
  refine at_seq ?_
  refine at_drawG (B := [⟨(γ0 11), 25, N (((u3 + negp u4) % pp))⟩, ⟨(γ0 10), 25, N (((u3 + u4) % pp))⟩, ⟨g1, 39, NN [0, 0, 0, 0, 0]⟩, ⟨g0, 39, NN [u0, u3, u4, u1, u2]⟩]) (E := [⟨.pure [1], 0, [], .v (.agg (N (((u3 + u4) % pp))).toArray)⟩, ⟨.pure [1], 0, [], .v (.agg (N (((u3 + u4) % pp))).toArray)⟩, ⟨.pure [], 0, [], .v (.agg (N ((((u3 + u4) % pp) * ((u3 + u4) % pp) % pp))).toArray)⟩, ⟨.pure [0], 0, [], .v (.agg (N (((u3 + negp u4) % pp))).toArray)⟩, ⟨.pure [0], 0, [], .v (.agg (N (((u3 + negp u4) % pp))).toArray)⟩, ⟨.pure [], 0, [], .v (.agg (N ((((u3 + negp u4) % pp) * ((u3 + negp u4) % pp) % pp))).toArray)⟩, ⟨.alloc, 25, N (0), .p 6 0⟩, ⟨.alloc, 25, N (0), .p 7 0⟩, ⟨.storeA 6, 0, N ((((u3 + u4) % pp) * ((u3 + u4) % pp) % pp)), .v undef⟩, ⟨.storeA 7, 0, N ((((u3 + negp u4) % pp) * ((u3 + negp u4) % pp) % pp)), .v undef⟩]) (by kernel_rfl) (by kernel_rfl) (by kernel_rfl) (fun γ1 => ?_)
  refine gs_pure rfl rfl (fun M' sB sT => ?_) ?_
  · obtain ⟨iB1, hB1⟩ := sB 1 _ rfl rfl; exact opr_load (i := iB1) rfl rfl hB1 Tryd.underlying25 rfl size25 (N_length _) (N_at _)
  refine gs_pure rfl rfl (fun M' sB sT => ?_) ?_
  · obtain ⟨iB1, hB1⟩ := sB 1 _ rfl rfl; exact opr_load (i := iB1) rfl rfl hB1 Tryd.underlying25 rfl size25 (N_length _) (N_at _)
  refine gs_pure rfl rfl (fun M' sB sT => ?_) ?_
  · exact opr_call rfl rfl rfl Tryd.func22 (by kernel_rfl) rfl (sMul_ct (modp_lt _) (modp_lt _))
  refine gs_pure rfl rfl (fun M' sB sT => ?_) ?_
  · obtain ⟨iB0, hB0⟩ := sB 0 _ rfl rfl; exact opr_load (i := iB0) rfl rfl hB0 Tryd.underlying25 rfl size25 (N_length _) (N_at _)
  refine gs_pure rfl rfl (fun M' sB sT => ?_) ?_
  · obtain ⟨iB0, hB0⟩ := sB 0 _ rfl rfl; exact opr_load (i := iB0) rfl rfl hB0 Tryd.underlying25 rfl size25 (N_length _) (N_at _)
  refine gs_pure rfl rfl (fun M' sB sT => ?_) ?_
  · exact opr_call rfl rfl rfl Tryd.func22 (by kernel_rfl) rfl (sMul_ct (modp_lt _) (modp_lt _))
  refine gs_alloc rfl rfl (fun M' => opr_alloc rfl zero25 rfl) ?_
  refine gs_alloc rfl rfl (fun M' => opr_alloc rfl zero25 rfl) ?_
  refine gs_storeA rfl rfl rfl rfl rfl (fun M' j hj => opr_store (i := j) rfl rfl rfl rfl hj size25 (N_length _) (by rw [N_length]; decide) (N_flat _) N_over) ?_
  refine gs_storeA rfl rfl rfl rfl rfl (fun M' j hj => opr_store (i := j) rfl rfl rfl rfl hj size25 (N_length _) (by rw [N_length]; decide) (N_flat _) N_over) ?_
  refine gs_nil ?_
  refine (show At _ _ (⟨(γ1 7), 25, N ((((u3 + negp u4) % pp) * ((u3 + negp u4) % pp) % pp))⟩ :: ⟨(γ1 6), 25, N ((((u3 + u4) % pp) * ((u3 + u4) % pp) % pp))⟩ :: ⟨(γ0 11), 25, N (((u3 + negp u4) % pp))⟩ :: ⟨(γ0 10), 25, N (((u3 + u4) % pp))⟩ :: ⟨g1, 39, NN [0, 0, 0, 0, 0]⟩ :: ⟨g0, 39, NN [u0, u3, u4, u1, u2]⟩ :: _) _ from ?_)
  refine at_then ?_
  refine at_seq ?_
  refine at_region ?_
  refine at_d rfl rfl (opr_load (i := 1) rfl rfl rfl Tryd.underlying25 rfl size25 (N_length _) (N_at _)) ?_
  refine at_d rfl rfl (opr_load (i := 0) rfl rfl rfl Tryd.underlying25 rfl size25 (N_length _) (N_at _)) ?_
  refine at_d rfl rfl (opr_call rfl rfl rfl Tryd.func42 (by kernel_rfl) rfl (sSub_ct (modp_lt _) (modp_lt _))) ?_
  refine at_n rfl rfl (opr_alloc rfl zero25 rfl) ?_
  intro g2
  refine at_d rfl rfl (opr_store (i := 0) rfl rfl rfl rfl rfl size25 (N_length _) (by rw [N_length]; decide) (N_flat _) N_over) ?_
  refine at_nil ?_
  refine at_then ?_
  refine at_seq ?_
  refine at_drawG (B := [⟨g2, 25, N ((((((u3 + u4) % pp) * ((u3 + u4) % pp) % pp) + negp (((u3 + negp u4) % pp) * ((u3 + negp u4) % pp) % pp)) % pp))⟩, ⟨(γ1 7), 25, N ((((u3 + negp u4) % pp) * ((u3 + negp u4) % pp) % pp))⟩, ⟨(γ1 6), 25, N ((((u3 + u4) % pp) * ((u3 + u4) % pp) % pp))⟩, ⟨(γ0 11), 25, N (((u3 + negp u4) % pp))⟩, ⟨(γ0 10), 25, N (((u3 + u4) % pp))⟩, ⟨g1, 39, NN [0, 0, 0, 0, 0]⟩, ⟨g0, 39, NN [u0, u3, u4, u1, u2]⟩]) (E := [⟨.pure [], 0, [], .v (.pointer (some ⟨g0, 84, none⟩))⟩, ⟨.pure [6], 0, [], .v (.agg (N (u1)).toArray)⟩, ⟨.pure [], 0, [], .v (.pointer (some ⟨g0, 112, none⟩))⟩, ⟨.pure [6], 0, [], .v (.agg (N (u2)).toArray)⟩, ⟨.pure [], 0, [], .v (.agg (N (((u1 + negp u2) % pp))).toArray)⟩, ⟨.pure [4], 0, [], .v (.agg (N (((u3 + u4) % pp))).toArray)⟩, ⟨.pure [], 0, [], .v (.agg (N ((((u1 + negp u2) % pp) * ((u3 + u4) % pp) % pp))).toArray)⟩, ⟨.alloc, 25, N (0), .p 7 0⟩, ⟨.storeA 7, 0, N ((((u1 + negp u2) % pp) * ((u3 + u4) % pp) % pp)), .v undef⟩]) (by kernel_rfl) (by kernel_rfl) (by kernel_rfl) (fun γ2 => ?_)
  refine gs_pure rfl rfl (fun M' sB sT => ?_) ?_
  · exact opr_indexAddr (j := 3) rfl rfl rfl Tryd.underlying39 (by decide) size25 rfl
  refine gs_pure rfl rfl (fun M' sB sT => ?_) ?_
  · obtain ⟨iB6, hB6⟩ := sB 6 _ rfl rfl; exact opr_load (i := iB6) rfl rfl hB6 Tryd.underlying25 rfl size25 (N_length _) (NN_at (k := 3) rfl rfl rfl)
  refine gs_pure rfl rfl (fun M' sB sT => ?_) ?_
  · exact opr_indexAddr (j := 4) rfl rfl rfl Tryd.underlying39 (by decide) size25 rfl
  refine gs_pure rfl rfl (fun M' sB sT => ?_) ?_
  · obtain ⟨iB6, hB6⟩ := sB 6 _ rfl rfl; exact opr_load (i := iB6) rfl rfl hB6 Tryd.underlying25 rfl size25 (N_length _) (NN_at (k := 4) rfl rfl rfl)
  refine gs_pure rfl rfl (fun M' sB sT => ?_) ?_
  · exact opr_call rfl rfl rfl Tryd.func42 (by kernel_rfl) rfl (sSub_ct hu1 hu2)
  refine gs_pure rfl rfl (fun M' sB sT => ?_) ?_
  · obtain ⟨iB4, hB4⟩ := sB 4 _ rfl rfl; exact opr_load (i := iB4) rfl rfl hB4 Tryd.underlying25 rfl size25 (N_length _) (N_at _)
  refine gs_pure rfl rfl (fun M' sB sT => ?_) ?_
  · exact opr_call rfl rfl rfl Tryd.func22 (by kernel_rfl) rfl (sMul_ct (modp_lt _) (modp_lt _))
  refine gs_alloc rfl rfl (fun M' => opr_alloc rfl zero25 rfl) ?_
  refine gs_storeA rfl rfl rfl rfl rfl (fun M' j hj => opr_store (i := j) rfl rfl rfl rfl hj size25 (N_length _) (by rw [N_length]; decide) (N_flat _) N_over) ?_
  refine gs_nil ?_
  refine (show At _ _ (⟨(γ2 7), 25, N ((((u1 + negp u2) % pp) * ((u3 + u4) % pp) % pp))⟩ :: ⟨g2, 25, N ((((((u3 + u4) % pp) * ((u3 + u4) % pp) % pp) + negp (((u3 + negp u4) % pp) * ((u3 + negp u4) % pp) % pp)) % pp))⟩ :: ⟨(γ1 7), 25, N ((((u3 + negp u4) % pp) * ((u3 + negp u4) % pp) % pp))⟩ :: ⟨(γ1 6), 25, N ((((u3 + u4) % pp) * ((u3 + u4) % pp) % pp))⟩ :: ⟨(γ0 11), 25, N (((u3 + negp u4) % pp))⟩ :: ⟨(γ0 10), 25, N (((u3 + u4) % pp))⟩ :: ⟨g1, 39, NN [0, 0, 0, 0, 0]⟩ :: ⟨g0, 39, NN [u0, u3, u4, u1, u2]⟩ :: _) _ from ?_)
  refine at_then ?_
  refine at_seq ?_
  refine at_drawG (B := [⟨(γ2 7), 25, N ((((u1 + negp u2) % pp) * ((u3 + u4) % pp) % pp))⟩, ⟨g2, 25, N ((((((u3 + u4) % pp) * ((u3 + u4) % pp) % pp) + negp (((u3 + negp u4) % pp) * ((u3 + negp u4) % pp) % pp)) % pp))⟩, ⟨(γ1 7), 25, N ((((u3 + negp u4) % pp) * ((u3 + negp u4) % pp) % pp))⟩, ⟨(γ1 6), 25, N ((((u3 + u4) % pp) * ((u3 + u4) % pp) % pp))⟩, ⟨(γ0 11), 25, N (((u3 + negp u4) % pp))⟩, ⟨(γ0 10), 25, N (((u3 + u4) % pp))⟩, ⟨g1, 39, NN [0, 0, 0, 0, 0]⟩, ⟨g0, 39, NN [u0, u3, u4, u1, u2]⟩]) (E := [⟨.pure [], 0, [], .v (.pointer (some ⟨g0, 84, none⟩))⟩, ⟨.pure [7], 0, [], .v (.agg (N (u1)).toArray)⟩, ⟨.pure [], 0, [], .v (.pointer (some ⟨g0, 112, none⟩))⟩, ⟨.pure [7], 0, [], .v (.agg (N (u2)).toArray)⟩, ⟨.pure [], 0, [], .v (.agg (N (((u1 + u2) % pp))).toArray)⟩, ⟨.pure [4], 0, [], .v (.agg (N (((u3 + negp u4) % pp))).toArray)⟩, ⟨.pure [], 0, [], .v (.agg (N ((((u1 + u2) % pp) * ((u3 + negp u4) % pp) % pp))).toArray)⟩, ⟨.alloc, 25, N (0), .p 7 0⟩, ⟨.storeA 7, 0, N ((((u1 + u2) % pp) * ((u3 + negp u4) % pp) % pp)), .v undef⟩]) (by kernel_rfl) (by kernel_rfl) (by kernel_rfl) (fun γ3 => ?_)
  refine gs_pure rfl rfl (fun M' sB sT => ?_) ?_
  · exact opr_indexAddr (j := 3) rfl rfl rfl Tryd.underlying39 (by decide) size25 rfl
  refine gs_pure rfl rfl (fun M' sB sT => ?_) ?_
  · obtain ⟨iB7, hB7⟩ := sB 7 _ rfl rfl; exact opr_load (i := iB7) rfl rfl hB7 Tryd.underlying25 rfl size25 (N_length _) (NN_at (k := 3) rfl rfl rfl)
  refine gs_pure rfl rfl (fun M' sB sT => ?_) ?_
  · exact opr_indexAddr (j := 4) rfl rfl rfl Tryd.underlying39 (by decide) size25 rfl
  refine gs_pure rfl rfl (fun M' sB sT => ?_) ?_
  · obtain ⟨iB7, hB7⟩ := sB 7 _ rfl rfl; exact opr_load (i := iB7) rfl rfl hB7 Tryd.underlying25 rfl size25 (N_length _) (NN_at (k := 4) rfl rfl rfl)
  refine gs_pure rfl rfl (fun M' sB sT => ?_) ?_
  · exact opr_call rfl rfl rfl Tryd.func41 (by kernel_rfl) rfl (sAdd_ct hu1 hu2)
  refine gs_pure rfl rfl (fun M' sB sT => ?_) ?_
  · obtain ⟨iB4, hB4⟩ := sB 4 _ rfl rfl; exact opr_load (i := iB4) rfl rfl hB4 Tryd.underlying25 rfl size25 (N_length _) (N_at _)
  refine gs_pure rfl rfl (fun M' sB sT => ?_) ?_
  · exact opr_call rfl rfl rfl Tryd.func22 (by kernel_rfl) rfl (sMul_ct (modp_lt _) (modp_lt _))
  refine gs_alloc rfl rfl (fun M' => opr_alloc rfl zero25 rfl) ?_
  refine gs_storeA rfl rfl rfl rfl rfl (fun M' j hj => opr_store (i := j) rfl rfl rfl rfl hj size25 (N_length _) (by rw [N_length]; decide) (N_flat _) N_over) ?_
  refine gs_nil ?_
  refine (show At _ _ (⟨(γ3 7), 25, N ((((u1 + u2) % pp) * ((u3 + negp u4) % pp) % pp))⟩ :: ⟨(γ2 7), 25, N ((((u1 + negp u2) % pp) * ((u3 + u4) % pp) % pp))⟩ :: ⟨g2, 25, N ((((((u3 + u4) % pp) * ((u3 + u4) % pp) % pp) + negp (((u3 + negp u4) % pp) * ((u3 + negp u4) % pp) % pp)) % pp))⟩ :: ⟨(γ1 7), 25, N ((((u3 + negp u4) % pp) * ((u3 + negp u4) % pp) % pp))⟩ :: ⟨(γ1 6), 25, N ((((u3 + u4) % pp) * ((u3 + u4) % pp) % pp))⟩ :: ⟨(γ0 11), 25, N (((u3 + negp u4) % pp))⟩ :: ⟨(γ0 10), 25, N (((u3 + u4) % pp))⟩ :: ⟨g1, 39, NN [0, 0, 0, 0, 0]⟩ :: ⟨g0, 39, NN [u0, u3, u4, u1, u2]⟩ :: _) _ from ?_)
  refine at_then ?_
  refine at_seq ?_
  refine at_drawG (B := [⟨(γ3 7), 25, N ((((u1 + u2) % pp) * ((u3 + negp u4) % pp) % pp))⟩, ⟨(γ2 7), 25, N ((((u1 + negp u2) % pp) * ((u3 + u4) % pp) % pp))⟩, ⟨g2, 25, N ((((((u3 + u4) % pp) * ((u3 + u4) % pp) % pp) + negp (((u3 + negp u4) % pp) * ((u3 + negp u4) % pp) % pp)) % pp))⟩, ⟨(γ1 7), 25, N ((((u3 + negp u4) % pp) * ((u3 + negp u4) % pp) % pp))⟩, ⟨(γ1 6), 25, N ((((u3 + u4) % pp) * ((u3 + u4) % pp) % pp))⟩, ⟨(γ0 11), 25, N (((u3 + negp u4) % pp))⟩, ⟨(γ0 10), 25, N (((u3 + u4) % pp))⟩, ⟨g1, 39, NN [0, 0, 0, 0, 0]⟩, ⟨g0, 39, NN [u0, u3, u4, u1, u2]⟩]) (E := [⟨.pure [1], 0, [], .v (.agg (N ((((u1 + negp u2) % pp) * ((u3 + u4) % pp) % pp))).toArray)⟩, ⟨.pure [0], 0, [], .v (.agg (N ((((u1 + u2) % pp) * ((u3 + negp u4) % pp) % pp))).toArray)⟩, ⟨.pure [], 0, [], .v (.agg (N ((((((u1 + negp u2) % pp) * ((u3 + u4) % pp) % pp) + (((u1 + u2) % pp) * ((u3 + negp u4) % pp) % pp)) % pp))).toArray)⟩, ⟨.pure [1], 0, [], .v (.agg (N ((((u1 + negp u2) % pp) * ((u3 + u4) % pp) % pp))).toArray)⟩, ⟨.pure [0], 0, [], .v (.agg (N ((((u1 + u2) % pp) * ((u3 + negp u4) % pp) % pp))).toArray)⟩, ⟨.pure [], 0, [], .v (.agg (N ((((((u1 + negp u2) % pp) * ((u3 + u4) % pp) % pp) + negp (((u1 + u2) % pp) * ((u3 + negp u4) % pp) % pp)) % pp))).toArray)⟩, ⟨.alloc, 25, N (0), .p 6 0⟩, ⟨.alloc, 25, N (0), .p 7 0⟩, ⟨.storeA 6, 0, N ((((((u1 + negp u2) % pp) * ((u3 + u4) % pp) % pp) + (((u1 + u2) % pp) * ((u3 + negp u4) % pp) % pp)) % pp)), .v undef⟩, ⟨.storeA 7, 0, N ((((((u1 + negp u2) % pp) * ((u3 + u4) % pp) % pp) + negp (((u1 + u2) % pp) * ((u3 + negp u4) % pp) % pp)) % pp)), .v undef⟩]) (by kernel_rfl) (by kernel_rfl) (by kernel_rfl) (fun γ4 => ?_)
  refine gs_pure rfl rfl (fun M' sB sT => ?_) ?_
  · obtain ⟨iB1, hB1⟩ := sB 1 _ rfl rfl; exact opr_load (i := iB1) rfl rfl hB1 Tryd.underlying25 rfl size25 (N_length _) (N_at _)
  refine gs_pure rfl rfl (fun M' sB sT => ?_) ?_
  · obtain ⟨iB0, hB0⟩ := sB 0 _ rfl rfl; exact opr_load (i := iB0) rfl rfl hB0 Tryd.underlying25 rfl size25 (N_length _) (N_at _)
  refine gs_pure rfl rfl (fun M' sB sT => ?_) ?_
  · exact opr_call rfl rfl rfl Tryd.func41 (by kernel_rfl) rfl (sAdd_ct (modp_lt _) (modp_lt _))
  refine gs_pure rfl rfl (fun M' sB sT => ?_) ?_
  · obtain ⟨iB1, hB1⟩ := sB 1 _ rfl rfl; exact opr_load (i := iB1) rfl rfl hB1 Tryd.underlying25 rfl size25 (N_length _) (N_at _)
  refine gs_pure rfl rfl (fun M' sB sT => ?_) ?_
  · obtain ⟨iB0, hB0⟩ := sB 0 _ rfl rfl; exact opr_load (i := iB0) rfl rfl hB0 Tryd.underlying25 rfl size25 (N_length _) (N_at _)
  refine gs_pure rfl rfl (fun M' sB sT => ?_) ?_
  · exact opr_call rfl rfl rfl Tryd.func42 (by kernel_rfl) rfl (sSub_ct (modp_lt _) (modp_lt _))
  refine gs_alloc rfl rfl (fun M' => opr_alloc rfl zero25 rfl) ?_
  refine gs_alloc rfl rfl (fun M' => opr_alloc rfl zero25 rfl) ?_
  refine gs_storeA rfl rfl rfl rfl rfl (fun M' j hj => opr_store (i := j) rfl rfl rfl rfl hj size25 (N_length _) (by rw [N_length]; decide) (N_flat _) N_over) ?_
  refine gs_storeA rfl rfl rfl rfl rfl (fun M' j hj => opr_store (i := j) rfl rfl rfl rfl hj size25 (N_length _) (by rw [N_length]; decide) (N_flat _) N_over) ?_
  refine gs_nil ?_
  refine (show At _ _ (⟨(γ4 7), 25, N ((((((u1 + negp u2) % pp) * ((u3 + u4) % pp) % pp) + negp (((u1 + u2) % pp) * ((u3 + negp u4) % pp) % pp)) % pp))⟩ :: ⟨(γ4 6), 25, N ((((((u1 + negp u2) % pp) * ((u3 + u4) % pp) % pp) + (((u1 + u2) % pp) * ((u3 + negp u4) % pp) % pp)) % pp))⟩ :: ⟨(γ3 7), 25, N ((((u1 + u2) % pp) * ((u3 + negp u4) % pp) % pp))⟩ :: ⟨(γ2 7), 25, N ((((u1 + negp u2) % pp) * ((u3 + u4) % pp) % pp))⟩ :: ⟨g2, 25, N ((((((u3 + u4) % pp) * ((u3 + u4) % pp) % pp) + negp (((u3 + negp u4) % pp) * ((u3 + negp u4) % pp) % pp)) % pp))⟩ :: ⟨(γ1 7), 25, N ((((u3 + negp u4) % pp) * ((u3 + negp u4) % pp) % pp))⟩ :: ⟨(γ1 6), 25, N ((((u3 + u4) % pp) * ((u3 + u4) % pp) % pp))⟩ :: ⟨(γ0 11), 25, N (((u3 + negp u4) % pp))⟩ :: ⟨(γ0 10), 25, N (((u3 + u4) % pp))⟩ :: ⟨g1, 39, NN [0, 0, 0, 0, 0]⟩ :: ⟨g0, 39, NN [u0, u3, u4, u1, u2]⟩ :: _) _ from ?_)
  refine at_then ?_
  refine at_seq ?_
  refine at_draw (by kernel_rfl) (by kernel_rfl) (by kernel_rfl) (List.cons_ne_nil _ _) ?_
  refine dr_op rfl rfl (opr_indexAddr (j := 0) rfl rfl rfl Tryd.underlying39 (by decide) size25 rfl) ?_
  refine dr_op rfl rfl (opr_load (i := 10) rfl rfl rfl Tryd.underlying25 rfl size25 (N_length _) (NN_at (k := 0) rfl rfl rfl)) ?_
  refine dr_op rfl rfl (opr_call rfl rfl rfl Tryd.func10 (by kernel_rfl) rfl (mod_ct hu0)) ?_
  refine dr_op rfl rfl (opr_load (i := 6) rfl rfl rfl Tryd.underlying25 rfl size25 (N_length _) (N_at _)) ?_
  refine dr_op rfl rfl (opr_load (i := 5) rfl rfl rfl Tryd.underlying25 rfl size25 (N_length _) (N_at _)) ?_
  refine dr_op rfl rfl (opr_call rfl rfl rfl Tryd.func22 (by kernel_rfl) rfl (sMul_ct (modp_lt _) (modp_lt _))) ?_
  refine dr_op rfl rfl (opr_load (i := 4) rfl rfl rfl Tryd.underlying25 rfl size25 (N_length _) (N_at _)) ?_
  refine dr_op rfl rfl (opr_load (i := 6) rfl rfl rfl Tryd.underlying25 rfl size25 (N_length _) (N_at _)) ?_
  refine dr_op rfl rfl (opr_call rfl rfl rfl Tryd.func23 (by kernel_rfl) rfl (small_ct (c := 39081) (by decide))) ?_
  refine dr_op rfl rfl (opr_load (i := 4) rfl rfl rfl Tryd.underlying25 rfl size25 (N_length _) (N_at _)) ?_
  refine dr_op rfl rfl (opr_call rfl rfl rfl Tryd.func22 (by kernel_rfl) rfl (sMul_ct (by decide) (modp_lt _))) ?_
  refine dr_op rfl rfl (opr_call rfl rfl rfl Tryd.func41 (by kernel_rfl) rfl (sAdd_ct (modp_lt _) (modp_lt _))) ?_
  refine dr_op rfl rfl (opr_call rfl rfl rfl Tryd.func22 (by kernel_rfl) rfl (sMul_ct (modp_lt _) (modp_lt _))) ?_
  refine dr_op rfl rfl (opr_load (i := 1) rfl rfl rfl Tryd.underlying25 rfl size25 (N_length _) (N_at _)) ?_
  refine dr_op rfl rfl (opr_load (i := 1) rfl rfl rfl Tryd.underlying25 rfl size25 (N_length _) (N_at _)) ?_
  refine dr_op rfl rfl (opr_call rfl rfl rfl Tryd.func22 (by kernel_rfl) rfl (sMul_ct (modp_lt _) (modp_lt _))) ?_
  refine dr_op rfl rfl (opr_indexAddr (j := 0) rfl rfl rfl Tryd.underlying39 (by decide) size25 rfl) ?_
  refine dr_op rfl rfl (opr_load (i := 10) rfl rfl rfl Tryd.underlying25 rfl size25 (N_length _) (NN_at (k := 0) rfl rfl rfl)) ?_
  refine dr_op rfl rfl (opr_load (i := 0) rfl rfl rfl Tryd.underlying25 rfl size25 (N_length _) (N_at _)) ?_
  refine dr_op rfl rfl (opr_load (i := 0) rfl rfl rfl Tryd.underlying25 rfl size25 (N_length _) (N_at _)) ?_
  refine dr_op rfl rfl (opr_call rfl rfl rfl Tryd.func22 (by kernel_rfl) rfl (sMul_ct (modp_lt _) (modp_lt _))) ?_
  refine dr_op rfl rfl (opr_call rfl rfl rfl Tryd.func22 (by kernel_rfl) rfl (sMul_ct hu0 (modp_lt _))) ?_
  refine dr_op rfl rfl (opr_buildE rfl rfl (built_nn [(0, (u0 % pp)), (1, ((((u3 + u4) % pp) * ((u3 + u4) % pp) % pp) * (((u3 + negp u4) % pp) * ((u3 + negp u4) % pp) % pp) % pp)), (2, ((((((u3 + u4) % pp) * ((u3 + u4) % pp) % pp) + negp (((u3 + negp u4) % pp) * ((u3 + negp u4) % pp) % pp)) % pp) * (((((u3 + u4) % pp) * ((u3 + u4) % pp) % pp) + (39081 * (((((u3 + u4) % pp) * ((u3 + u4) % pp) % pp) + negp (((u3 + negp u4) % pp) * ((u3 + negp u4) % pp) % pp)) % pp) % pp)) % pp) % pp)), (3, ((((((u1 + negp u2) % pp) * ((u3 + u4) % pp) % pp) + (((u1 + u2) % pp) * ((u3 + negp u4) % pp) % pp)) % pp) * (((((u1 + negp u2) % pp) * ((u3 + u4) % pp) % pp) + (((u1 + u2) % pp) * ((u3 + negp u4) % pp) % pp)) % pp) % pp)), (4, (u0 * ((((((u1 + negp u2) % pp) * ((u3 + u4) % pp) % pp) + negp (((u1 + u2) % pp) * ((u3 + negp u4) % pp) % pp)) % pp) * (((((u1 + negp u2) % pp) * ((u3 + u4) % pp) % pp) + negp (((u1 + u2) % pp) * ((u3 + negp u4) % pp) % pp)) % pp) % pp) % pp))] rfl) rfl) ?_
  refine dr_last rfl rfl (opr_store (i := 9) rfl rfl rfl rfl rfl size39 (NN_length _) (by rw [NN_length]; exact Nat.le_of_ble_eq_true rfl) (NN_flat _) (NN_over rfl)) ?_
  refine at_then ?_
  refine at_ret ?_
  refine done_of (res1 Tryd.results24 (res_cell (i := 9) rfl rfl Tryd.underlying39 rfl size39 (NN_length _) (NN_all rfl))) ⟨rfl, rfl⟩ (by repeat (first | exact List.Sublist.refl _ | apply List.Sublist.cons))
theorem sStep_ct {t : Nat} (ht : t = 0 ∨ t = 1) {M : Mem} {u0 u1 u2 u3 u4 : Nat} (hu0 : u0 < RR) (hu1 : u1 < RR) (hu2 : u2 < RR) (hu3 : u3 < RR) (hu4 : u4 < RR) {l : List Nat} (hl : stepL u0 (sel t u1 u3) (sel t u2 u4) (sel t u3 u1) (sel t u4 u2) = l) : Ct Tryd.prog 24 #[.agg (NN [u0, u1, u2, u3, u4]).toArray, .int .u64 (t : Int)] M (Det (.agg (NN l).toArray) M) := by
  subst hl
  rcases ht with rfl | rfl
  · exact sStep0_ct hu0 hu1 hu2 hu3 hu4
  · exact sStep1_ct hu0 hu1 hu2 hu3 hu4
theorem stepL_ex (u0 u1 u2 u3 u4 : Nat) : ∃ r1 r2 r3 r4, stepL u0 u1 u2 u3 u4 = [u0 % pp, r1, r2, r3, r4] ∧ r1 < pp ∧ r2 < pp ∧ r3 < pp ∧ r4 < pp ∧ StepEl (el u0) (el u1) (el u2) (el u3) (el u4) (el r1) (el r2) (el r3) (el r4) := by
  refine ⟨_, _, _, _, rfl, lt_pp _, lt_pp _, lt_pp _, lt_pp _, ⟨?_, ?_⟩, ?_, ?_⟩
  all_goals simp only [el_mod, el_mul, el_add, el_neg, add_neg]
theorem A24_el {M : Mem} {iz ix gz gx Tz Tx kz kx oz ox a : Nat} {lz lx : List Nat} (hz : M[iz]? = some ⟨gz, Tz, EE lz⟩) (hkz : kz < lz.length) (hoz : 56 * kz = oz) (hx : M[ix]? = some ⟨gx, Tx, EE lx⟩) (hkx : lx[kx]? = some a) (hox : 56 * kx = ox) (ha : a < RR) : Ct Tryd.prog 68 #[.pointer (some ⟨gz, oz, none⟩), .pointer (some ⟨gx, ox, none⟩)] M (ElR M iz gz Tz kz lz (el a * el 39082)) := (mulA24Generic_ct hz hkz hoz hx hkx hox ha).mono fun _ _ ⟨r, hr, hm, h1, h2⟩ => ⟨r, hr, el_mulR hm, h1, h2⟩
def LadR (M : Mem) (iw gw Tw x1 x2 z2 x3 z3 t : Nat) : Value → Mem → Prop := fun v M' => ∃ r1 r2 r3 r4, r1 < RR ∧ r2 < RR ∧ r3 < RR ∧ r4 < RR ∧ StepEl (el x1) (el (sel t x2 x3)) (el (sel t z2 z3)) (el (sel t x3 x2)) (el (sel t z3 z2)) (el r1) (el r2) (el r3) (el r4) ∧ v = .tuple #[] ∧ M' = M.set iw ⟨gw, Tw, EE [x1, r1, r2, r3, r4]⟩
theorem ladderStepGeneric_ct {t : Nat} (ht : t = 0 ∨ t = 1) {M : Mem} {iw gw Tw x1 x2 z2 x3 z3 : Nat} (hw : M[iw]? = some ⟨gw, Tw, EE [x1, x2, z2, x3, z3]⟩) (hx1 : x1 < RR) (hx2 : x2 < RR) (hz2 : z2 < RR) (hx3 : x3 < RR) (hz3 : z3 < RR) : Ct Tryd.prog 70 #[.pointer (some ⟨gw, 0, none⟩), .int .u64 (t : Int)] M (LadR M iw gw Tw x1 x2 z2 x3 z3 t) := by
  refine ct_of (vs := [.pointer (some ⟨gw, 0, none⟩), .int .u64 (t : Int)]) Tryd.func70 rfl Tryd.ntmps70 rfl fun w0 => ?_
  refine at_seq ?_
  refine at_draw (by kernel_rfl) (by kernel_rfl) (by kernel_rfl) (List.cons_ne_nil _ _) ?_
  refine dr_op rfl rfl (opr_move rfl rfl) ?_
  refine dr_op rfl rfl (opr_nilCheck rfl rfl) ?_
  refine dr_op rfl rfl (opr_indexAddr (j := 0) rfl rfl rfl Tryd.underlying63 (by decide) size47 rfl) ?_
  refine dr_op rfl rfl (opr_move rfl rfl) ?_
  refine dr_op rfl rfl (opr_nilCheck rfl rfl) ?_
  refine dr_op rfl rfl (opr_indexAddr (j := 1) rfl rfl rfl Tryd.underlying63 (by decide) size47 rfl) ?_
  refine dr_op rfl rfl (opr_move rfl rfl) ?_
  refine dr_op rfl rfl (opr_nilCheck rfl rfl) ?_
  refine dr_op rfl rfl (opr_indexAddr (j := 2) rfl rfl rfl Tryd.underlying63 (by decide) size47 rfl) ?_
  refine dr_op rfl rfl (opr_move rfl rfl) ?_
  refine dr_op rfl rfl (opr_nilCheck rfl rfl) ?_
  refine dr_op rfl rfl (opr_indexAddr (j := 3) rfl rfl rfl Tryd.underlying63 (by decide) size47 rfl) ?_
  refine dr_op rfl rfl (opr_move rfl rfl) ?_
  refine dr_op rfl rfl (opr_nilCheck rfl rfl) ?_
  refine dr_op rfl rfl (opr_indexAddr (j := 4) rfl rfl rfl Tryd.underlying63 (by decide) size47 rfl) ?_
  refine dr_op rfl rfl (opr_assign rfl rfl) ?_
  refine dr_op rfl rfl (opr_assign rfl rfl) ?_
  refine dr_op rfl rfl (opr_assign rfl rfl) ?_
  refine dr_op rfl rfl (opr_assign rfl rfl) ?_
  refine dr_last rfl rfl (opr_assign rfl rfl) ?_
  refine at_then ?_
  refine at_seq ?_
  refine at_region ?_
  refine at_d rfl rfl (opr_buildE rfl rfl built_zero E_zero0) ?_
  refine at_n rfl rfl (opr_box (cs := EE [0]) rfl rfl (E_box _)) ?_
  intro g0
  refine at_d rfl rfl (opr_assign rfl rfl) ?_
  refine at_nil ?_
  refine at_then ?_
  refine at_seq ?_
  refine at_region ?_
  refine at_d rfl rfl (opr_buildE rfl rfl built_zero E_zero0) ?_
  refine at_n rfl rfl (opr_box (cs := EE [0]) rfl rfl (E_box _)) ?_
  intro g1
  refine at_d rfl rfl (opr_assign rfl rfl) ?_
  refine at_nil ?_
  refine at_then ?_
  refine at_seq ?_
  refine at_region ?_
  refine at_d rfl rfl (opr_move rfl rfl) ?_
  refine at_d rfl rfl (opr_move rfl rfl) ?_
  refine at_c rfl rfl (opr_call rfl rfl rfl Tryd.func80 (by kernel_rfl) rfl (AddSubS_el (ix := iw + 2) (kx := 1) (ky := 2) hw rfl rfl rfl rfl (by decide) hx2 hz2)) ?_
  rintro _ _ ⟨r0, r1, hr0, hr1, f0, f1, rfl, rfl⟩
  have hb1 : (M.set iw ⟨gw, Tw, EE [x1, r0, r1, x3, z3]⟩)[iw]? = some ⟨gw, Tw, EE [x1, r0, r1, x3, z3]⟩ := get_set hw
  refine at_mem (M2 := ⟨g1, 47, EE [0]⟩ :: ⟨g0, 47, EE [0]⟩ :: (M.set iw ⟨gw, Tw, EE [x1, r0, r1, x3, z3]⟩)) (by simp) ?_
  refine at_nil ?_
  refine at_then ?_
  refine at_seq ?_
  refine at_region ?_
  refine at_d rfl rfl (opr_move rfl rfl) ?_
  refine at_d rfl rfl (opr_move rfl rfl) ?_
  refine at_c rfl rfl (opr_call rfl rfl rfl Tryd.func80 (by kernel_rfl) rfl (AddSubS_el (ix := iw + 2) (kx := 3) (ky := 4) hb1 rfl rfl rfl rfl (by decide) hx3 hz3)) ?_
  rintro _ _ ⟨r2, r3, hr2, hr3, f2, f3, rfl, rfl⟩
  have hb2 : (M.set iw ⟨gw, Tw, EE [x1, r0, r1, r2, r3]⟩)[iw]? = some ⟨gw, Tw, EE [x1, r0, r1, r2, r3]⟩ := get_set hw
  refine at_mem (M2 := ⟨g1, 47, EE [0]⟩ :: ⟨g0, 47, EE [0]⟩ :: (M.set iw ⟨gw, Tw, EE [x1, r0, r1, r2, r3]⟩)) (by simp) ?_
  refine at_nil ?_
  refine at_then ?_
  refine at_seq ?_
  refine at_region ?_
  refine at_d rfl rfl (opr_move rfl rfl) ?_
  refine at_d rfl rfl (opr_move rfl rfl) ?_
  refine at_d rfl rfl (opr_move rfl rfl) ?_
  refine at_c rfl rfl (opr_call rfl rfl rfl Tryd.func33 (by kernel_rfl) rfl (Mul_el (iz := 1) (ix := iw + 2) (iy := iw + 2) (kz := 0) (kx := 1) (ky := 4) rfl (Nat.le_of_ble_eq_true rfl) rfl hb2 rfl rfl hb2 rfl rfl hr0 hr3)) ?_
  rintro _ _ ⟨r4, hr4, f4, rfl, rfl⟩
  refine at_nil ?_
  refine at_then ?_
  refine at_seq ?_
  refine at_region ?_
  refine at_d rfl rfl (opr_move rfl rfl) ?_
  refine at_d rfl rfl (opr_move rfl rfl) ?_
  refine at_d rfl rfl (opr_move rfl rfl) ?_
  refine at_c rfl rfl (opr_call rfl rfl rfl Tryd.func33 (by kernel_rfl) rfl (Mul_el (iz := 0) (ix := iw + 2) (iy := iw + 2) (kz := 0) (kx := 3) (ky := 2) rfl (Nat.le_of_ble_eq_true rfl) rfl hb2 rfl rfl hb2 rfl rfl hr2 hr1)) ?_
  rintro _ _ ⟨r5, hr5, f5, rfl, rfl⟩
  refine at_nil ?_
  refine at_then ?_
  refine at_seq ?_
  refine at_region ?_
  refine at_d rfl rfl (opr_move rfl rfl) ?_
  refine at_d rfl rfl (opr_move rfl rfl) ?_
  refine at_c rfl rfl (opr_call rfl rfl rfl Tryd.func80 (by kernel_rfl) rfl (AddSub_el (ix := 1) (iy := 0) (kx := 0) (ky := 0) rfl rfl rfl rfl rfl rfl (by decide) hr4 hr5)) ?_
  rintro _ _ ⟨r6, r7, hr6, hr7, f6, f7, rfl, rfl⟩
  refine at_nil ?_
  refine at_then ?_
  refine at_seq ?_
  refine at_region ?_
  refine at_d rfl rfl (opr_move rfl rfl) ?_
  refine at_d rfl rfl (opr_move rfl rfl) ?_
  refine at_d rfl rfl (opr_move rfl rfl) ?_
  refine at_d rfl rfl (opr_call rfl rfl rfl Tryd.func82 (by kernel_rfl) rfl (Cmov_ct ht (ix := iw + 2) (iy := iw + 2) (kx := 1) (ky := 3) hb2 rfl rfl hb2 rfl rfl hr0 hr2)) ?_
  have hb3 : (M.set iw ⟨gw, Tw, EE [x1, (sel t r0 r2), r1, r2, r3]⟩)[iw]? = some ⟨gw, Tw, EE [x1, (sel t r0 r2), r1, r2, r3]⟩ := get_set hw
  refine at_mem (M2 := ⟨g1, 47, EE [r7]⟩ :: ⟨g0, 47, EE [r6]⟩ :: (M.set iw ⟨gw, Tw, EE [x1, (sel t r0 r2), r1, r2, r3]⟩)) (by simp) ?_
  refine at_nil ?_
  refine at_then ?_
  refine at_seq ?_
  refine at_region ?_
  refine at_d rfl rfl (opr_move rfl rfl) ?_
  refine at_d rfl rfl (opr_move rfl rfl) ?_
  refine at_d rfl rfl (opr_move rfl rfl) ?_
  refine at_d rfl rfl (opr_call rfl rfl rfl Tryd.func82 (by kernel_rfl) rfl (Cmov_ct ht (ix := iw + 2) (iy := iw + 2) (kx := 2) (ky := 4) hb3 rfl rfl hb3 rfl rfl hr1 hr3)) ?_
  have hb4 : (M.set iw ⟨gw, Tw, EE [x1, (sel t r0 r2), (sel t r1 r3), r2, r3]⟩)[iw]? = some ⟨gw, Tw, EE [x1, (sel t r0 r2), (sel t r1 r3), r2, r3]⟩ := get_set hw
  refine at_mem (M2 := ⟨g1, 47, EE [r7]⟩ :: ⟨g0, 47, EE [r6]⟩ :: (M.set iw ⟨gw, Tw, EE [x1, (sel t r0 r2), (sel t r1 r3), r2, r3]⟩)) (by simp) ?_
  refine at_nil ?_
  refine at_then ?_
  refine at_seq ?_
  refine at_region ?_
  refine at_d rfl rfl (opr_move rfl rfl) ?_
  refine at_d rfl rfl (opr_move rfl rfl) ?_
  refine at_c rfl rfl (opr_call rfl rfl rfl Tryd.func34 (by kernel_rfl) rfl (Sqr_el (iz := iw + 2) (ix := 1) (kz := 3) (kx := 0) hb4 (Nat.le_of_ble_eq_true rfl) rfl rfl rfl rfl hr6)) ?_
  rintro _ _ ⟨r8, hr8, f8, rfl, rfl⟩
  have hb5 : (M.set iw ⟨gw, Tw, EE [x1, (sel t r0 r2), (sel t r1 r3), r8, r3]⟩)[iw]? = some ⟨gw, Tw, EE [x1, (sel t r0 r2), (sel t r1 r3), r8, r3]⟩ := get_set hw
  refine at_mem (M2 := ⟨g1, 47, EE [r7]⟩ :: ⟨g0, 47, EE [r6]⟩ :: (M.set iw ⟨gw, Tw, EE [x1, (sel t r0 r2), (sel t r1 r3), r8, r3]⟩)) (by simp) ?_
  refine at_nil ?_
  refine at_then ?_
  refine at_seq ?_
  refine at_region ?_
  refine at_d rfl rfl (opr_move rfl rfl) ?_
  refine at_d rfl rfl (opr_move rfl rfl) ?_
  refine at_c rfl rfl (opr_call rfl rfl rfl Tryd.func34 (by kernel_rfl) rfl (Sqr_el (iz := iw + 2) (ix := 0) (kz := 4) (kx := 0) hb5 (Nat.le_of_ble_eq_true rfl) rfl rfl rfl rfl hr7)) ?_
  rintro _ _ ⟨r9, hr9, f9, rfl, rfl⟩
  have hb6 : (M.set iw ⟨gw, Tw, EE [x1, (sel t r0 r2), (sel t r1 r3), r8, r9]⟩)[iw]? = some ⟨gw, Tw, EE [x1, (sel t r0 r2), (sel t r1 r3), r8, r9]⟩ := get_set hw
  refine at_mem (M2 := ⟨g1, 47, EE [r7]⟩ :: ⟨g0, 47, EE [r6]⟩ :: (M.set iw ⟨gw, Tw, EE [x1, (sel t r0 r2), (sel t r1 r3), r8, r9]⟩)) (by simp) ?_
  refine at_nil ?_
  refine at_then ?_
  refine at_seq ?_
  refine at_region ?_
  refine at_d rfl rfl (opr_move rfl rfl) ?_
  refine at_d rfl rfl (opr_move rfl rfl) ?_
  refine at_d rfl rfl (opr_move rfl rfl) ?_
  refine at_c rfl rfl (opr_call rfl rfl rfl Tryd.func33 (by kernel_rfl) rfl (Mul_el (iz := iw + 2) (ix := iw + 2) (iy := iw + 2) (kz := 4) (kx := 0) (ky := 4) hb6 (Nat.le_of_ble_eq_true rfl) rfl hb6 rfl rfl hb6 rfl rfl hx1 hr9)) ?_
  rintro _ _ ⟨r10, hr10, f10, rfl, rfl⟩
  have hb7 : (M.set iw ⟨gw, Tw, EE [x1, (sel t r0 r2), (sel t r1 r3), r8, r10]⟩)[iw]? = some ⟨gw, Tw, EE [x1, (sel t r0 r2), (sel t r1 r3), r8, r10]⟩ := get_set hw
  refine at_mem (M2 := ⟨g1, 47, EE [r7]⟩ :: ⟨g0, 47, EE [r6]⟩ :: (M.set iw ⟨gw, Tw, EE [x1, (sel t r0 r2), (sel t r1 r3), r8, r10]⟩)) (by simp) ?_
  refine at_nil ?_
  refine at_then ?_
  refine at_seq ?_
  refine at_region ?_
  refine at_d rfl rfl (opr_move rfl rfl) ?_
  refine at_d rfl rfl (opr_move rfl rfl) ?_
  refine at_c rfl rfl (opr_call rfl rfl rfl Tryd.func34 (by kernel_rfl) rfl (Sqr_el (iz := iw + 2) (ix := iw + 2) (kz := 1) (kx := 1) hb7 (Nat.le_of_ble_eq_true rfl) rfl hb7 rfl rfl (sel_lt hr0 hr2))) ?_
  rintro _ _ ⟨r11, hr11, f11, rfl, rfl⟩
  have hb8 : (M.set iw ⟨gw, Tw, EE [x1, r11, (sel t r1 r3), r8, r10]⟩)[iw]? = some ⟨gw, Tw, EE [x1, r11, (sel t r1 r3), r8, r10]⟩ := get_set hw
  refine at_mem (M2 := ⟨g1, 47, EE [r7]⟩ :: ⟨g0, 47, EE [r6]⟩ :: (M.set iw ⟨gw, Tw, EE [x1, r11, (sel t r1 r3), r8, r10]⟩)) (by simp) ?_
  refine at_nil ?_
  refine at_then ?_
  refine at_seq ?_
  refine at_region ?_
  refine at_d rfl rfl (opr_move rfl rfl) ?_
  refine at_d rfl rfl (opr_move rfl rfl) ?_
  refine at_c rfl rfl (opr_call rfl rfl rfl Tryd.func34 (by kernel_rfl) rfl (Sqr_el (iz := iw + 2) (ix := iw + 2) (kz := 2) (kx := 2) hb8 (Nat.le_of_ble_eq_true rfl) rfl hb8 rfl rfl (sel_lt hr1 hr3))) ?_
  rintro _ _ ⟨r12, hr12, f12, rfl, rfl⟩
  have hb9 : (M.set iw ⟨gw, Tw, EE [x1, r11, r12, r8, r10]⟩)[iw]? = some ⟨gw, Tw, EE [x1, r11, r12, r8, r10]⟩ := get_set hw
  refine at_mem (M2 := ⟨g1, 47, EE [r7]⟩ :: ⟨g0, 47, EE [r6]⟩ :: (M.set iw ⟨gw, Tw, EE [x1, r11, r12, r8, r10]⟩)) (by simp) ?_
  refine at_nil ?_
  refine at_then ?_
  refine at_seq ?_
  refine at_region ?_
  refine at_d rfl rfl (opr_move rfl rfl) ?_
  refine at_d rfl rfl (opr_move rfl rfl) ?_
  refine at_d rfl rfl (opr_move rfl rfl) ?_
  refine at_c rfl rfl (opr_call rfl rfl rfl Tryd.func52 (by kernel_rfl) rfl (Sub_el (iz := 1) (ix := iw + 2) (iy := iw + 2) (kz := 0) (kx := 1) (ky := 2) rfl (Nat.le_of_ble_eq_true rfl) rfl hb9 rfl rfl hb9 rfl rfl hr11 hr12)) ?_
  rintro _ _ ⟨r13, hr13, f13, rfl, rfl⟩
  refine at_nil ?_
  refine at_then ?_
  refine at_seq ?_
  refine at_region ?_
  refine at_d rfl rfl (opr_move rfl rfl) ?_
  refine at_d rfl rfl (opr_move rfl rfl) ?_
  refine at_c rfl rfl (opr_call rfl rfl rfl Tryd.func68 (by kernel_rfl) rfl (A24_el (iz := 0) (ix := 1) (kz := 0) (kx := 0) rfl (Nat.le_of_ble_eq_true rfl) rfl rfl rfl rfl hr13)) ?_
  rintro _ _ ⟨r14, hr14, f14, rfl, rfl⟩
  refine at_nil ?_
  refine at_then ?_
  refine at_seq ?_
  refine at_region ?_
  refine at_d rfl rfl (opr_move rfl rfl) ?_
  refine at_d rfl rfl (opr_move rfl rfl) ?_
  refine at_d rfl rfl (opr_move rfl rfl) ?_
  refine at_c rfl rfl (opr_call rfl rfl rfl Tryd.func81 (by kernel_rfl) rfl (Add_el (iz := 0) (ix := 0) (iy := iw + 2) (kz := 0) (kx := 0) (ky := 2) rfl (Nat.le_of_ble_eq_true rfl) rfl rfl rfl rfl hb9 rfl rfl hr14 hr12)) ?_
  rintro _ _ ⟨r15, hr15, f15, rfl, rfl⟩
  refine at_nil ?_
  refine at_then ?_
  refine at_seq ?_
  refine at_region ?_
  refine at_d rfl rfl (opr_move rfl rfl) ?_
  refine at_d rfl rfl (opr_move rfl rfl) ?_
  refine at_d rfl rfl (opr_move rfl rfl) ?_
  refine at_c rfl rfl (opr_call rfl rfl rfl Tryd.func33 (by kernel_rfl) rfl (Mul_el (iz := iw + 2) (ix := iw + 2) (iy := iw + 2) (kz := 1) (kx := 1) (ky := 2) hb9 (Nat.le_of_ble_eq_true rfl) rfl hb9 rfl rfl hb9 rfl rfl hr11 hr12)) ?_
  rintro _ _ ⟨r16, hr16, f16, rfl, rfl⟩
  have hb10 : (M.set iw ⟨gw, Tw, EE [x1, r16, r12, r8, r10]⟩)[iw]? = some ⟨gw, Tw, EE [x1, r16, r12, r8, r10]⟩ := get_set hw
  refine at_mem (M2 := ⟨g1, 47, EE [r15]⟩ :: ⟨g0, 47, EE [r13]⟩ :: (M.set iw ⟨gw, Tw, EE [x1, r16, r12, r8, r10]⟩)) (by simp) ?_
  refine at_nil ?_
  refine at_then ?_
  refine at_region ?_
  refine at_d rfl rfl (opr_move rfl rfl) ?_
  refine at_d rfl rfl (opr_move rfl rfl) ?_
  refine at_d rfl rfl (opr_move rfl rfl) ?_
  refine at_c rfl rfl (opr_call rfl rfl rfl Tryd.func33 (by kernel_rfl) rfl (Mul_el (iz := iw + 2) (ix := 1) (iy := 0) (kz := 2) (kx := 0) (ky := 0) hb10 (Nat.le_of_ble_eq_true rfl) rfl rfl rfl rfl rfl rfl rfl hr13 hr15)) ?_
  rintro _ _ ⟨r17, hr17, f17, rfl, rfl⟩
  have hb11 : (M.set iw ⟨gw, Tw, EE [x1, r16, r17, r8, r10]⟩)[iw]? = some ⟨gw, Tw, EE [x1, r16, r17, r8, r10]⟩ := get_set hw
  refine at_mem (M2 := ⟨g1, 47, EE [r15]⟩ :: ⟨g0, 47, EE [r13]⟩ :: (M.set iw ⟨gw, Tw, EE [x1, r16, r17, r8, r10]⟩)) (by simp) ?_
  refine at_nil ?_
  refine done_of (res0 Tryd.results70) ⟨r16, r17, r8, r10, hr16, hr17, hr8, hr10, ?_, rfl, rfl⟩ (by repeat (first | exact List.Sublist.refl _ | apply List.Sublist.cons))
  rcases ht with rfl | rfl
  · simp only [sel0] at *
    refine ⟨⟨?_, ?_⟩, ?_, ?_⟩
    all_goals simp only [f0, f1, f2, f3, f4, f5, f6, f7, f8, f9, f10, f11, f12, f13, f14, f15, f16, f17, el_24]
    all_goals clear f17 f16 f15 f14 f13 f12 f11 f10 f9 f8 f7 f6 f5 f4 f3 f2 f1 f0
    all_goals generalize el x1 = y1, el x2 = y2, el z2 = y3, el x3 = y4, el z3 = y5, el 39081 = y6
    all_goals grind
  · simp only [sel1] at *
    refine ⟨⟨?_, ?_⟩, ?_, ?_⟩
    all_goals simp only [f0, f1, f2, f3, f4, f5, f6, f7, f8, f9, f10, f11, f12, f13, f14, f15, f16, f17, el_24]
    all_goals clear f17 f16 f15 f14 f13 f12 f11 f10 f9 f8 f7 f6 f5 f4 f3 f2 f1 f0
    all_goals generalize el x1 = y1, el x2 = y2, el z2 = y3, el x3 = y4, el z3 = y5, el 39081 = y6
    all_goals grind
theorem ladderStep_ct {t : Nat} (ht : t = 0 ∨ t = 1) {M : Mem} {iw gw Tw x1 x2 z2 x3 z3 : Nat} (hw : M[iw]? = some ⟨gw, Tw, EE [x1, x2, z2, x3, z3]⟩) (hx1 : x1 < RR) (hx2 : x2 < RR) (hz2 : z2 < RR) (hx3 : x3 < RR) (hz3 : z3 < RR) : Ct Tryd.prog 60 #[.pointer (some ⟨gw, 0, none⟩), .int .u64 (t : Int)] M (LadR M iw gw Tw x1 x2 z2 x3 z3 t) := by
  refine ct_of (vs := [.pointer (some ⟨gw, 0, none⟩), .int .u64 (t : Int)]) Tryd.func60 rfl Tryd.ntmps60 rfl fun w0 => ?_
  refine at_region ?_
  refine at_d rfl rfl (opr_move rfl rfl) ?_
  refine at_d rfl rfl (opr_move rfl rfl) ?_
  refine at_c rfl rfl (opr_call rfl rfl rfl Tryd.func70 (by kernel_rfl) rfl (ladderStepGeneric_ct ht hw hx1 hx2 hz2 hx3 hz3)) ?_
  rintro _ _ ⟨r1, r2, r3, r4, hr1, hr2, hr3, hr4, hS, rfl, rfl⟩
  refine at_nil ?_
  exact done_of (res0 rfl) ⟨r1, r2, r3, r4, hr1, hr2, hr3, hr4, hS, rfl, rfl⟩ (List.Sublist.refl _)
end Go.Proofs.YtkjfongekklabaaDoor
