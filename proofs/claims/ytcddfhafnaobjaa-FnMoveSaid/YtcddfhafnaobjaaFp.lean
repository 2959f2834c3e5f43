/- The field's functions: sums, differences. -/
import Derived.Test.YtcddfhafnaobjaaBin
import Derived.Test.YtcddfhafnaobjaaWords
import Derived.Shelf.Spec.BitsCarry
namespace Go.Proofs.Ytcddfhafnaobjaa
open Go
set_option maxRecDepth 100000

theorem ple {cs : List Value} {a n x : Nat} (h : n ≤ cs.length) (ha : a + 8 ≤ n) : n ≤ (splice cs a (B8 x)).length := by
  rw [splice_length (by rw [B8_length]; omega)]; exact h
theorem cmov_pass {M : Mem} {R : Value → Mem → Prop} {a b c : Value} (h : Ct Try.prog 12 #[a, b, c] M R) (hR : ∀ v M', R v M' → v = .tuple #[]) : Ct Try.prog 10 #[a, b, c] M R := by
  refine ct_of (vs := [a, b, c]) Try.func10 rfl Try.ntmps10 rfl fun w0 => ?_
  refine at_region ?_
  refine at_d rfl rfl (opr_move rfl rfl) ?_
  refine at_d rfl rfl (opr_move rfl rfl) ?_
  refine at_d rfl rfl (opr_move rfl rfl) ?_
  refine at_c rfl rfl (opr_call rfl rfl rfl Try.func12 (by kernel_rfl) rfl (h)) ?_
  intro v M' hv
  refine at_nil ?_
  obtain rfl := hR v M' hv
  exact done_of (res0 rfl) hv (List.Sublist.refl _)
theorem Cmov_pass {M : Mem} {R : Value → Mem → Prop} {a b c : Value} (h : Ct Try.prog 10 #[a, b, c] M R) (hR : ∀ v M', R v M' → v = .tuple #[]) : Ct Try.prog 8 #[a, b, c] M R := by
  refine ct_of (vs := [a, b, c]) Try.func8 rfl Try.ntmps8 rfl fun w0 => ?_
  refine at_region ?_
  refine at_d rfl rfl (opr_move rfl rfl) ?_
  refine at_d rfl rfl (opr_move rfl rfl) ?_
  refine at_d rfl rfl (opr_move rfl rfl) ?_
  refine at_c rfl rfl (opr_call rfl rfl rfl Try.func10 (by kernel_rfl) rfl (h)) ?_
  intro v M' hv
  refine at_nil ?_
  obtain rfl := hR v M' hv
  exact done_of (res0 rfl) hv (List.Sublist.refl _)
theorem cswap_pass {M : Mem} {R : Value → Mem → Prop} {a b c : Value} (h : Ct Try.prog 11 #[a, b, c] M R) (hR : ∀ v M', R v M' → v = .tuple #[]) : Ct Try.prog 9 #[a, b, c] M R := by
  refine ct_of (vs := [a, b, c]) Try.func9 rfl Try.ntmps9 rfl fun w0 => ?_
  refine at_region ?_
  refine at_d rfl rfl (opr_move rfl rfl) ?_
  refine at_d rfl rfl (opr_move rfl rfl) ?_
  refine at_d rfl rfl (opr_move rfl rfl) ?_
  refine at_c rfl rfl (opr_call rfl rfl rfl Try.func11 (by kernel_rfl) rfl (h)) ?_
  intro v M' hv
  refine at_nil ?_
  obtain rfl := hR v M' hv
  exact done_of (res0 rfl) hv (List.Sublist.refl _)
theorem Cswap_pass {M : Mem} {R : Value → Mem → Prop} {a b c : Value} (h : Ct Try.prog 9 #[a, b, c] M R) (hR : ∀ v M', R v M' → v = .tuple #[]) : Ct Try.prog 7 #[a, b, c] M R := by
  refine ct_of (vs := [a, b, c]) Try.func7 rfl Try.ntmps7 rfl fun w0 => ?_
  refine at_region ?_
  refine at_d rfl rfl (opr_move rfl rfl) ?_
  refine at_d rfl rfl (opr_move rfl rfl) ?_
  refine at_d rfl rfl (opr_move rfl rfl) ?_
  refine at_c rfl rfl (opr_call rfl rfl rfl Try.func9 (by kernel_rfl) rfl (h)) ?_
  intro v M' hv
  refine at_nil ?_
  obtain rfl := hR v M' hv
  exact done_of (res0 rfl) hv (List.Sublist.refl _)
end Go.Proofs.Ytcddfhafnaobjaa
