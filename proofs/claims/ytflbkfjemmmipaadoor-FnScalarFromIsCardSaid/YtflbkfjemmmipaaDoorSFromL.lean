/- FnScalarFromIs. -/
import Derived.Test.YtflbkfjemmmipaaDoorSFromF
import Derived.Test.YtflbkfjemmmipaaDoorSL0
import Derived.Test.YtflbkfjemmmipaaDoorRefS
namespace Go.Proofs.YtflbkfjemmmipaaDoor
open Go
set_option maxRecDepth 100000

theorem lawBig_ct {M : Mem} {a : Option Addr} {n c : Nat} (h : 2147483647 < n) : Ct Tryd.prog 7 #[.slice a n c] M (Det (.bool true) M) := by
  refine ct_of (vs := [.slice a n c]) Tryd.func7 rfl Tryd.ntmps7 rfl fun w0 => ?_
  refine at_seq ?_
  refine at_region ?_
  refine at_d rfl rfl (opr_assign rfl rfl) ?_
  refine at_nil ?_
  refine at_then ?_
  refine at_seq ?_
  refine at_seq ?_
  refine at_region ?_
  refine at_d rfl rfl (opr_move rfl rfl) ?_
  refine at_d rfl rfl (opr_lenS (n := n) rfl rfl Tryd.underlying27) ?_
  refine at_d rfl rfl (opr_eq' (opr_gtr (a := n) (b := 2147483647) rfl rfl rfl) (congrArg Value.bool (decide_eq_true (by omega)))) ?_
  refine at_nil ?_
  refine at_then ?_
  refine at_cond_true rfl ?_
  refine at_seq ?_
  refine at_region ?_
  refine at_d rfl rfl (opr_assign rfl rfl) ?_
  refine at_nil ?_
  refine at_then ?_
  refine at_ret ?_
  refine at_then_ret ?_
  refine done_of (res1 Tryd.results7 (res_tmp rfl)) ⟨rfl, rfl⟩ (by repeat (first | exact List.Sublist.refl _ | apply List.Sublist.cons))
theorem lawMid_ct {M : Mem} {a : Option Addr} {n c : Nat} (h1 : n ≤ 2147483647) (h2 : 200 < n) : Ct Tryd.prog 7 #[.slice a n c] M (Det (.bool true) M) := by
  refine ct_of (vs := [.slice a n c]) Tryd.func7 rfl Tryd.ntmps7 rfl fun w0 => ?_
  refine at_seq ?_
  refine at_region ?_
  refine at_d rfl rfl (opr_assign rfl rfl) ?_
  refine at_nil ?_
  refine at_then ?_
  refine at_seq ?_
  refine at_seq ?_
  refine at_region ?_
  refine at_d rfl rfl (opr_move rfl rfl) ?_
  refine at_d rfl rfl (opr_lenS (n := n) rfl rfl Tryd.underlying27) ?_
  refine at_d rfl rfl (opr_eq' (opr_gtr (a := n) (b := 2147483647) rfl rfl rfl) (congrArg Value.bool (decide_eq_false (by omega)))) ?_
  refine at_nil ?_
  refine at_then ?_
  refine at_cond_false rfl ?_
  refine at_skip ?_
  refine at_then ?_
  refine at_seq ?_
  refine at_region ?_
  refine at_d rfl rfl (opr_move rfl rfl) ?_
  refine at_d rfl rfl (opr_lenS (n := n) rfl rfl Tryd.underlying27) ?_
  refine at_d rfl rfl (opr_eq' (opr_gtr (a := n) (b := 200) rfl rfl rfl) (congrArg Value.bool (decide_eq_true (by omega)))) ?_
  refine at_d rfl rfl (opr_move rfl rfl) ?_
  refine at_op_skip rfl rfl ?_
  refine at_op_skip rfl rfl ?_
  refine at_op_skip rfl rfl ?_
  refine at_op_skip rfl rfl ?_
  refine at_op_skip rfl rfl ?_
  refine at_op_skip rfl rfl ?_
  refine at_op_skip rfl rfl ?_
  refine at_op_skip rfl rfl ?_
  refine at_op_skip rfl rfl ?_
  refine at_op_skip rfl rfl ?_
  refine at_d rfl rfl (opr_pickT rfl rfl rfl) ?_
  refine at_d rfl rfl (opr_assign rfl rfl) ?_
  refine at_nil ?_
  refine at_then ?_
  refine at_ret ?_
  refine done_of (res1 Tryd.results7 (res_tmp rfl)) ⟨rfl, rfl⟩ (by repeat (first | exact List.Sublist.refl _ | apply List.Sublist.cons))
theorem lawX_ct {M : Mem} {jo To : Nat} (hO : M[jo]? = some ⟨0, To, EE [qq]⟩) {jr Tr : Nat} (hR : M[jr]? = some ⟨1, Tr, W (digs 18446744073709551616 4 r448)⟩) (hjr : jo ≠ jr) {il gl Tl off n c : Nat} {cs : List Value} {bs : List Nat} (hl : M[il]? = some ⟨gl, Tl, cs⟩) (hcs : (cs.drop off).take n = bs.map u8V) (hbn : bs.length = n) (hb : ∀ d ∈ bs, d < 256) (hn : n ≤ 200) : Ct Tryd.prog 7 #[.slice (some ⟨gl, off, none⟩) n c] M (Det (.bool true) M) := by
  refine ct_of (vs := [.slice (some ⟨gl, off, none⟩) n c]) Tryd.func7 rfl Tryd.ntmps7 rfl fun w0 => ?_
  refine at_seq ?_
  refine at_region ?_
  refine at_d rfl rfl (opr_assign rfl rfl) ?_
  refine at_nil ?_
  refine at_then ?_
  refine at_seq ?_
  refine at_seq ?_
  refine at_region ?_
  refine at_d rfl rfl (opr_move rfl rfl) ?_
  refine at_d rfl rfl (opr_lenS (n := n) rfl rfl Tryd.underlying27) ?_
  refine at_d rfl rfl (opr_eq' (opr_gtr (a := n) (b := 2147483647) rfl rfl rfl) (congrArg Value.bool (decide_eq_false (by omega)))) ?_
  refine at_nil ?_
  refine at_then ?_
  refine at_cond_false rfl ?_
  refine at_skip ?_
  refine at_then ?_
  refine at_seq ?_
  refine at_region ?_
  refine at_d rfl rfl (opr_move rfl rfl) ?_
  refine at_d rfl rfl (opr_lenS (n := n) rfl rfl Tryd.underlying27) ?_
  refine at_d rfl rfl (opr_eq' (opr_gtr (a := n) (b := 200) rfl rfl rfl) (congrArg Value.bool (decide_eq_false (by omega)))) ?_
  refine at_d rfl rfl (opr_move rfl rfl) ?_
  refine at_d rfl rfl (opr_move rfl rfl) ?_
  refine at_d rfl rfl (opr_call rfl rfl rfl Tryd.func22 (by kernel_rfl) rfl (iFromX_ct (jo := jo) (jr := jr) (il := il) hO hR (by omega) hl hcs hbn hb hn)) ?_
  refine at_d rfl rfl (opr_move rfl rfl) ?_
  refine at_d rfl rfl (opr_call rfl rfl rfl Tryd.func8 (by kernel_rfl) rfl (reduce_ct (il := il) hl hcs hbn hb (by omega))) ?_
  refine at_d rfl rfl (opr_call rfl rfl rfl Tryd.func9 (by kernel_rfl) rfl (isT_ct rfl (mq_RR _))) ?_
  refine at_d rfl rfl (opr_move rfl rfl) ?_
  refine at_d rfl rfl (opr_call rfl rfl rfl Tryd.func23 (by kernel_rfl) rfl (iOrder_ct (jo := jo) hO)) ?_
  refine at_d rfl rfl (opr_call rfl rfl rfl Tryd.func14 (by kernel_rfl) rfl (sOrder_ct)) ?_
  refine at_d rfl rfl (opr_call rfl rfl rfl Tryd.func9 (by kernel_rfl) rfl (isT_ct rfl qq_RR)) ?_
  refine at_d rfl rfl (opr_pickT rfl rfl rfl) ?_
  refine at_d rfl rfl (opr_pickN rfl rfl rfl) ?_
  refine at_d rfl rfl (opr_assign rfl rfl) ?_
  refine at_nil ?_
  refine at_then ?_
  refine at_ret ?_
  refine done_of (res1 Tryd.results7 (res_tmp rfl)) ⟨rfl, rfl⟩ (by repeat (first | exact List.Sublist.refl _ | apply List.Sublist.cons))
theorem lawW_ct {M : Mem} {jo To : Nat} (hO : M[jo]? = some ⟨0, To, EE [qq]⟩) {jr Tr : Nat} (hR : M[jr]? = some ⟨1, Tr, W (digs 18446744073709551616 4 r448)⟩) (hjr : jo ≠ jr) {gl off n c : Nat} {bs : List Nat} (hbn : bs.length = n) (hb : ∀ d ∈ bs, d < 256) (hn : n ≤ 200) : CtW Tryd.prog 7 #[.slice (some ⟨gl, off, none⟩) n c] gl off (bs.map u8V) M (Det (.bool true) M) := by
  refine ct_ofW (vs := [.slice (some ⟨gl, off, none⟩) n c]) Tryd.func7 rfl Tryd.ntmps7 rfl fun w0 hro => ?_
  refine at_seq ?_
  refine at_region ?_
  refine at_d rfl rfl (opr_assign rfl rfl) ?_
  refine at_nil ?_
  refine at_then ?_
  refine at_seq ?_
  refine at_seq ?_
  refine at_region ?_
  refine at_d rfl rfl (opr_move rfl rfl) ?_
  refine at_d rfl rfl (opr_lenS (n := n) rfl rfl Tryd.underlying27) ?_
  refine at_d rfl rfl (opr_eq' (opr_gtr (a := n) (b := 2147483647) rfl rfl rfl) (congrArg Value.bool (decide_eq_false (by omega)))) ?_
  refine at_nil ?_
  refine at_then ?_
  refine at_cond_false rfl ?_
  refine at_skip ?_
  refine at_then ?_
  refine at_seq ?_
  refine at_region ?_
  refine at_d rfl rfl (opr_move rfl rfl) ?_
  refine at_d rfl rfl (opr_lenS (n := n) rfl rfl Tryd.underlying27) ?_
  refine at_d rfl rfl (opr_eq' (opr_gtr (a := n) (b := 200) rfl rfl rfl) (congrArg Value.bool (decide_eq_false (by omega)))) ?_
  refine at_d rfl rfl (opr_move rfl rfl) ?_
  refine at_d rfl rfl (opr_move rfl rfl) ?_
  refine at_dW hro rfl rfl (opr_callW rfl rfl rfl Tryd.func22 (by kernel_rfl) rfl (iFromW_ct (jo := jo) (jr := jr) hO hR (by omega) hbn hb hn)) ?_
  refine at_d rfl rfl (opr_move rfl rfl) ?_
  refine at_dW hro rfl rfl (opr_callW rfl rfl rfl Tryd.func8 (by kernel_rfl) rfl (reduceW_ct hbn hb (by omega))) ?_
  refine at_d rfl rfl (opr_call rfl rfl rfl Tryd.func9 (by kernel_rfl) rfl (isT_ct rfl (mq_RR _))) ?_
  refine at_d rfl rfl (opr_move rfl rfl) ?_
  refine at_d rfl rfl (opr_call rfl rfl rfl Tryd.func23 (by kernel_rfl) rfl (iOrder_ct (jo := jo) hO)) ?_
  refine at_d rfl rfl (opr_call rfl rfl rfl Tryd.func14 (by kernel_rfl) rfl (sOrder_ct)) ?_
  refine at_d rfl rfl (opr_call rfl rfl rfl Tryd.func9 (by kernel_rfl) rfl (isT_ct rfl qq_RR)) ?_
  refine at_d rfl rfl (opr_pickT rfl rfl rfl) ?_
  refine at_d rfl rfl (opr_pickN rfl rfl rfl) ?_
  refine at_d rfl rfl (opr_assign rfl rfl) ?_
  refine at_nil ?_
  refine at_then ?_
  refine at_ret ?_
  refine done_of (res1 Tryd.results7 (res_tmp rfl)) ⟨rfl, rfl⟩ (by repeat (first | exact List.Sublist.refl _ | apply List.Sublist.cons))
theorem lawE_ct {M : Mem} {jo To : Nat} (hO : M[jo]? = some ⟨0, To, EE [qq]⟩) {ad : Addr} {c : Nat} : Ct Tryd.prog 7 #[.slice (some ad) 0 c] M (Det (.bool true) M) := by
  refine ct_of (vs := [.slice (some ad) 0 c]) Tryd.func7 rfl Tryd.ntmps7 rfl fun w0 => ?_
  refine at_seq ?_
  refine at_region ?_
  refine at_d rfl rfl (opr_assign rfl rfl) ?_
  refine at_nil ?_
  refine at_then ?_
  refine at_seq ?_
  refine at_seq ?_
  refine at_region ?_
  refine at_d rfl rfl (opr_move rfl rfl) ?_
  refine at_d rfl rfl (opr_lenS (n := 0) rfl rfl Tryd.underlying27) ?_
  refine at_d rfl rfl (opr_eq' (opr_gtr (a := 0) (b := 2147483647) rfl rfl rfl) (congrArg Value.bool (decide_eq_false (by omega)))) ?_
  refine at_nil ?_
  refine at_then ?_
  refine at_cond_false rfl ?_
  refine at_skip ?_
  refine at_then ?_
  refine at_seq ?_
  refine at_region ?_
  refine at_d rfl rfl (opr_move rfl rfl) ?_
  refine at_d rfl rfl (opr_lenS (n := 0) rfl rfl Tryd.underlying27) ?_
  refine at_d rfl rfl (opr_eq' (opr_gtr (a := 0) (b := 200) rfl rfl rfl) (congrArg Value.bool (decide_eq_false (by omega)))) ?_
  refine at_d rfl rfl (opr_move rfl rfl) ?_
  refine at_d rfl rfl (opr_move rfl rfl) ?_
  refine at_d rfl rfl (opr_call rfl rfl rfl Tryd.func22 (by kernel_rfl) rfl (iFromE_ct)) ?_
  refine at_d rfl rfl (opr_move rfl rfl) ?_
  refine at_d rfl rfl (opr_call rfl rfl rfl Tryd.func8 (by kernel_rfl) rfl (reduce0_ct)) ?_
  refine at_d rfl rfl (opr_call rfl rfl rfl Tryd.func9 (by kernel_rfl) rfl (isT_ct rfl (by decide))) ?_
  refine at_d rfl rfl (opr_move rfl rfl) ?_
  refine at_d rfl rfl (opr_call rfl rfl rfl Tryd.func23 (by kernel_rfl) rfl (iOrder_ct (jo := jo) hO)) ?_
  refine at_d rfl rfl (opr_call rfl rfl rfl Tryd.func14 (by kernel_rfl) rfl (sOrder_ct)) ?_
  refine at_d rfl rfl (opr_call rfl rfl rfl Tryd.func9 (by kernel_rfl) rfl (isT_ct rfl qq_RR)) ?_
  refine at_d rfl rfl (opr_pickT rfl rfl rfl) ?_
  refine at_d rfl rfl (opr_pickN rfl rfl rfl) ?_
  refine at_d rfl rfl (opr_assign rfl rfl) ?_
  refine at_nil ?_
  refine at_then ?_
  refine at_ret ?_
  refine done_of (res1 Tryd.results7 (res_tmp rfl)) ⟨rfl, rfl⟩ (by repeat (first | exact List.Sublist.refl _ | apply List.Sublist.cons))
theorem lawN_ct {M : Mem} {jo To : Nat} (hO : M[jo]? = some ⟨0, To, EE [qq]⟩) : Ct Tryd.prog 7 #[.slice none 0 0] M (Det (.bool true) M) := by
  refine ct_of (vs := [.slice none 0 0]) Tryd.func7 rfl Tryd.ntmps7 rfl fun w0 => ?_
  refine at_seq ?_
  refine at_region ?_
  refine at_d rfl rfl (opr_assign rfl rfl) ?_
  refine at_nil ?_
  refine at_then ?_
  refine at_seq ?_
  refine at_seq ?_
  refine at_region ?_
  refine at_d rfl rfl (opr_move rfl rfl) ?_
  refine at_d rfl rfl (opr_lenS (n := 0) rfl rfl Tryd.underlying27) ?_
  refine at_d rfl rfl (opr_eq' (opr_gtr (a := 0) (b := 2147483647) rfl rfl rfl) (congrArg Value.bool (decide_eq_false (by omega)))) ?_
  refine at_nil ?_
  refine at_then ?_
  refine at_cond_false rfl ?_
  refine at_skip ?_
  refine at_then ?_
  refine at_seq ?_
  refine at_region ?_
  refine at_d rfl rfl (opr_move rfl rfl) ?_
  refine at_d rfl rfl (opr_lenS (n := 0) rfl rfl Tryd.underlying27) ?_
  refine at_d rfl rfl (opr_eq' (opr_gtr (a := 0) (b := 200) rfl rfl rfl) (congrArg Value.bool (decide_eq_false (by omega)))) ?_
  refine at_d rfl rfl (opr_move rfl rfl) ?_
  refine at_d rfl rfl (opr_move rfl rfl) ?_
  refine at_d rfl rfl (opr_call rfl rfl rfl Tryd.func22 (by kernel_rfl) rfl (iFromN_ct)) ?_
  refine at_d rfl rfl (opr_move rfl rfl) ?_
  refine at_d rfl rfl (opr_call rfl rfl rfl Tryd.func8 (by kernel_rfl) rfl (reduce0_ct)) ?_
  refine at_d rfl rfl (opr_call rfl rfl rfl Tryd.func9 (by kernel_rfl) rfl (isT_ct rfl (by decide))) ?_
  refine at_d rfl rfl (opr_move rfl rfl) ?_
  refine at_d rfl rfl (opr_call rfl rfl rfl Tryd.func23 (by kernel_rfl) rfl (iOrder_ct (jo := jo) hO)) ?_
  refine at_d rfl rfl (opr_call rfl rfl rfl Tryd.func14 (by kernel_rfl) rfl (sOrder_ct)) ?_
  refine at_d rfl rfl (opr_call rfl rfl rfl Tryd.func9 (by kernel_rfl) rfl (isT_ct rfl qq_RR)) ?_
  refine at_d rfl rfl (opr_pickT rfl rfl rfl) ?_
  refine at_d rfl rfl (opr_pickN rfl rfl rfl) ?_
  refine at_d rfl rfl (opr_assign rfl rfl) ?_
  refine at_nil ?_
  refine at_then ?_
  refine at_ret ?_
  refine done_of (res1 Tryd.results7 (res_tmp rfl)) ⟨rfl, rfl⟩ (by repeat (first | exact List.Sublist.refl _ | apply List.Sublist.cons))
theorem fnScalarFromIs_ct {M : Mem} {jo To : Nat} (hO : M[jo]? = some ⟨0, To, EE [qq]⟩) {jr Tr : Nat} (hR : M[jr]? = some ⟨1, Tr, W (digs 18446744073709551616 4 r448)⟩) (hjr : jo ≠ jr) {il gl Tl off n c : Nat} {cs : List Value} {bs : List Nat} (hl : M[il]? = some ⟨gl, Tl, cs⟩) (hcs : (cs.drop off).take n = bs.map u8V) (hbn : bs.length = n) (hb : ∀ d ∈ bs, d < 256) : Ct Tryd.prog 7 #[.slice (some ⟨gl, off, none⟩) n c] M (Det (.bool true) M) := by
  rcases Nat.lt_or_ge 2147483647 n with h | h
  · exact lawBig_ct h
  rcases Nat.lt_or_ge 200 n with h2 | h2
  · exact lawMid_ct h h2
  exact lawX_ct hO hR hjr hl hcs hbn hb h2
theorem fnScalarFromIsW_ct {M : Mem} {jo To : Nat} (hO : M[jo]? = some ⟨0, To, EE [qq]⟩) {jr Tr : Nat} (hR : M[jr]? = some ⟨1, Tr, W (digs 18446744073709551616 4 r448)⟩) (hjr : jo ≠ jr) {gl off n c : Nat} {bs : List Nat} (hbn : bs.length = n) (hb : ∀ d ∈ bs, d < 256) : CtW Tryd.prog 7 #[.slice (some ⟨gl, off, none⟩) n c] gl off (bs.map u8V) M (Det (.bool true) M) := by
  rcases Nat.lt_or_ge 2147483647 n with h | h
  · exact fun w hw _ => lawBig_ct h w hw
  rcases Nat.lt_or_ge 200 n with h2 | h2
  · exact fun w hw _ => lawMid_ct h h2 w hw
  exact lawW_ct hO hR hjr hbn hb h2
end Go.Proofs.YtflbkfjemmmipaaDoor
