/- Sums of points, told. -/
import Derived.Test.YtjanppnnioeifaaDoorPtI
namespace Go.Proofs.YtjanppnnioeifaaDoor
open Go
set_option maxRecDepth 100000

theorem rep_plus {x1 y1 x2 y2 : Nat} {xa ya : Fin pp} (o1 : On (el dP) (el x1) (el y1)) (o2 : On (el dP) (el x2) (el y2)) (s : Sum (el dP) (el x1) (el y1) (el x2) (el y2) xa ya) : Rep xa ya (el (plX x1 y1 1 x2 y2 1)) (el (plY x1 y1 1 x2 y2 1)) (el (plZ x1 y1 1 x2 y2 1)) :=
  Rep.plus o1 o2 (rep_one _ _) (rep_one _ _) s (pl_el _ _ _ _ _ _)
theorem sum_eq {x1 y1 x2 y2 : Fin pp} {a b c d : Nat} (o1 : On (el dP) x1 y1) (o2 : On (el dP) x2 y2) (ha : a < pp) (hb : b < pp) (hc : c < pp) (hd : d < pp) (s : Sum (el dP) x1 y1 x2 y2 (el a) (el b)) (t : Sum (el dP) x1 y1 x2 y2 (el c) (el d)) : a = c ∧ b = d :=
  ⟨el_inj ha hc (s.uniq goldC o1 o2 t).1, el_inj hb hd (s.uniq goldC o1 o2 t).2⟩

end Go.Proofs.YtjanppnnioeifaaDoor
