/- A structure of two arrays of bytes as an argument. -/
import Derived.Test.YtjanppnnioeifaaDoorLaid
import Derived.ChangeSame
namespace Go.Proofs.YtjanppnnioeifaaDoor
open Go Go.ChangeShapes Go.WideShapes Go.ChangeAt Go.WideMaps Go.WideElems Go.RowKit
theorem open_pt {H : Type} {enc : TypeId × Value → H} {P : Program} {A T e : Nat} {f0 f1 : Field} (hA : P.underlying A = some (.struct #[f0, f1])) (h0 : (f0.type == T && f0.offset == 0) = true) (h1 : (f1.type == T && f1.offset == 56) = true) (ht : P.underlying T = some (.array 56 e)) (he : P.underlying e = some (.int .u8)) (hcA : P.cellsOf A = 112) (hce : P.cellsOf e = 1) (hct : P.cellsOf T = 56) {W : World} {base b : Nat} {sp : Nat → Bool} {hd : Bool} {v : Value} {d : DataW H} {ps : List MemPlace}
    (hok : Value.okWide P W .any base A v) (h : DataW.Trod enc P W b sp hd A v d ps) : ∃ x y : Nat, x < RR ∧ y < RR ∧ v = .agg (EE [x, y]).toArray := by
  simp only [Bool.and_eq_true, beq_iff_eq] at h0 h1
  obtain ⟨t0, o0⟩ := h0
  obtain ⟨t1, o1⟩ := h1
  obtain ⟨cs, rfl, hsz, _⟩ : ∃ cs, v = .agg cs ∧ cs.size = P.cellsOf A ∧ Row.okWide P W .any base A cs := by
    simpa [Value.okWide, hA] using hok
  obtain ⟨fuel, hf⟩ := h
  obtain ⟨y0, y1, m, _, hlen, hy0, hy1⟩ := trod_struct2 hA hf
  have hce2 : (Value.agg cs).cells.toList = cs.toList := rfl
  rw [hce2] at hlen hy0 hy1
  rw [t0, o0, hct] at hy0
  rw [t1, o1, hct] at hy1
  obtain ⟨l, h2, h3, h4⟩ := ee_some 2 cs.toList (by rw [hlen, hcA]) (fun i hi => by
    match i, hi with
    | 0, _ => exact trod_some_elt ht he hce hct hy0
    | 1, _ => exact trod_some_elt ht he hce hct hy1)
  match l, h2 with
  | [x, y], _ => exact ⟨x, y, h3 x (by simp), h3 y (by simp), by rw [← h4]⟩
end Go.Proofs.YtjanppnnioeifaaDoor
