/- A structure of two arrays of bytes as an argument. -/
import Derived.Test.YtjlhhcdefcofkaaGreatDoorLaid
import Derived.ChangeSame
namespace Go.Proofs.YtjlhhcdefcofkaaGreatDoor
open Go Go.ChangeShapes Go.WideShapes Go.ChangeAt Go.WideMaps Go.WideElems Go.RowKit
theorem open_pt {H : Type} {enc : TypeId × Value → H} {P : Program} {A T e : Nat} {f0 f1 : Field} (hA : P.underlying A = some (.struct #[f0, f1])) (h0 : (f0.type == T && f0.offset == 0) = true) (h1 : (f1.type == T && f1.offset == 56) = true) (ht : P.underlying T = some (.array 56 e)) (he : P.underlying e = some (.int .u8)) (hcA : P.cellsOf A = 112) (hce : P.cellsOf e = 1) (hct : P.cellsOf T = 56) {W : World} {base b : Nat} {sp : Nat → Bool} {hd : Bool} {v : Value} {d : DataW H} {ps : List MemPlace}
    (hok : Value.okWide P W .any base A v) (h : DataW.Trod enc P W b sp hd A v d ps) : ∃ x y : Nat, x < RR ∧ y < RR ∧ v = .agg (EE [x, y]).toArray := by
  simp only [Bool.and_eq_true, beq_iff_eq] at h0 h1
  obtain ⟨t0, o0⟩ := h0
  obtain ⟨t1, o1⟩ := h1
  obtain ⟨cs, rfl, hsz, _⟩ : ∃ cs, v = .agg cs ∧ cs.size = P.cellsOf A ∧ Row.okWide P W .any base A cs := by
    simpa [Value.okWide, hA] using hok
  obtain ⟨fuel, hf⟩ := h
  obtain ⟨y0, y1, m, _, hlen, hy0, hy1⟩ := trod_struct2 hA hf
  have hce2 : (Value.agg cs).cells.toList = cs.toList := rfl
  rw [hce2] at hlen hy0 hy1
  rw [t0, o0, hct] at hy0
  rw [t1, o1, hct] at hy1
  obtain ⟨l, h2, h3, h4⟩ := ee_some 2 cs.toList (by rw [hlen, hcA]) (fun i hi => by
    match i, hi with
    | 0, _ => exact trod_some_elt ht he hce hct hy0
    | 1, _ => exact trod_some_elt ht he hce hct hy1)
  match l, h2 with
  | [x, y], _ => exact ⟨x, y, h3 x (by simp), h3 y (by simp), by rw [← h4]⟩
theorem trodVars_len {H : Type} {enc : TypeId × Value → H} {P : Program} {w : World} {sp : Nat → Bool} : ∀ {ns : List String} {gs : List (DataW H)} {ps : List MemPlace}, DataW.TrodVars enc P w sp ns gs ps → gs.length = ns.length
  | [], gs, ps, h => by
    obtain ⟨rfl, rfl⟩ := trodVars_none h
    rfl
  | n :: ns, gs, ps, h => by
    match gs, h with
    | [], h => exact absurd h (by simp [DataW.TrodVars])
    | g :: gs, h =>
      obtain ⟨_, _, _, _, _, _, _, _, _, _, h', _⟩ := h
      rw [List.length_cons, List.length_cons, trodVars_len h']
theorem three_list {α : Type} {l : List α} (h : l.length = 3) : ∃ a b c, l = [a, b, c] := by
  match l, h with
  | [a, b, c], _ => exact ⟨a, b, c, rfl⟩
theorem four_list {α : Type} {l : List α} (h : l.length = 4) : ∃ a b c d, l = [a, b, c, d] := by
  match l, h with
  | [a, b, c, d], _ => exact ⟨a, b, c, d, rfl⟩
theorem five_list {α : Type} {l : List α} (h : l.length = 5) : ∃ a b c d e, l = [a, b, c, d, e] := by
  match l, h with
  | [a, b, c, d, e], _ => exact ⟨a, b, c, d, e, rfl⟩
theorem six_list {α : Type} {l : List α} (h : l.length = 6) : ∃ a b c d e f, l = [a, b, c, d, e, f] := by
  match l, h with
  | [a, b, c, d, e, f], _ => exact ⟨a, b, c, d, e, f, rfl⟩
end Go.Proofs.YtjlhhcdefcofkaaGreatDoor
