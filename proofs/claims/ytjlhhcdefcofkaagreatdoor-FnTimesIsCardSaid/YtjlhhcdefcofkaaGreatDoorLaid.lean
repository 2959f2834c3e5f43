/- Listed variables one behind the other; arrays of elements among them. -/
import Derived.Test.YtjlhhcdefcofkaaGreatDoorRow
namespace Go.Proofs.YtjlhhcdefcofkaaGreatDoor
open Go Go.ChangeShapes Go.WideShapes Go.ChangeAt Go.WideMaps Go.WideElems Go.RowKit
theorem laid_tail {P : Program} {W : World} {x : String × DataW Unit} {rest : List (String × DataW Unit)} (h : laidMet P (x :: rest) W) : laidMet P rest W := by
  obtain ⟨name, d⟩ := x
  obtain ⟨ps, ⟨g, t, cs, fuel, p, q, _, _, _, _, hr, rfl⟩, hn, hf⟩ := h
  exact ⟨q, hr, (List.nodup_append.1 hn).2.1, fun b off hb => hf b off (List.mem_append_right _ hb)⟩
theorem laid_heap {P : Program} {W : World} {name : String} {d : DataW Unit} {rest : List (String × DataW Unit)} {g T : Nat} (hg : P.globalNamed name = some g) (hty : (P.globals[g]?).map (·.type) = some T) (h : laidMet P ((name, d) :: rest) W) :
    ∃ (cs : Array Value) (fuel : Nat) (p : List MemPlace) (t : Nat), DataW.trod (fun _ => ()) P W 0 (fun _ => true) false fuel T cs.toList = some (d, p) ∧ (0 < cs.size → W.heap[g]? = some (.cells cs t (0, 0))) := by
  obtain ⟨ps, ⟨g', t', cs, fuel, p, q, hg', hty', hvar, hd, _, rfl⟩, _, hfr⟩ := h
  obtain rfl := Option.some.inj (hg.symm.trans hg')
  obtain rfl := Option.some.inj (hty.symm.trans hty')
  by_cases h0 : 0 < cs.size
  · have hmem : MemPlace.cell g 0 ∈ MemPlace.row ⟨g, 0, none⟩ cs.size ++ p ++ q := by
      apply List.mem_append_left
      apply List.mem_append_left
      simp only [MemPlace.row, List.mem_map, List.mem_range]
      exact ⟨0, h0, rfl⟩
    obtain ⟨⟨c, t, hheap⟩, _⟩ := hfr g 0 hmem
    refine ⟨cs, fuel, p, t, hd, fun _ => ?_⟩
    unfold World.var? at hvar
    rw [hg] at hvar
    simp only [Option.bind_some, hheap, Option.some.injEq] at hvar
    rw [hheap, hvar]
  · exact ⟨cs, fuel, p, 0, hd, fun h => absurd h h0⟩
def eltData {H : Type} (a : Nat) : DataW H := Lib.tabData .u8 ((digs 256 56 a).map fun d : Nat => (d : Int))
theorem trod_elt {H : Type} {enc : TypeId × Value → H} {P : Program} {T e : Nat} (ht : P.underlying T = some (.array 56 e)) (he : P.underlying e = some (.int .u8)) (hce : P.cellsOf e = 1) (hct : P.cellsOf T = 56) {W : World} {b fuel a : Nat} {sp : Nat → Bool} {hd : Bool} {cs : List Value} {p : List MemPlace}
    (h : DataW.trod enc P W b sp hd fuel T cs = some (eltData a, p)) : cs = E a := by
  have h2 := Lib.cells_of_tab ht he hce hct h
  rw [h2, List.map_map, E]
  rfl
theorem ee_of : ∀ (l : List Nat) (cs : List Value), cs.length = 56 * l.length → (∀ i a, l[i]? = some a → (cs.drop (i * 56)).take 56 = E a) → cs = EE l
  | [], cs, hl, _ => by
    have : cs = [] := List.length_eq_zero_iff.1 (by simpa using hl)
    rw [this]; rfl
  | a :: l, cs, hl, h => by
    have h0 := h 0 a rfl
    rw [Nat.zero_mul, List.drop_zero] at h0
    have ih := ee_of l (cs.drop 56) (by rw [List.length_drop, hl, List.length_cons]; omega) (fun i b hb => by
      have := h (i + 1) b (by simpa using hb)
      rw [List.drop_drop]
      rwa [show 56 + i * 56 = (i + 1) * 56 by omega])
    rw [EE, ← h0, ← ih, List.take_append_drop]
theorem laid_elts {P : Program} {W : World} {name : String} {rest : List (String × DataW Unit)} {g A T e n : Nat} {l : List Nat} (hg : P.globalNamed name = some g) (hty : (P.globals[g]?).map (·.type) = some A) (hA : P.underlying A = some (.array n T)) (hcA : P.cellsOf A = 56 * n) (ht : P.underlying T = some (.array 56 e)) (he : P.underlying e = some (.int .u8)) (hce : P.cellsOf e = 1) (hct : P.cellsOf T = 56)
    (hn : l.length = n) (hn0 : 0 < n) (h : laidMet P ((name, .agg (l.map eltData)) :: rest) W) : ∃ t, W.heap[g]? = some (.cells (EE l).toArray t (0, 0)) := by
  obtain ⟨cs, fuel, p, t, hd, hh⟩ := laid_heap hg hty h
  obtain ⟨xs, m, rfl, hx, hlen, hxl, hel⟩ := DataW.trod_array hA hd
  simp only [Prod.mk.injEq, DataW.agg.injEq] at hx
  have hcs : cs.toList = EE l := by
    refine ee_of l _ (by rw [hlen, hcA, hn]) fun i a hi => ?_
    have hi' : i < l.length := (List.getElem?_eq_some_iff.1 hi).1
    have h1 := hel i (by omega)
    rw [hct, List.getElem?_eq_getElem (by omega)] at h1
    have h2 : (xs.map (·.1))[i]? = some (eltData a) := by rw [← hx.1, List.getElem?_map, hi]; rfl
    rw [List.getElem?_map, List.getElem?_eq_getElem (by omega), Option.map_some, Option.some.injEq] at h2
    have h3 : xs[i]'(by omega) = (eltData a, (xs[i]'(by omega)).2) := by rw [← h2]
    rw [h3] at h1
    exact trod_elt ht he hce hct h1
  refine ⟨t, ?_⟩
  rw [hh (by rw [← Array.length_toList, hcs, EE_length, hn]; omega), ← hcs]
theorem trod_some_elt {H : Type} {enc : TypeId × Value → H} {P : Program} {T e : Nat} (ht : P.underlying T = some (.array 56 e)) (he : P.underlying e = some (.int .u8)) (hce : P.cellsOf e = 1) (hct : P.cellsOf T = 56) {W : World} {b fuel : Nat} {sp : Nat → Bool} {hd : Bool} {cs : List Value} {x : DataW H × List MemPlace}
    (h : DataW.trod enc P W b sp hd fuel T cs = some x) : ∃ a, a < RR ∧ cs = E a := by
  obtain ⟨xs, m, rfl, _, hlen, hn, hel⟩ := DataW.trod_array ht h
  have hlen' : cs.length = 56 := hlen.trans hct
  have hcell : ∀ i, i < 56 → ∃ x : Nat, x < 256 ∧ cs[i]? = some (u8V x) := by
    intro i hi
    have h1 := hel i hi
    rw [hce, Nat.mul_one] at h1
    have hix : i < xs.length := by omega
    rw [List.getElem?_eq_getElem hix] at h1
    obtain ⟨x, hx, _, hw⟩ := DataW.trod_int he h1
    have hi' : i < cs.length := by omega
    rw [List.drop_eq_getElem_cons hi', List.take_succ_cons, List.take_zero] at hx
    simp only [List.cons.injEq, and_true] at hx
    simp [Lit.wf, IntKind.min, IntKind.max, IntKind.signed, IntKind.bits] at hw
    refine ⟨x.toNat, by omega, ?_⟩
    rw [List.getElem?_eq_getElem hi', hx, u8V]
    congr 2
    omega
  let g : Value → Nat := fun v => match v with | .int _ n => n.toNat | _ => 0
  have hg : ∀ x, g (u8V x) = x := fun x => by simp [g, u8V]
  let l := cs.map g
  have hl : l.length = 56 := by simp [l]; simpa using hlen'
  have hlt : ∀ y ∈ l, y < 256 := by
    intro y hy
    obtain ⟨i, hi⟩ := List.getElem?_of_mem hy
    have hi' : i < 56 := by have := (List.getElem?_eq_some_iff.1 hi).1; omega
    obtain ⟨x, hx, hxc⟩ := hcell i hi'
    simp only [l, List.getElem?_map, hxc, Option.map_some, hg, Option.some.injEq] at hi
    omega
  have hcs : cs = l.map u8V := by
    apply List.ext_getElem?
    intro i
    by_cases hi : i < 56
    · obtain ⟨x, hx, hxc⟩ := hcell i hi
      simp only [l, List.getElem?_map, hxc, Option.map_some, hg]
    · rw [List.getElem?_eq_none (by omega), List.getElem?_eq_none (by rw [List.length_map, hl]; omega)]
  have hdig := digs_dval l hlt
  rw [hl] at hdig
  have h56 : (256 : Nat) ^ 56 = RR := by decide +kernel
  refine ⟨dval 256 l, by rw [← h56, ← hl]; exact dval_lt l hlt, ?_⟩
  rw [E, hdig, ← hcs]
theorem ee_some : ∀ (n : Nat) (cs : List Value), cs.length = 56 * n → (∀ i, i < n → ∃ a, a < RR ∧ (cs.drop (i * 56)).take 56 = E a) → ∃ l : List Nat, l.length = n ∧ (∀ a ∈ l, a < RR) ∧ cs = EE l
  | 0, cs, hl, _ => by
    have h0 : cs = [] := List.length_eq_zero_iff.1 (by simpa using hl)
    exact ⟨[], rfl, by simp, by rw [h0]; rfl⟩
  | n + 1, cs, hl, h => by
    obtain ⟨a, ha, h0⟩ := h 0 (by omega)
    rw [Nat.zero_mul, List.drop_zero] at h0
    obtain ⟨l, h1, h2, h3⟩ := ee_some n (cs.drop 56) (by rw [List.length_drop, hl]; omega) (fun i hi => by
      obtain ⟨b, hb, h4⟩ := h (i + 1) (by omega)
      refine ⟨b, hb, ?_⟩
      rw [List.drop_drop]
      rwa [show 56 + i * 56 = (i + 1) * 56 by omega])
    refine ⟨a :: l, by simp [h1], fun b hb => ?_, by rw [EE, ← h0, ← h3, List.take_append_drop]⟩
    rcases List.mem_cons.1 hb with rfl | hb
    · exact ha
    · exact h2 b hb
/-- An array of elements, by value. -/
theorem open_elts {H : Type} {enc : TypeId × Value → H} {P : Program} {A T e n : Nat} (hA : P.underlying A = some (.array n T)) (ht : P.underlying T = some (.array 56 e)) (he : P.underlying e = some (.int .u8)) (hcA : P.cellsOf A = 56 * n) (hce : P.cellsOf e = 1) (hct : P.cellsOf T = 56) {W : World} {base b : Nat} {sp : Nat → Bool} {hd : Bool} {v : Value} {d : DataW H} {ps : List MemPlace}
    (hok : Value.okWide P W .any base A v) (h : DataW.Trod enc P W b sp hd A v d ps) : ∃ l : List Nat, l.length = n ∧ (∀ a ∈ l, a < RR) ∧ v = .agg (EE l).toArray := by
  obtain ⟨cs, rfl, hsz, _⟩ : ∃ cs, v = .agg cs ∧ cs.size = P.cellsOf A ∧ Row.okWide P W .any base A cs := by
    simpa [Value.okWide, hA] using hok
  obtain ⟨fuel, hf⟩ := h
  obtain ⟨xs, m, rfl, _, hlen, hxl, hel⟩ := DataW.trod_array hA hf
  have hce2 : (Value.agg cs).cells.toList = cs.toList := rfl
  rw [hce2] at hlen hel
  obtain ⟨l, h1, h2, h3⟩ := ee_some n cs.toList (by rw [hlen, hcA]) (fun i hi => by
    have h4 := hel i hi
    rw [hct, List.getElem?_eq_getElem (by omega)] at h4
    exact trod_some_elt ht he hce hct h4)
  exact ⟨l, h1, h2, by rw [← h3]⟩
theorem five_of {l : List Nat} (h : l.length = 5) (hl : ∀ a ∈ l, a < RR) : ∃ a b c d e, l = [a, b, c, d, e] ∧ a < RR ∧ b < RR ∧ c < RR ∧ d < RR ∧ e < RR := by
  match l, h with
  | [a, b, c, d, e], _ => exact ⟨a, b, c, d, e, rfl, hl a (by simp), hl b (by simp), hl c (by simp), hl d (by simp), hl e (by simp)⟩
theorem laid_elt {P : Program} {W : World} {name : String} {rest : List (String × DataW Unit)} {g T e a : Nat} (hg : P.globalNamed name = some g) (hty : (P.globals[g]?).map (·.type) = some T) (ht : P.underlying T = some (.array 56 e)) (he : P.underlying e = some (.int .u8)) (hce : P.cellsOf e = 1) (hct : P.cellsOf T = 56)
    (h : laidMet P ((name, eltData a) :: rest) W) : ∃ t, W.heap[g]? = some (.cells (EE [a]).toArray t (0, 0)) := by
  obtain ⟨cs, fuel, p, t, hd, hh⟩ := laid_heap hg hty h
  have hcs := trod_elt ht he hce hct hd
  refine ⟨t, ?_⟩
  rw [hh (by rw [← Array.length_toList, hcs, E_length]; decide), EE_one, ← hcs]
/-- Words of 64 bits as data. -/
def wordsData {H : Type} (l : List Nat) : DataW H := Lib.tabData .u64 (l.map fun d : Nat => (d : Int))
theorem laid_words {P : Program} {W : World} {name : String} {rest : List (String × DataW Unit)} {g A e n : Nat} {l : List Nat} (hg : P.globalNamed name = some g) (hty : (P.globals[g]?).map (·.type) = some A) (ht : P.underlying A = some (.array n e)) (he : P.underlying e = some (.int .u64)) (hce : P.cellsOf e = 1) (hct : P.cellsOf A = n)
    (hl : 0 < l.length) (h : laidMet P ((name, wordsData l) :: rest) W) : ∃ t, W.heap[g]? = some (.cells (Go.Proofs.YtjlhhcdefcofkaaGreatDoor.W l).toArray t (0, 0)) := by
  obtain ⟨cs, fuel, p, t, hd, hh⟩ := laid_heap hg hty h
  have h2 := Lib.cells_of_tab ht he hce hct hd
  have hcs : cs.toList = Go.Proofs.YtjlhhcdefcofkaaGreatDoor.W l := by rw [h2, List.map_map]; rfl
  refine ⟨t, ?_⟩
  rw [hh (by rw [← Array.length_toList, hcs, Go.Proofs.YtjlhhcdefcofkaaGreatDoor.W, List.length_map]; exact hl), ← hcs]
theorem has_nil (W : World) : Has [] W := ⟨fun b hb => by (cases hb), List.nodup_nil⟩
theorem has_cons {W : World} {g T : Nat} {cs : List Value} {M : Mem} (h : W.heap[g]? = some (.cells cs.toArray T (0, 0))) (hne : g ∉ ids M) (hM : Has M W) : Has (⟨g, T, cs⟩ :: M) W :=
  ⟨fun b hb => by
    rcases List.mem_cons.1 hb with rfl | hb
    · exact h
    · exact hM.at_ b hb, List.nodup_cons.2 ⟨hne, hM.2⟩⟩
end Go.Proofs.YtjlhhcdefcofkaaGreatDoor
