/- Literals whose parts are elements or numbers. -/
import Derived.Test.YtjlhhcdefcofkaaGreatDoorNN
import Derived.Test.YtjlhhcdefcofkaaGreatDoorProdA
import Derived.Great.FillDense
namespace Go.Proofs.YtjlhhcdefcofkaaGreatDoor
open Go
theorem splice_get {cs vs : List Value} {off k : Nat} (h : off + vs.length ≤ cs.length) : (splice cs off vs)[k]? = if off ≤ k ∧ k < off + vs.length then vs[k - off]? else cs[k]? := by
  have h1 : (cs.take off).length = off := by simp; omega
  rw [splice]
  by_cases hk : k < off
  · rw [if_neg (by omega), List.append_assoc, List.getElem?_append_left (by omega), List.getElem?_take_of_lt hk]
  · by_cases hk2 : k < off + vs.length
    · rw [if_pos ⟨by omega, hk2⟩, List.append_assoc, List.getElem?_append_right (by omega), h1, List.getElem?_append_left (by omega)]
    · rw [if_neg (by omega), List.getElem?_append_right (by simp; omega), List.getElem?_drop]
      congr 1
      simp
      omega
theorem fold_splice {cs vs : List Value} {off : Nat} (h : off + vs.length ≤ cs.length) : (vs.zipIdx 0).foldl (fun cs (x : Value × Nat) => cs.setIfInBounds (off + x.2) x.1) cs.toArray = (splice cs off vs).toArray := by
  obtain ⟨h1, h2⟩ := Go.Great.foldl_set off vs 0 cs.toArray
  apply Array.ext_getElem?
  intro k
  rw [h2 k]
  simp only [List.getElem?_toArray]
  rw [splice_get h]
  simp only [Nat.add_zero, List.size_toArray]
  by_cases hk : off ≤ k ∧ k < off + vs.length
  · rw [if_pos ⟨hk.1, hk.2, by omega⟩, if_pos hk]
  · rw [if_neg (fun h => hk ⟨h.1, h.2.1⟩), if_neg hk]
theorem fill_cons {place : Nat → Option (Nat × Nat)} {cs vs : List Value} {i off : Nat} {v : Value} {rest : List (Nat × Value)} (hv : v.cells = vs.toArray) (hp : place i = some (off, vs.length)) (h : off + vs.length ≤ cs.length) :
    Instr.fill place cs.toArray ((i, v) :: rest) = Instr.fill place (splice cs off vs).toArray rest := by
  rw [Instr.fill, hp]
  simp only [hv, List.size_toArray]
  rw [if_neg (by simp; omega), ← fold_splice h]
  congr 1
  rw [← Array.foldl_toList, Array.toList_zipIdx]
theorem fillEE {place : Nat → Option (Nat × Nat)} : ∀ (parts : List (Nat × Nat)) (l : List Nat), (parts.all fun p => decide (p.1 < l.length) && decide (place p.1 = some (56 * p.1, 56))) = true → Instr.fill place (EE l).toArray (parts.map fun p => (p.1, .agg (E p.2).toArray)) = some (EE (parts.foldl (fun l p => l.set p.1 p.2) l)).toArray
  | [], l, _ => rfl
  | (k, a) :: r, l, h => by
    simp only [List.all_cons, Bool.and_eq_true, decide_eq_true_eq] at h
    obtain ⟨⟨h1, h2⟩, h3⟩ := h
    rw [List.map_cons, fill_cons (vs := E a) (off := 56 * k) rfl (by rw [h2, E_length]) (by rw [E_length, EE_length]; omega), EE_set h1 rfl, List.foldl_cons]
    exact fillEE r _ (by simpa [List.length_set] using h3)
theorem fillNN {place : Nat → Option (Nat × Nat)} : ∀ (parts : List (Nat × Nat)) (l : List Nat), (parts.all fun p => decide (p.1 < l.length) && decide (place p.1 = some (28 * p.1, 28))) = true → Instr.fill place (NN l).toArray (parts.map fun p => (p.1, .agg (N p.2).toArray)) = some (NN (parts.foldl (fun l p => l.set p.1 p.2) l)).toArray
  | [], l, _ => rfl
  | (k, a) :: r, l, h => by
    simp only [List.all_cons, Bool.and_eq_true, decide_eq_true_eq] at h
    obtain ⟨⟨h1, h2⟩, h3⟩ := h
    rw [List.map_cons, fill_cons (vs := N a) (off := 28 * k) rfl (by rw [h2, N_length]) (by rw [N_length, NN_length]; omega), NN_set h1 rfl, List.foldl_cons]
    exact fillNN r _ (by simpa [List.length_set] using h3)
section
variable {P : Program} {T e n s : Nat} {zs : List Value} {parts : List (Nat × Value)}
theorem built_arr (hu : P.underlying T = some (.array n e)) (hz : (P.info? T).bind (·.zero) = some (.agg zs.toArray)) (hs : (P.info? e).map (·.size) = some s) : P.built T parts = Instr.fill (fun i => some (i * s, s)) zs.toArray parts := by
  obtain ⟨i, hi, hz'⟩ := Option.bind_eq_some_iff.1 hz
  obtain ⟨j, hj, rfl⟩ := Option.map_eq_some_iff.1 hs
  unfold Program.built
  rw [hi, hu]
  simp only [hz', hj]
  rfl
theorem built_str {fs : Array Field} {pl : List (Nat × Nat)} (hu : P.underlying T = some (.struct fs)) (hz : (P.info? T).bind (·.zero) = some (.agg zs.toArray)) (hp : fs.toList.mapM (fun f => (P.info? f.type).map fun i => (f.offset, i.size)) = some pl) : P.built T parts = Instr.fill (pl.toArray[·]?) zs.toArray parts := by
  obtain ⟨i, hi, hz'⟩ := Option.bind_eq_some_iff.1 hz
  unfold Program.built
  rw [hi, hu]
  simp only [hz', hp]
  rfl
end
end Go.Proofs.YtjlhhcdefcofkaaGreatDoor
