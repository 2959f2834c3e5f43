/- A slice of bytes as an argument. -/
import Derived.Test.YtjanppnnioeifaaDoorLaid
import Derived.Test.YtjanppnnioeifaaDoorDrawB
import Derived.ChangeSlices
namespace Go.Proofs.YtjanppnnioeifaaDoor
open Go Go.ChangeShapes Go.WideShapes Go.ChangeAt Go.WideMaps Go.WideElems Go.RowKit
theorem open_bytes {H : Type} {enc : TypeId × Value → H} {P : Program} {T e : TypeId} (ht : P.underlying T = some (.slice e)) (he : P.underlying e = some (.int .u8)) (hc : P.cellsOf e = 1) {W : World} {base : Nat} {v : Value} {d : DataW H} {ps : List MemPlace}
    (hok : Value.okWide P W .any base T v) (h : DataW.Trod enc P W 0 (fun _ => true) true T v d ps) :
    v = .slice none 0 0 ∨ ∃ ad n c, v = .slice (some ad) n c ∧ n ≤ c ∧ (n = 0 ∨ ∃ (gl off : Nat) (bs : List Nat), ad = ⟨gl, off, none⟩ ∧ gl < W.heap.size ∧ (∀ (i : Nat) v, (bs.map u8V)[i]? = some v → W.cell? ⟨gl, off + i, none⟩ = some v) ∧ bs.length = n ∧ ∀ b ∈ bs, b < 256) := by
  obtain ⟨a0, len0, cap0, rfl⟩ := okWide_slice ht hok
  obtain ⟨fuel, hf⟩ := h
  rcases open_ints ht he hc hf with ⟨hcs, _⟩ | ⟨a, len, cap, zs, hcs, _, hl, _, hz, _, hcell, hwz⟩
  · simp [Value.cells] at hcs
    obtain ⟨rfl, rfl, rfl⟩ := hcs
    exact Or.inl rfl
  · simp [Value.cells] at hcs
    obtain ⟨rfl, rfl, rfl⟩ := hcs
    simp only [if_true] at hz
    refine Or.inr ⟨a, len0, cap0, rfl, hl, ?_⟩
    rcases Nat.eq_zero_or_pos len0 with h0 | h0
    · exact Or.inl h0
    refine Or.inr ?_
    obtain ⟨gl, off, sp⟩ := a
    obtain rfl : sp = none := by simpa [Addr.add] using World.cell?_spot (hcell 0 (by omega))
    have hadd : ∀ i, (⟨gl, off, none⟩ : Addr).add i = ⟨gl, off + i, none⟩ := fun i => by unfold Addr.add; split <;> simp_all
    have hby : ∀ i, i < len0 → 0 ≤ zs.getD i 0 ∧ zs.getD i 0 < 256 := fun i hi => by
      have hm : zs.getD i 0 ∈ zs := by
        rw [List.getD_eq_getElem?_getD, List.getElem?_eq_getElem (by omega)]
        exact List.getElem_mem _
      have hw := hwz _ hm
      have h1 : IntKind.u8.min = 0 := rfl
      have h2 : IntKind.u8.max = 255 := rfl
      simp only [Lit.wf, Bool.and_eq_true, decide_eq_true_eq] at hw
      omega
    let bs := (List.range len0).map fun i => (zs.getD i 0).toNat
    have hbl : bs.length = len0 := by simp [bs]
    refine ⟨gl, off, bs, rfl, ?_, ?_, hbl, ?_⟩
    · have h1 := World.block_lt_of_cell? _ _ (hcell 0 (by omega))
      rwa [hadd] at h1
    · intro i v hv
      have hi : i < len0 := by have := (List.getElem?_eq_some_iff.1 hv).1; simpa [bs] using this
      have h1 := hcell i (by omega)
      have h2 := hby i hi
      rw [hadd] at h1
      rw [h1, ← hv]
      simp only [bs, List.map_map, List.getElem?_map, List.getElem?_range hi, Option.map_some, Function.comp, u8V]
      congr 2
      omega
    · intro b hb
      obtain ⟨i, hi, rfl⟩ := List.mem_map.1 hb
      have := hby i (List.mem_range.1 hi)
      omega
theorem calls_trueW {P : Program} {f : FuncId} {args : Array Value} {g off : Nat} {vs : List Value} {M : Mem} {W : World} (h : CtW P f args g off vs M (Det (.bool true) M)) (hM : Has M W) (hr : Rd g off vs W (ids M)) : Calls P f args W fun e W' => e = .returned (.bool true) ∧ Below W.heap.size W W' :=
  (h W hM hr).mono fun e W' he => by
    obtain ⟨v, M', ⟨rfl, rfl⟩, rfl, hI⟩ := he
    exact ⟨rfl, below_of hM hI⟩
theorem cells_take {W : World} {g off T n : Nat} {cs : List Value} {vs : List Value} (hg : W.heap[g]? = some (.cells cs.toArray T (0, 0))) (h : ∀ (i : Nat) v, vs[i]? = some v → W.cell? ⟨g, off + i, none⟩ = some v) (hn : vs.length = n) : (cs.drop off).take n = vs := by
  apply List.ext_getElem?
  intro i
  by_cases hi : i < n
  · have h1 := h i _ (List.getElem?_eq_getElem (by omega))
    rw [cell_of_row W g (off + i) _ _ _ hg] at h1
    have hv : i < vs.length := by omega
    have h2 : cs[off + i]? = some vs[i] := by simpa using h1
    rw [List.getElem?_take_of_lt hi, List.getElem?_drop, h2, List.getElem?_eq_getElem hv]
  · rw [List.getElem?_eq_none (by rw [List.length_take]; omega), List.getElem?_eq_none (by omega)]
end Go.Proofs.YtjanppnnioeifaaDoor
