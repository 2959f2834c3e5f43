/- A contract over few blocks, used among more of them. -/
import Derived.Test.YtjlhhcdefcofkaaGreatDoorEngA
namespace Go.Proofs.YtjlhhcdefcofkaaGreatDoor
open Go
theorem nodup_get {α : Type} {l : List α} : l.Nodup ↔ ∀ i j : Nat, i < j → j < l.length → l[i]? ≠ l[j]? := by
  rw [List.Nodup, List.pairwise_iff_getElem]
  constructor
  · intro h i j hij hj he
    rw [List.getElem?_eq_getElem (by omega), List.getElem?_eq_getElem hj] at he
    exact h i j (by omega) hj hij (Option.some.inj he)
  · intro h i j hi hj hij he
    apply h i j hij hj
    rw [List.getElem?_eq_getElem hi, List.getElem?_eq_getElem hj, he]
theorem ids_nodup_sub {M L : Mem} {idx : List Nat} (hM : (ids M).Nodup) (hid : idx.Nodup) (hlen : idx.length = L.length) (hL : ∀ k j : Nat, idx[k]? = some j → M[j]? = L[k]?) : (ids L).Nodup := by
  rw [nodup_get]
  intro i j hij hj
  have hj' : j < L.length := by simpa [ids] using hj
  have e1 : idx[i]? = some (idx[i]'(by omega)) := List.getElem?_eq_getElem _
  have e2 : idx[j]? = some (idx[j]'(by omega)) := List.getElem?_eq_getElem _
  have h1 := hL _ _ e1
  have h2 := hL _ _ e2
  intro h
  simp only [ids, List.getElem?_map] at h
  rw [← h1, ← h2] at h
  have l1 : L[i]? = some (L[i]'(by omega)) := List.getElem?_eq_getElem _
  have l2 : L[j]? = some (L[j]'(by omega)) := List.getElem?_eq_getElem _
  rw [l1] at h1
  rw [l2] at h2
  have b1 := (List.getElem?_eq_some_iff.1 h1).1
  have b2 := (List.getElem?_eq_some_iff.1 h2).1
  have hne : idx[i]'(by omega) ≠ idx[j]'(by omega) := by
    intro e
    have := (nodup_get.1 hid) i j hij (by omega)
    rw [e1, e2, e] at this
    exact this rfl
  have hnd := nodup_get.1 hM
  have : ∀ a b : Nat, a < b → b < M.length → (M[a]?).map Blk.g ≠ (M[b]?).map Blk.g := fun a b hab hb => by
    have := hnd a b hab (by simpa [ids] using hb)
    simpa only [ids, List.getElem?_map] using this
  rcases Nat.lt_or_gt_of_ne hne with hlt | hlt
  · exact this _ _ hlt b2 h
  · exact this _ _ hlt b1 h.symm
theorem ct_frame {P : Program} {f : FuncId} {args : Array Value} {M L : Mem} {idx : List Nat} {iz gz Tz : Nat} {cs0 : List Value} {R0 R : Value → Mem → Prop} (hz : M[iz]? = some ⟨gz, Tz, cs0⟩) (hid : (iz :: idx).Nodup) (hlen : idx.length = L.length) (hL : ∀ k j : Nat, idx[k]? = some j → M[j]? = L[k]?)
    (h : Ct P f args (⟨gz, Tz, cs0⟩ :: L) R0) (hR : ∀ v L', R0 v L' → ∃ cs, L' = ⟨gz, Tz, cs⟩ :: L ∧ R v (M.set iz ⟨gz, Tz, cs⟩)) : Ct P f args M R := by
  intro w hw
  have hL2 : ∀ k j : Nat, (iz :: idx)[k]? = some j → M[j]? = ((⟨gz, Tz, cs0⟩ :: L : Mem))[k]? := by
    intro k j hk
    match k with
    | 0 => simp only [List.getElem?_cons_zero, Option.some.injEq] at hk; subst hk; simpa using hz
    | k + 1 => simp only [List.getElem?_cons_succ] at hk ⊢; exact hL k j hk
  have hmem : ∀ b ∈ (⟨gz, Tz, cs0⟩ :: L : Mem), b ∈ M := by
    intro b hb
    obtain ⟨k, hk⟩ := List.getElem?_of_mem hb
    have hkl := (List.getElem?_eq_some_iff.1 hk).1
    have e1 : (iz :: idx)[k]? = some ((iz :: idx)[k]'(by simp at hkl ⊢; omega)) := List.getElem?_eq_getElem _
    have := hL2 _ _ e1
    rw [hk] at this
    exact List.mem_of_getElem? this
  have hw0 : Has (⟨gz, Tz, cs0⟩ :: L) w := ⟨fun b hb => hw.at_ b (hmem b hb), ids_nodup_sub hw.nodup hid (by simp [hlen]) hL2⟩
  refine (h w hw0).mono ?_
  rintro e w' ⟨v, L', hR0, rfl, hI⟩
  obtain ⟨cs, rfl, hR'⟩ := hR v L' hR0
  have hsub : ∀ g, g ∈ ids (⟨gz, Tz, cs0⟩ :: L) → g ∈ ids M := by
    intro g hg
    obtain ⟨b, hb, rfl⟩ := List.mem_map.1 hg
    exact List.mem_map.2 ⟨b, hmem b hb, rfl⟩
  have hids : ids (M.set iz ⟨gz, Tz, cs⟩) = ids M := ids_set hz _ rfl
  refine ⟨v, _, hR', rfl, ⟨⟨fun b hb => ?_, hids ▸ hw.nodup⟩, ⟨hI.stp.os, hI.stp.tape, hI.stp.output, hI.stp.size, fun k hk hS => hI.stp.block k hk (fun hm => hS (hsub k hm))⟩, fun b hb => .inl (by rw [← hids]; exact List.mem_map_of_mem hb)⟩⟩
  obtain ⟨j, hj⟩ := List.getElem?_of_mem hb
  by_cases hji : iz = j
  · subst hji
    rw [get_set hz] at hj
    obtain rfl := Option.some.inj hj
    exact hI.has.at_ _ (List.mem_cons_self ..)
  · rw [List.getElem?_set_ne hji] at hj
    have hbM := List.mem_of_getElem? hj
    by_cases hg : b.g ∈ ids (⟨gz, Tz, cs0⟩ :: L)
    · obtain ⟨b', hb', hgg⟩ := List.mem_map.1 hg
      obtain ⟨j', hj'⟩ := List.getElem?_of_mem (hmem b' hb')
      have hjj := hw.uniq hj' hj hgg
      subst hjj
      rw [hj] at hj'
      obtain rfl := Option.some.inj hj'
      rcases List.mem_cons.1 hb' with rfl | hb''
      · exact absurd (hw.uniq hz hj rfl) hji
      · exact hI.has.at_ _ (List.mem_cons_of_mem _ hb'')
    · rw [hI.stp.block _ (hw.lt hbM) hg]
      exact hw.at_ b hbM
end Go.Proofs.YtjlhhcdefcofkaaGreatDoor
