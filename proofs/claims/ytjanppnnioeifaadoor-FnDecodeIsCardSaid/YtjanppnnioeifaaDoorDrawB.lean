/- DrawI, Ro, DrawW, CopyW, in one text. -/
import Derived.Test.YtjanppnnioeifaaDoorAppend
import Derived.Test.YtjanppnnioeifaaDoorDrawA
import Derived.Test.YtjanppnnioeifaaDoorCopyA
/- Drawn regions in which operations may make whatever they will: what holds is told by a relation over the set of those that are done. -/
namespace Go.Proofs.YtjanppnnioeifaaDoor
open Go
section
variable {C : Ctx} {Q : Exit → Act → World → Prop} {St : Slots} {M : Mem} {l : List Oper}
/-- What an operation does in the worlds of this call. -/
def OpRC (C : Ctx) (St : Slots) (M : Mem) (o : Oper) (R : Value → Mem → Prop) : Prop :=
  ∀ (ρ : Operand → Value) (w : World), (∀ x v, evalS St x = some v → ρ x = v) → Inv C.w0 C.S M w → Yields C.P C.w0 C.S R ((execOp ρ o).run C.P w)
theorem OpR.c {o : Oper} {R : Value → Mem → Prop} (h : OpR C.P St M o R) : OpRC C St M o R := fun ρ w hρ hI => h ρ _ _ w hρ hI
/-- An operation that is told by a relation, or is passed over. -/
def OpX (C : Ctx) (ops : List Oper) (St : Slots) (M : Mem) (o : Oper) (R : Value → Mem → Prop) : Prop :=
  fits C.n o.dst = true ∧ ((wantS ops St o = some true ∧ OpRC C St M o R) ∨ (wantS ops St o = some false ∧ R undef M))
theorem at_draw_inv {id : Nat} (hm : C.P.follows .mixedOrders = true) (hok : drawOk l = true) {J : (Nat → Bool) → List Value → Mem → Prop} {vs0 : List Value} (hv0 : vs0.length = l.length) (h0 : J (fun _ => false) vs0 M)
    (hop : ∀ (i : Nat) (o : Oper) (L : Nat → Bool) (vs : List Value) (M1 : Mem), l[i]? = some o → L i = false → (∀ j, j ∈ (befs l []).getD i [] → j ≠ i → L j = true) → (∀ j, i ∈ (befs l []).getD j [] → L j = false) → vs.length = l.length → J L vs M1 →
      OpX C l (slotsAt St l vs i) M1 o (fun v M' => ∃ M'', M''.Perm M' ∧ J (fun k => if k = i then true else L k) (vs.set i v) M''))
    (k : ∀ (L : Nat → Bool) (vs : List Value) (M1 : Mem), vs.length = l.length → (∀ i, i < l.length → L i = true) → J L vs M1 → At C (slotsAt St l vs l.length) M1 (Q .normal)) : At C St M ((Code.region id l.toArray true).wp C.P Q) := by
  intro a w ha hw
  have hok' := hok
  simp only [drawOk, Bool.and_eq_true, List.all_eq_true, List.mem_range] at hok'
  have hn := noTwice_spec _ hok'.1
  have hb : ∀ (L : Nat → Bool), Closed l L → ∀ i j, j ∈ (befs l []).getD i [] → L i = true → L j = true :=
    fun L hL => befs_closed hL l [] [] rfl rfl (by simp)
  refine wp_region_any hm ?_
  -- all that holds at a state
  have key : ∀ (fuel : Nat) (listed : Array Bool) (a : Act) (w : World) (vs : List Value) (M1 : Mem), listed.size = l.length → listed.toList.count false ≤ fuel →
      Closed l (fun i => listed.getD i false) → Cons C.n St l vs (fun i => listed.getD i false) a → vs.length = l.length → J (fun i => listed.getD i false) vs M1 →
      Inv C.w0 C.S M1 w → wpAny C.P .any l.toArray Q fuel listed a w := by
    have allL : ∀ (listed : Array Bool), listed.size = l.length → Region.ready .any l.toArray listed = [] → ∀ i, i < l.length → listed.getD i false = true := by
      intro listed hsz hr i
      induction i using Nat.strongRecOn with
      | _ i ih =>
        intro hi
        by_cases hLi : listed.getD i false = true
        · exact hLi
        · exfalso
          have : i ∈ Region.ready .any l.toArray listed := by
            simp only [Region.ready, List.mem_filter, List.mem_range, Bool.and_eq_true, List.size_toArray]
            refine ⟨hi, ?_, ?_⟩
            · have hsz' : i < listed.size := by omega
              simp only [Array.getD_eq_getD_getElem?, Array.getElem?_eq_getElem hsz', Option.getD_some] at hLi ⊢
              simpa using hLi
            · simp only [List.getElem?_toArray, List.getElem?_eq_getElem hi, Option.map_some, Option.getD_some, Array.all_eq_true']
              intro e he
              by_cases hbi : Region.binds .any e = true
              · have hmem : e.on ∈ aft l[i] := by
                  simp only [aft, List.mem_map, List.mem_filter]
                  exact ⟨e, ⟨by simpa using he, hbi⟩, rfl⟩
                have h1 := hok'.2 i hi
                rw [List.getElem?_eq_getElem hi] at h1
                simp only [opOk, Bool.and_eq_true, List.all_eq_true] at h1
                have hlt : e.on < i := by simpa [Nat.blt_eq] using h1.1.2 _ hmem
                have := ih e.on hlt (by omega)
                simp [this]
              · simp [hbi]
          rw [hr] at this
          simp at this
    have fin : ∀ (listed : Array Bool) (a : Act) (w : World) (vs : List Value) (M1 : Mem), listed.size = l.length → Region.ready .any l.toArray listed = [] →
        Cons C.n St l vs (fun i => listed.getD i false) a → vs.length = l.length → J (fun i => listed.getD i false) vs M1 → Inv C.w0 C.S M1 w → Q .normal a w := by
      intro listed a w vs M1 hsz hr hc hvl hJ hi
      have hal := allL listed hsz hr
      refine k _ vs M1 hvl (fun i hi => hal i hi) hJ a w ⟨hc.size, hc.defers, fun t v hv => ?_⟩ hi
      by_cases hex : ∃ k : Nat, (l[k]?).bind Oper.dst = some t
      · obtain ⟨k, hk⟩ := hex
        have hkl : k < l.length := by
          obtain ⟨o', ho', _⟩ := Option.bind_eq_some_iff.1 hk
          exact (List.getElem?_eq_some_iff.1 ho').1
        rw [look_slotsAt_some hn hk _ hkl] at hv
        rw [hc.new t k hk (hal k hkl)]
        exact hv
      · rw [look_slotsAt_none _ (fun j _ e => hex ⟨j, e⟩)] at hv
        exact hc.old t v (fun k hk => absurd ⟨k, hk⟩ hex) hv
    intro fuel
    induction fuel with
    | zero =>
      intro listed a w vs M1 hsz hcnt hcl hc hvl hJ hi
      have hr : Region.ready .any l.toArray listed = [] := by
        rw [List.eq_nil_iff_forall_not_mem]
        intro i him
        simp only [Region.ready, List.mem_filter, List.mem_range, Bool.and_eq_true, List.size_toArray, Bool.not_eq_true'] at him
        have hsz' : i < listed.size := by omega
        have h0 := him.2.1
        simp only [Array.getD_eq_getD_getElem?, Array.getElem?_eq_getElem hsz', Option.getD_some] at h0
        have : false ∈ listed.toList := by rw [← h0]; simp
        have := List.count_pos_iff.2 this
        omega
      exact ⟨hr, fin listed a w vs M1 hsz hr hc hvl hJ hi⟩
    | succ fuel ih =>
      intro listed a w vs M1 hsz hcnt hcl hc hvl hJ hi
      refine ⟨fun hr => fin listed a w vs M1 hsz hr hc hvl hJ hi, fun i him => ?_⟩
      simp only [Region.ready, List.mem_filter, List.mem_range, Bool.and_eq_true, List.size_toArray, Bool.not_eq_true'] at him
      obtain ⟨hil, hun, hall⟩ := him
      have hsz' : i < listed.size := by omega
      have hLi : listed.getD i false = false := by
        simp only [Array.getD_eq_getD_getElem?, Array.getElem?_eq_getElem hsz', Option.getD_some] at hun ⊢
        exact hun
      have hio : l[i]? = some l[i] := List.getElem?_eq_getElem hil
      have hr : ∀ j ∈ aft l[i], listed.getD j false = true := by
        intro j hj
        simp only [List.getElem?_toArray, hio, Option.map_some, Option.getD_some, Array.all_eq_true'] at hall
        simp only [aft, List.mem_map, List.mem_filter] at hj
        obtain ⟨e, ⟨he, hbi⟩, rfl⟩ := hj
        have := hall e (by simpa using he)
        simpa [hbi] using this
      have hread : ∀ t ∈ reads l l[i], ∀ v, look (slotsAt St l vs i) t = some v → a.tmps[t]? = some v :=
        fun t ht v hv => hc.reads hok hcl hio hLi hr ht hv
      have hgs : ∀ d ∈ guardSlot l l[i], ∀ v, look (slotsAt St l vs i) d = some v → a.tmps[d]? = some v :=
        fun d hd => hread d (List.mem_append_left _ hd)
      have hL1 : ∀ j, (listed.setIfInBounds i true).getD j false = if j = i then true else listed.getD j false := by
        intro j
        simp only [Array.getD_eq_getD_getElem?]
        by_cases e : j = i
        · subst e; simp [hsz']
        · simp [e, Array.getElem?_setIfInBounds_ne (Ne.symm e)]
      have hcl1 : Closed l (fun j => (listed.setIfInBounds i true).getD j false) := by
        intro j o' hj hj' m hm
        simp only [hL1] at hj' ⊢
        by_cases e : j = i
        · subst e
          rw [hio] at hj
          cases hj
          simp [hr m hm]
        · simp only [e, if_false] at hj'
          simp [hcl j o' hj hj' m hm]
      have hbr : ∀ j, j ∈ (befs l []).getD i [] → j ≠ i → listed.getD j false = true := by
        intro j hj hji
        have := hb _ hcl1 i j hj (by simp only [hL1, if_true])
        simpa only [hL1, if_neg hji] using this
      obtain ⟨hf, hg⟩ := hop i l[i] _ vs M1 hio hLi hbr (fun j hj => by
        cases h2 : listed.getD j false
        · rfl
        · have := hb _ hcl j i hj h2
          rw [hLi] at this
          exact absurd this (by decide)) hvl hJ
      have next : ∀ v M' w', (∃ M'', M''.Perm M' ∧ J (fun k => if k = i then true else listed.getD k false) (vs.set i v) M'') → Inv C.w0 C.S M' w' → wpAny C.P .any l.toArray Q fuel (listed.setIfInBounds i true) (a.put l[i].dst v) w' := by
        rintro v M' w' ⟨M'', hp, hJ'⟩ hw'
        have hcount : (listed.setIfInBounds i true).toList.count false ≤ fuel := by
          have h0 : listed.toList[i]? = some false := by
            simp only [Array.getElem?_toList]
            simp only [Array.getD_eq_getD_getElem?, Array.getElem?_eq_getElem hsz', Option.getD_some] at hLi
            rw [Array.getElem?_eq_getElem hsz', hLi]
          have := countFalse_set _ _ h0
          simp only [Array.toList_setIfInBounds]
          omega
        have e : (fun j => (listed.setIfInBounds i true).getD j false) = (fun k => if k = i then true else listed.getD k false) := funext hL1
        have hvi : (vs.set i v).getD i undef = v := by
          rw [List.getD_eq_getElem?_getD, List.getElem?_set_self (by omega)]; rfl
        have hc' : Cons C.n St l (vs.set i v) (fun i => listed.getD i false) a := ⟨hc.size, hc.defers, hc.old, fun t k hk hLk => by
          have hne : i ≠ k := fun he => by subst he; rw [hLi] at hLk; exact absurd hLk (by decide)
          rw [List.getD_eq_getElem?_getD, List.getElem?_set_ne hne, ← List.getD_eq_getElem?_getD]
          exact hc.new t k hk hLk⟩
        have hput := hc'.put hn hio hf
        rw [hvi] at hput
        refine ih _ _ _ (vs.set i v) M'' (by simpa using hsz) hcount hcl1 (by rw [e]; exact hput) (by rw [List.length_set]; exact hvl) (by rw [e]; exact hJ') ?_
        exact hw'.of_mem (fun b hb => hp.mem_iff.1 hb) (((hp.map Blk.g).nodup_iff).2 hw'.has.nodup)
      unfold wpOp
      simp only [List.getElem?_toArray, hio]
      rcases hg with ⟨hwant, hopr⟩ | ⟨hwant, hR⟩
      · rw [if_pos (wanted_of' hgs hwant)]
        left
        let ρ : Operand → Value := fun x => (evalS (slotsAt St l vs i) x).getD (a.eval x)
        have hρ : ∀ x v, evalS (slotsAt St l vs i) x = some v → ρ x = v := by
          intro x v hx
          simp only [ρ, hx, Option.getD_some]
        have hsel : ∀ cs b, l[i].op ≠ .select cs b := by
          intro cs b e
          have h1 := hok'.2 i hil
          rw [hio] at h1
          simp only [opOk, Bool.and_eq_true] at h1
          rw [e] at h1
          simp [isSelect] at h1
        have hcongr : execOp a.eval l[i] = execOp ρ l[i] := by
          refine execOp_congr _ hsel fun x hx => ?_
          simp only [ρ]
          cases hx' : evalS (slotsAt St l vs i) x with
          | none => rfl
          | some v =>
            simp only [Option.getD_some]
            cases x with
            | tmp t =>
              have ht : t ∈ reads l l[i] := List.mem_append_right _ (mem_tmpsOf _ (by simpa using hx))
              have := hread t ht v hx'
              simp only [Act.eval, Array.getD_eq_getD_getElem?, this, Option.getD_some]
            | const u => exact Option.some.inj hx'
            | global g => exact Option.some.inj hx'
            | func f => exact Option.some.inj hx'
        unfold Oper.wp
        rw [hcongr]
        refine Yields.upon (hopr ρ w hρ hi) ?_
        intro v M' w' hR hw'
        exact next v M' w' hR hw'
      · rw [if_neg (by rw [wanted_of' hgs hwant]; decide)]
        exact next undef M1 w hR hi
  refine key _ _ _ _ vs0 M (by simp) ?_ ?_ ⟨ha.size, ha.defers, fun t v _ hv => ha.slot t v hv, fun t k hk hLk => ?_⟩ hv0 ?_ hw.drew
  · simp only [List.size_toArray]
    refine Nat.le_trans List.count_le_length ?_
    simp
  · intro i o _ hi
    simp only [Array.getD_eq_getD_getElem?, List.size_toArray, Array.getElem?_replicate] at hi
    split at hi <;> simp at hi
  · simp only [Array.getD_eq_getD_getElem?, List.size_toArray, Array.getElem?_replicate] at hLk
    split at hLk <;> simp at hLk
  · have hz : ∀ j, (Array.replicate l.toArray.size false).getD j false = false := by
      intro j
      simp only [Array.getD_eq_getD_getElem?, List.size_toArray, Array.getElem?_replicate]
      split <;> rfl
    rw [show (fun i => (Array.replicate l.toArray.size false).getD i false) = (fun _ => false) from funext hz]
    exact h0

theorem Yields.mono {P : Program} {w0 : World} {S : List Nat} {R R' : Value → Mem → Prop} {r : Result Next} (h : Yields P w0 S R r) (hR : ∀ v M', R v M' → R' v M') : Yields P w0 S R' r := by
  match r, h with
  | .ok (.value v) w', ⟨M', h1, h2⟩ => exact ⟨M', hR _ _ h1, h2⟩
  | .ok .skip w', ⟨M', h1, h2⟩ => exact ⟨M', hR _ _ h1, h2⟩
  | .ok (.enter f args) w', h => exact Calls.mono h (by rintro e w'' ⟨v, M', h1, h2, h3⟩; exact ⟨v, M', hR _ _ h1, h2, h3⟩)
theorem set_keep {vs0 : List Value} {i n : Nat} {x v : Value} (e : i ≠ n) (hi : i < vs0.length) (hv : v = vs0.getD i undef) : (vs0.set n x).set i v = vs0.set n x := by
  subst hv
  apply List.ext_getElem?
  intro j
  by_cases h : i = j
  · subst h
    rw [List.getElem?_set_self (by rw [List.length_set]; exact hi), List.getElem?_set_ne (Ne.symm e), List.getD_eq_getElem?_getD, List.getElem?_eq_getElem hi]
    rfl
  · rw [List.getElem?_set_ne h]
/-- In whatever order, where one operation is told by a relation, and the others keep the memory. -/
theorem at_draw_one {id : Nat} (hm : C.P.follows .mixedOrders = true) (hok : drawOk l = true) {n : Nat} {vs0 : List Value} (hv0 : vs0.length = l.length) {R9 : Value → Mem → Prop}
    (hN : ∀ o, l[n]? = some o → OpX C l (slotsAt St l (vs0.set n undef) n) M o R9)
    (hA : ∀ (i : Nat) o, l[i]? = some o → i ≠ n → n ∈ (befs l []).getD i [] ∨ OpG C l (slotsAt St l (vs0.set n undef) i) M o (vs0.getD i undef) M)
    (hB : ∀ v9 M9, R9 v9 M9 → ∀ (i : Nat) o, l[i]? = some o → i ≠ n → OpG C l (slotsAt St l (vs0.set n v9) i) M9 o (vs0.getD i undef) M9) (hn : n < l.length)
    (k : ∀ v9 M9, R9 v9 M9 → At C (slotsAt St l (vs0.set n v9) l.length) M9 (Q .normal)) : At C St M ((Code.region id l.toArray true).wp C.P Q) := by
  refine at_draw_inv hm hok (vs0 := vs0.set n undef) (J := fun L vs M1 => (L n = false ∧ vs = vs0.set n undef ∧ M1 = M) ∨ (L n = true ∧ ∃ v9, vs = vs0.set n v9 ∧ R9 v9 M1)) (by rw [List.length_set]; exact hv0) (.inl ⟨rfl, rfl, rfl⟩) ?_ ?_
  · intro i o L vs M1 hio hLi hbf hlt hvl hJ
    have hil : i < vs0.length := by rw [hv0]; exact (List.getElem?_eq_some_iff.1 hio).1
    rcases hJ with ⟨hn0, rfl, rfl⟩ | ⟨hn1, v9, rfl, hR⟩
    · by_cases e : i = n
      · subst e
        obtain ⟨hf, hg⟩ := hN o hio
        have key : ∀ v M', R9 v M' → ∃ M'', M''.Perm M' ∧ (((if i = i then true else L i) = false ∧ (vs0.set i undef).set i v = vs0.set i undef ∧ M'' = M1) ∨ ((if i = i then true else L i) = true ∧ ∃ v9, (vs0.set i undef).set i v = vs0.set i v9 ∧ R9 v9 M'')) :=
          fun v M' h => ⟨M', .refl _, .inr ⟨by simp, v, List.set_set .., h⟩⟩
        refine ⟨hf, ?_⟩
        rcases hg with ⟨hw, h⟩ | ⟨hw, h⟩
        · exact .inl ⟨hw, fun ρ w hρ hI => (h ρ w hρ hI).mono key⟩
        · exact .inr ⟨hw, key _ _ h⟩
      · rcases hA i o hio e with hb | ⟨hf, hg⟩
        · exact absurd (hbf n hb (Ne.symm e)) (by rw [hn0]; decide)
        · refine ⟨hf, ?_⟩
          rcases hg with ⟨hw, h⟩ | ⟨hw, hv, hM⟩
          · refine .inl ⟨hw, fun ρ w hρ hI => (h ρ _ _ w hρ hI).mono ?_⟩
            rintro v M' ⟨hv, rfl⟩
            exact ⟨_, .refl _, .inl ⟨by simp only [if_neg (Ne.symm e)]; exact hn0, set_keep e hil hv, rfl⟩⟩
          · exact .inr ⟨hw, _, .refl _, .inl ⟨by simp only [if_neg (Ne.symm e)]; exact hn0, set_keep e hil hv.symm, rfl⟩⟩
    · have e : i ≠ n := fun e => by subst e; rw [hLi] at hn1; exact absurd hn1 (by decide)
      obtain ⟨hf, hg⟩ := hB v9 M1 hR i o hio e
      refine ⟨hf, ?_⟩
      rcases hg with ⟨hw, h⟩ | ⟨hw, hv, hM⟩
      · refine .inl ⟨hw, fun ρ w hρ hI => (h ρ _ _ w hρ hI).mono ?_⟩
        rintro v M' ⟨hv, rfl⟩
        exact ⟨_, .refl _, .inr ⟨by simp only [if_neg (Ne.symm e)]; exact hn1, v9, set_keep e hil hv, hR⟩⟩
      · exact .inr ⟨hw, _, .refl _, .inr ⟨by simp only [if_neg (Ne.symm e)]; exact hn1, v9, set_keep e hil hv.symm, hR⟩⟩
  · intro L vs M1 hvl hL hJ
    rcases hJ with ⟨hn0, _, _⟩ | ⟨_, v9, rfl, hR⟩
    · rw [hL n hn] at hn0; exact absurd hn0 (by decide)
    · exact k v9 M1 hR
end
end Go.Proofs.YtjanppnnioeifaaDoor

/- Cells that are read but not followed: they lie in a block of the world in which the call began. -/
namespace Go.Proofs.YtjanppnnioeifaaDoor
open Go
def Rd (g off : Nat) (vs : List Value) (w : World) (S : List Nat) : Prop := g ∉ S ∧ g < w.heap.size ∧ ∀ (i : Nat) v, vs[i]? = some v → w.cell? ⟨g, off + i, none⟩ = some v
theorem Rd.now {g off : Nat} {vs : List Value} {w0 w : World} {S : List Nat} {M : Mem} (h : Rd g off vs w0 S) (hw : Inv w0 S M w) : Rd g off vs w (ids M) := by
  obtain ⟨h1, h2, h3⟩ := h
  refine ⟨fun hm => ?_, Nat.lt_of_lt_of_le h2 hw.stp.size, fun i v hv => ?_⟩
  · obtain ⟨b, hb, he⟩ := List.mem_map.1 hm
    rcases hw.own b hb with h' | h'
    · exact h1 (he ▸ h')
    · omega
  · rw [← h3 i v hv]
    unfold World.cell?
    rw [show w.heap[(⟨g, off + i, none⟩ : Addr).block]? = w0.heap[(⟨g, off + i, none⟩ : Addr).block]? from hw.stp.block g h2 h1]
def CtW (P : Program) (f : FuncId) (args : Array Value) (g off : Nat) (vs : List Value) (M : Mem) (R : Value → Mem → Prop) : Prop :=
  ∀ w, Has M w → Rd g off vs w (ids M) → Calls P f args w fun e w' => ∃ v M', R v M' ∧ e = .returned v ∧ Inv w (ids M) M' w'
def OpRW (P : Program) (St : Slots) (g off : Nat) (vs : List Value) (M : Mem) (o : Oper) (R : Value → Mem → Prop) : Prop :=
  ∀ (ρ : Operand → Value) (w0 : World) (S : List Nat) (w : World), (∀ x v, evalS St x = some v → ρ x = v) → Inv w0 S M w → Rd g off vs w (ids M) → Yields P w0 S R ((execOp ρ o).run P w)
section
variable {C : Ctx} {St : Slots} {M : Mem} {Q : Exit → Act → World → Prop} {g off : Nat} {vs : List Value}
theorem at_cW {ops : List Oper} {o : Oper} {l : List Oper} {R : Value → Mem → Prop} (hro : Rd g off vs C.w0 C.S) (hg : wantS ops St o = some true) (hd : fits C.n o.dst = true) (h : OpRW C.P St g off vs M o R)
    (k : ∀ v M', R v M' → At C (putS St o.dst v) M' (wpList C.P ops.toArray Q l)) : At C St M (wpList C.P ops.toArray Q (o :: l)) := by
  intro a w ha hw
  refine wpList_step fun K hK => ?_
  rw [if_pos (wanted_of ha hg)]
  exact Yields.upon (h _ _ _ _ (fun x v hx => ha.eval hx) hw (hro.now hw)) fun v M' w' hR hI => hK _ _ (k v M' hR _ _ (ha.put hd v) hI)
theorem at_dW {ops : List Oper} {o : Oper} {l : List Oper} {v : Value} {M' : Mem} (hro : Rd g off vs C.w0 C.S) (hg : wantS ops St o = some true) (hd : fits C.n o.dst = true) (h : OpRW C.P St g off vs M o (Det v M'))
    (k : At C (putS St o.dst v) M' (wpList C.P ops.toArray Q l)) : At C St M (wpList C.P ops.toArray Q (o :: l)) :=
  at_cW hro hg hd h (by rintro _ _ ⟨rfl, rfl⟩; exact k)
end
theorem ct_ofW {P : Program} {f : FuncId} {fn : Func} {c : Code} {vs : List Value} {n g off : Nat} {xs : List Value} {M : Mem} {R : Value → Mem → Prop} (hf : P.funcs[f]? = some fn) (hb : fn.body = some c) (hn : fn.ntmps = n) (hl : Nat.ble vs.length n = true)
    (h : ∀ w0, Rd g off xs w0 (ids M) → At ⟨P, n, w0, ids M⟩ (slotsOf vs 0) M (c.wp P (Done ⟨P, n, w0, ids M⟩ fn R))) : CtW P f vs.toArray g off xs M R := by
  intro w hw hro
  refine calls_of_wp hf hb ?_
  refine h w hro _ w ⟨?_, rfl, fun t v ht => ?_⟩ (Inv.start hw)
  · have : vs.length ≤ n := Nat.le_of_ble_eq_true hl
    simp [hn]; omega
  · obtain ⟨_, h2⟩ := look_slotsOf vs 0 t v ht
    have hlt : t < vs.length := by
      have := (List.getElem?_eq_some_iff.1 h2).1
      omega
    simp only [Array.getElem?_append, List.size_toArray, hlt, if_true, List.getElem?_toArray]
    simpa using h2
section
variable {P : Program} {St : Slots} {M : Mem} {o : Oper} {g off : Nat} {xs : List Value}
theorem opr_callW {as : List Operand} {ts : Array TypeId} {fo : Operand} {f : FuncId} {fn : Func} {vs : List Value} {R : Value → Mem → Prop} (ho : o.op = .call { callee := .value fo, args := as.toArray, argTypes := ts })
    (hfo : evalS St fo = some (.func (.func f) #[] #[])) (hxs : evalL St as = some vs) (hf : P.funcs[f]? = some fn) (hname : (fn.name == "runtime.NumGoroutine") = false) (hbody : fn.body.isNone = false)
    (h : CtW P f vs.toArray g off xs M R) : OpRW P St g off xs M o R := by
  intro ρ w0 S w hρ hw hro
  have hrun : (execOp ρ o).run P w = .ok (.enter f vs.toArray) w := by
    have h1 : ¬ fn.name = "runtime.NumGoroutine" := by simpa using hname
    simp only [execOp, ho, resolve, hρ _ _ hfo, List.map_toArray, evalL_map hρ as vs hxs, Deferred.ofValue, Sem.run_bind, Sem.run_pure, Result.andThen_ok, invoke, callFunc, run_program, hf, hname, hbody, Bool.false_eq_true, if_false, List.append_toArray, List.append_nil, List.nil_append]
  rw [hrun]
  refine (h w hw.has hro).mono ?_
  rintro e w' ⟨v, M', hR, rfl, hI⟩
  exact ⟨v, M', hR, rfl, hw.trans hI⟩
theorem opr_loadW {T : TypeId} {x : Operand} {off' j : Nat} {v : Value} {d : TypeDesc} (ho : o.op = .load T x) (hx : evalS St x = some (.pointer (some ⟨g, off', none⟩))) (hu : P.underlying T = some d) (hd : isAggD d = false) (he : off + j = off') (hc : xs[j]? = some v) : OpRW P St g off xs M o (Det v M) := by
  intro ρ w0 S w hρ hw hro
  subst he
  have h1 := hro.2.2 j v hc
  have hagg : (isAgg T).run P w = .ok false w := by
    unfold isAgg
    rw [Sem.run_bind, run_underlying hu w]
    cases d <;> simp_all [isAggD]
  have hrun : (execOp ρ o).run P w = .ok (.value v) w := by
    simp only [execOp, ho, hρ _ _ hx, Instr.loadAt, Instr.sureAddr, loadVar, Sem.run_bind, Sem.run_pure, Result.andThen_ok, hagg, Sem.run_ite, run_load, h1]
    rfl
  rw [hrun]
  exact ⟨M, ⟨rfl, rfl⟩, hw⟩
theorem opr_appendW {t e g1 n cap m c i : Nat} {x y : Operand} {cs : List Value} {z : Value} (ho : o.op = .call { callee := .builtin .append, args := #[x, y], argTypes := #[t, t] })
    (hx : evalS St x = some (.slice (some ⟨g1, 0, none⟩) n cap)) (hy : evalS St y = some (.slice (some ⟨g, off, none⟩) m c)) (hb : M[i]? = some ⟨g1, e, cs⟩) (hcs : cs.length = cap) (hn : n ≤ cap) (hnl : xs.length = m) (hfl : ∀ v ∈ xs, flat v = true)
    (hu : P.underlying t = some (.slice e)) (hi' : (P.info? e).map (fun i => (i.size, i.zero)) = some (1, some z)) (hz : z.cells.size = 1) (hby : (P.info? e).map (fun i => decide (i.bytes ≤ 8)) = some true) (hm : n + m ≤ 4000000000000) :
    OpRW P St g off xs M o (fun v M' => ∃ s : Sl, v = .slice (some ⟨s.g, 0, none⟩) (n + m) s.cap ∧ s.cs.length = s.cap ∧ n + m ≤ s.cap ∧ s.cs.take (n + m) = cs.take n ++ xs ∧ M' = ⟨s.g, e, s.cs⟩ :: M.eraseIdx i) := by
  intro ρ w0 S w hρ hw hro
  refine append_core ho (hρ _ _ hx) (hρ _ _ hy) hb hcs hn hnl hfl hu hi' hz hby hm hw fun k v hk => ?_
  have hadd : (⟨g, off, none⟩ : Addr).add k = ⟨g, off + k, none⟩ := by unfold Addr.add; split <;> simp_all
  rw [hadd]; exact hro.2.2 k v hk
end
end Go.Proofs.YtjanppnnioeifaaDoor

/- Drawn regions that read cells which are not followed; nothing turns the memory. -/
namespace Go.Proofs.YtjanppnnioeifaaDoor
open Go
section
variable {C : Ctx} {Q : Exit → Act → World → Prop} {St : Slots} {M : Mem} {l : List Oper} {g off : Nat} {xs : List Value}
theorem OpRW.c {o : Oper} {R : Value → Mem → Prop} (hro : Rd g off xs C.w0 C.S) (h : OpRW C.P St g off xs M o R) : OpRC C St M o R := fun ρ w hρ hI => h ρ _ _ w hρ hI (hro.now hI)
def OpC (C : Ctx) (ops : List Oper) (St : Slots) (M : Mem) (o : Oper) (v : Value) : Prop :=
  fits C.n o.dst = true ∧ ((wantS ops St o = some true ∧ OpRC C St M o (Det v M)) ∨ (wantS ops St o = some false ∧ v = undef))
def DrawSeqC (C : Ctx) (ops : List Oper) (M : Mem) (F : Slots → Prop) : List Oper → Slots → Prop
  | [], St => F St
  | o :: r, St => ∃ v, OpC C ops St M o v ∧ DrawSeqC C ops M F r (putS St o.dst v)
theorem drawSeqC_vs {F : Slots → Prop} : ∀ (r pre : List Oper) (us : List Value), l = pre ++ r → us.length = pre.length → DrawSeqC C l M F r (slotsAt St l us pre.length) →
    ∃ vs : List Value, vs.length = l.length ∧ (∀ i, i < pre.length → vs.getD i undef = us.getD i undef) ∧ (∀ i o, pre.length ≤ i → l[i]? = some o → OpC C l (slotsAt St l vs i) M o (vs.getD i undef)) ∧ F (slotsAt St l vs l.length)
  | [], pre, us, hl, hlen, h => by
    have hlen' : l.length = pre.length := by simp [hl]
    refine ⟨us, by rw [hlen, hlen'], fun _ _ => rfl, fun i o hi ho => ?_, by rw [hlen']; exact h⟩
    have := (List.getElem?_eq_some_iff.1 ho).1
    omega
  | o :: r, pre, us, hl, hlen, ⟨v, hop, hrest⟩ => by
    have hl' : l = (pre ++ [o]) ++ r := by simp [hl]
    have hio : l[pre.length]? = some o := by rw [hl]; simp
    have hsl : ∀ (ws : List Value) k, k ≤ pre.length → (∀ i, i < pre.length → ws.getD i undef = us.getD i undef) → slotsAt St l ws k = slotsAt St l us k := by
      intro ws k
      induction k with
      | zero => intro _ _; rfl
      | succ k ih =>
        intro hk hw
        rw [slotsAt, slotsAt, ih (by omega) hw, hw k (by omega)]
    have hget : ∀ i, i < pre.length → (us ++ [v]).getD i undef = us.getD i undef := by
      intro i hi
      simp only [List.getD_eq_getElem?_getD, List.getElem?_append_left (by omega : i < us.length)]
    have hgetv : (us ++ [v]).getD pre.length undef = v := by
      simp only [List.getD_eq_getElem?_getD, ← hlen]
      simp
    have hs1 : putS (slotsAt St l us pre.length) o.dst v = slotsAt St l (us ++ [v]) (pre ++ [o]).length := by
      rw [List.length_append, List.length_singleton, slotsAt, hio, hgetv, hsl (us ++ [v]) _ (Nat.le_refl _) hget]
      rfl
    rw [hs1] at hrest
    obtain ⟨vs, hvl, hvs, hops, hF⟩ := drawSeqC_vs r (pre ++ [o]) (us ++ [v]) hl' (by simp [hlen]) hrest
    have hvs' : ∀ i, i < pre.length → vs.getD i undef = us.getD i undef := fun i hi => (hvs i (by simp; omega)).trans (hget i hi)
    refine ⟨vs, hvl, hvs', fun i o' hi ho' => ?_, hF⟩
    by_cases e : i = pre.length
    · subst e
      rw [hio] at ho'
      cases ho'
      rw [hvs _ (by simp), hgetv, hsl vs _ (Nat.le_refl _) hvs']
      exact hop
    · exact hops i o' (by simp; omega) ho'
theorem set_self_getD {vs : List Value} {i : Nat} {v : Value} (hi : i < vs.length) (hv : v = vs.getD i undef) : vs.set i v = vs := by
  subst hv
  apply List.ext_getElem?
  intro j
  by_cases h : i = j
  · subst h
    rw [List.getElem?_set_self hi, List.getD_eq_getElem?_getD, List.getElem?_eq_getElem hi]
    rfl
  · rw [List.getElem?_set_ne h]
/-- In whatever order, reading what is not followed as well. -/
theorem at_drawW {id : Nat} (hm : C.P.follows .mixedOrders = true) (hok : drawOk l = true) (h : DrawSeqC C l M (fun St' => At C St' M (Q .normal)) l St) : At C St M ((Code.region id l.toArray true).wp C.P Q) := by
  obtain ⟨vs, hvl, _, hops, hF⟩ := drawSeqC_vs (St := St) l [] [] rfl rfl h
  refine at_draw_inv hm hok (vs0 := vs) (J := fun _ vs' M1 => vs' = vs ∧ M1 = M) hvl ⟨rfl, rfl⟩ ?_ ?_
  · rintro i o L vs1 M1 hio hLi _ _ _ ⟨rfl, rfl⟩
    have hil : i < vs1.length := by rw [hvl]; exact (List.getElem?_eq_some_iff.1 hio).1
    obtain ⟨hf, hg⟩ := hops i o (Nat.zero_le _) hio
    refine ⟨hf, ?_⟩
    rcases hg with ⟨hw, h⟩ | ⟨hw, hv⟩
    · refine .inl ⟨hw, fun ρ w hρ hI => (h ρ w hρ hI).mono ?_⟩
      rintro v M' ⟨rfl, rfl⟩
      exact ⟨_, .refl _, set_self_getD hil rfl, rfl⟩
    · exact .inr ⟨hw, _, .refl _, set_self_getD hil hv.symm, rfl⟩
  · rintro L _ _ _ _ ⟨rfl, rfl⟩
    exact hF
theorem drW_nil {F : Slots → Prop} {ops : List Oper} (h : F St) : DrawSeqC C ops M F [] St := h
theorem drW_op {F : Slots → Prop} {ops : List Oper} {o : Oper} {r : List Oper} {v : Value} (hg : wantS ops St o = some true) (hd : fits C.n o.dst = true) (h : OpR C.P St M o (Det v M)) (k : DrawSeqC C ops M F r (putS St o.dst v)) : DrawSeqC C ops M F (o :: r) St :=
  ⟨v, ⟨hd, .inl ⟨hg, h.c⟩⟩, k⟩
theorem drW_opW {F : Slots → Prop} {ops : List Oper} {o : Oper} {r : List Oper} {v : Value} (hro : Rd g off xs C.w0 C.S) (hg : wantS ops St o = some true) (hd : fits C.n o.dst = true) (h : OpRW C.P St g off xs M o (Det v M)) (k : DrawSeqC C ops M F r (putS St o.dst v)) : DrawSeqC C ops M F (o :: r) St :=
  ⟨v, ⟨hd, .inl ⟨hg, h.c hro⟩⟩, k⟩
theorem drW_skip {F : Slots → Prop} {ops : List Oper} {o : Oper} {r : List Oper} (hg : wantS ops St o = some false) (hd : fits C.n o.dst = true) (k : DrawSeqC C ops M F r (putS St o.dst undef)) : DrawSeqC C ops M F (o :: r) St :=
  ⟨undef, ⟨hd, .inr ⟨hg, rfl⟩⟩, k⟩
end
end Go.Proofs.YtjanppnnioeifaaDoor

/- Copies out of cells that are not followed. -/
namespace Go.Proofs.YtjanppnnioeifaaDoor
open Go
theorem opr_copyW {P : Program} {St : Slots} {M : Mem} {o : Oper} {g off : Nat} {xs : List Value} {dT sT e : TypeId} {x y : Operand} {g1 a dl dc sl sc n i : Nat} {T : TypeId} {cs vs es : List Value} (ho : o.op = .call { callee := .builtin .copy, args := #[x, y], argTypes := #[dT, sT] })
    (hx : evalS St x = some (.slice (some ⟨g1, a, none⟩) dl dc)) (hy : evalS St y = some (.slice (some ⟨g, off, none⟩) sl sc)) (hb : M[i]? = some ⟨g1, T, cs⟩) (hu : P.underlying dT = some (.slice e)) (hs : (P.info? e).map (·.size) = some 1)
    (hn : Nat.min sl dl = n) (hvl : vs.length = n) (hv : xs.take n = vs) (hle : a + n ≤ cs.length) (hf : ∀ v ∈ vs, flat v = true) (hes : splice cs a vs = es) : OpRW P St g off xs M o (Det (goInt n) (M.set i ⟨g1, T, es⟩)) := by
  intro ρ w0 S w hρ hw hro
  have hg := hw.has.at_ _ (List.mem_of_getElem? hb)
  have hsrc : ∀ k v, vs[k]? = some v → w.cell? ((⟨g, off, none⟩ : Addr).add k) = some v := by
    intro k v hk
    have hadd : (⟨g, off, none⟩ : Addr).add k = ⟨g, off + k, none⟩ := by unfold Addr.add; split <;> simp_all
    rw [hadd]
    refine hro.2.2 k v ?_
    subst hv
    have hlt : k < n := by have := (List.getElem?_eq_some_iff.1 hk).1; simp at this; omega
    rw [List.getElem?_take_of_lt hlt] at hk
    exact hk
  have hrun := run_copy_row (P := P) w dT sT o.type e g1 a dl dc ⟨g, off, none⟩ sl sc cs.toArray T vs hu hs hg (by rw [hvl, hn]) hsrc (by rw [hvl]; simpa using hle) hf
  have : (execOp ρ o).run P w = .ok (.value (goInt n)) (w.setRow g1 es.toArray) := by
    have he : (cs.toArray.toList.take a ++ vs ++ cs.toArray.toList.drop (a + vs.length)) = es := hes
    rw [he, hvl] at hrun
    simp only [execOp, ho, resolve, List.map_toArray, List.map_cons, List.map_nil, hρ _ _ hx, hρ _ _ hy, Sem.run_bind, Sem.run_pure, Result.andThen_ok, invoke, builtin, hrun]
  rw [this]
  exact ⟨_, ⟨rfl, rfl⟩, hw.setRow hb es⟩
theorem opr_arrayAt {P : Program} {St : Slots} {M : Mem} {o : Oper} {T e : TypeId} {x : Operand} {a : Option Addr} {n len c : Nat} (ho : o.op = .sliceToArrayPointer T x) (hx : evalS St x = some (.slice a len c)) (hu : P.underlying T = some (.array n e)) (hl : n ≤ len) : OpR P St M o (Det (.pointer a) M) :=
  opr_value fun ρ w0 S w hρ hw => by
    have hr : (Instr.arrayAt T (.slice a len c)).run P w = .ok (.pointer a) w := by
      unfold Instr.arrayAt
      rw [Sem.run_bind, run_underlying hu w]
      simp [Nat.not_lt.2 hl]
    simp only [execOp, ho, hρ _ _ hx, Sem.run_bind, hr, Result.andThen_ok, Sem.run_pure]
theorem opr_loadAW {P : Program} {St : Slots} {M : Mem} {o : Oper} {g off off' j : Nat} {xs : List Value} {T : TypeId} {x : Operand} {n : Nat} {d : TypeDesc} (ho : o.op = .load T x) (hx : evalS St x = some (.pointer (some ⟨g, off', none⟩))) (hu : P.underlying T = some d) (hd : isAggD d = true) (hn : (P.info? T).map (·.size) = some n) {vs : List Value}
    (he : off + j = off') (hl : vs.length = n) (hv : (xs.drop j).take n = vs) : OpRW P St g off xs M o (Det (.agg vs.toArray) M) := by
  intro ρ w0 S w hρ hw hro
  subst he
  have hcells : (loadCells ⟨g, off + j, none⟩ vs.length).run P w = .ok vs.toArray w :=
    run_loadCells_list (P := P) w ⟨g, off + j, none⟩ vs (fun k v hk => by
      have hadd : (⟨g, off + j, none⟩ : Addr).add k = ⟨g, off + j + k, none⟩ := by unfold Addr.add; split <;> simp_all
      rw [hadd, Nat.add_assoc]
      refine hro.2.2 (j + k) v ?_
      have hkn : k < n := by
        have := (List.getElem?_eq_some_iff.1 hk).1
        omega
      rw [← hv, List.getElem?_take_of_lt hkn, List.getElem?_drop] at hk
      exact hk)
  have hagg : (isAgg T).run P w = .ok true w := by
    unfold isAgg
    rw [Sem.run_bind, run_underlying hu w]
    cases d <;> simp_all [isAggD]
  have hlv : (loadVar T ⟨g, off + j, none⟩).run P w = .ok (.agg vs.toArray) w := by
    obtain ⟨inf, hq, hs⟩ := Option.map_eq_some_iff.1 hn
    rw [hl] at hcells
    simp only [loadVar, Sem.run_bind, Sem.run_pure, Result.andThen_ok, hagg, Sem.run_ite, sizeOf, typeInfo, run_program, hq, hs, if_true, hcells]
  have hrun : (execOp ρ o).run P w = .ok (.value (.agg vs.toArray)) w := by
    simp only [execOp, ho, hρ _ _ hx, Instr.loadAt, Instr.sureAddr, Sem.run_bind, Sem.run_pure, Result.andThen_ok, hlv]
  rw [hrun]
  exact ⟨M, ⟨rfl, rfl⟩, hw⟩
end Go.Proofs.YtjanppnnioeifaaDoor
