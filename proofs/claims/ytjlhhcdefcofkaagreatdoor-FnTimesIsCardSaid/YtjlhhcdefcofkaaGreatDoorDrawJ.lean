/- DrawI, Chain, in one text. -/
import Derived.Test.YtjlhhcdefcofkaaGreatDoorAppend
import Derived.Test.YtjlhhcdefcofkaaGreatDoorDrawA
/- Drawn regions in which operations may make whatever they will: what holds is told by a relation over the set of those that are done. -/
namespace Go.Proofs.YtjlhhcdefcofkaaGreatDoor
open Go
section
variable {C : Ctx} {Q : Exit → Act → World → Prop} {St : Slots} {M : Mem} {l : List Oper}
/-- What an operation does in the worlds of this call. -/
def OpRC (C : Ctx) (St : Slots) (M : Mem) (o : Oper) (R : Value → Mem → Prop) : Prop :=
  ∀ (ρ : Operand → Value) (w : World), (∀ x v, evalS St x = some v → ρ x = v) → Inv C.w0 C.S M w → Yields C.P C.w0 C.S R ((execOp ρ o).run C.P w)
theorem OpR.c {o : Oper} {R : Value → Mem → Prop} (h : OpR C.P St M o R) : OpRC C St M o R := fun ρ w hρ hI => h ρ _ _ w hρ hI
/-- An operation that is told by a relation, or is passed over. -/
def OpX (C : Ctx) (ops : List Oper) (St : Slots) (M : Mem) (o : Oper) (R : Value → Mem → Prop) : Prop :=
  fits C.n o.dst = true ∧ ((wantS ops St o = some true ∧ OpRC C St M o R) ∨ (wantS ops St o = some false ∧ R undef M))
theorem at_draw_inv {id : Nat} (hm : C.P.follows .mixedOrders = true) (hok : drawOk l = true) {J : (Nat → Bool) → List Value → Mem → Prop} {vs0 : List Value} (hv0 : vs0.length = l.length) (h0 : J (fun _ => false) vs0 M)
    (hop : ∀ (i : Nat) (o : Oper) (L : Nat → Bool) (vs : List Value) (M1 : Mem), l[i]? = some o → L i = false → (∀ j, j ∈ (befs l []).getD i [] → j ≠ i → L j = true) → (∀ j, i ∈ (befs l []).getD j [] → L j = false) → vs.length = l.length → J L vs M1 →
      OpX C l (slotsAt St l vs i) M1 o (fun v M' => ∃ M'', M''.Perm M' ∧ J (fun k => if k = i then true else L k) (vs.set i v) M''))
    (k : ∀ (L : Nat → Bool) (vs : List Value) (M1 : Mem), vs.length = l.length → (∀ i, i < l.length → L i = true) → J L vs M1 → At C (slotsAt St l vs l.length) M1 (Q .normal)) : At C St M ((Code.region id l.toArray true).wp C.P Q) := by
  intro a w ha hw
  have hok' := hok
  simp only [drawOk, Bool.and_eq_true, List.all_eq_true, List.mem_range] at hok'
  have hn := noTwice_spec _ hok'.1
  have hb : ∀ (L : Nat → Bool), Closed l L → ∀ i j, j ∈ (befs l []).getD i [] → L i = true → L j = true :=
    fun L hL => befs_closed hL l [] [] rfl rfl (by simp)
  refine wp_region_any hm ?_
  -- all that holds at a state
  have key : ∀ (fuel : Nat) (listed : Array Bool) (a : Act) (w : World) (vs : List Value) (M1 : Mem), listed.size = l.length → listed.toList.count false ≤ fuel →
      Closed l (fun i => listed.getD i false) → Cons C.n St l vs (fun i => listed.getD i false) a → vs.length = l.length → J (fun i => listed.getD i false) vs M1 →
      Inv C.w0 C.S M1 w → wpAny C.P .any l.toArray Q fuel listed a w := by
    have allL : ∀ (listed : Array Bool), listed.size = l.length → Region.ready .any l.toArray listed = [] → ∀ i, i < l.length → listed.getD i false = true := by
      intro listed hsz hr i
      induction i using Nat.strongRecOn with
      | _ i ih =>
        intro hi
        by_cases hLi : listed.getD i false = true
        · exact hLi
        · exfalso
          have : i ∈ Region.ready .any l.toArray listed := by
            simp only [Region.ready, List.mem_filter, List.mem_range, Bool.and_eq_true, List.size_toArray]
            refine ⟨hi, ?_, ?_⟩
            · have hsz' : i < listed.size := by omega
              simp only [Array.getD_eq_getD_getElem?, Array.getElem?_eq_getElem hsz', Option.getD_some] at hLi ⊢
              simpa using hLi
            · simp only [List.getElem?_toArray, List.getElem?_eq_getElem hi, Option.map_some, Option.getD_some, Array.all_eq_true']
              intro e he
              by_cases hbi : Region.binds .any e = true
              · have hmem : e.on ∈ aft l[i] := by
                  simp only [aft, List.mem_map, List.mem_filter]
                  exact ⟨e, ⟨by simpa using he, hbi⟩, rfl⟩
                have h1 := hok'.2 i hi
                rw [List.getElem?_eq_getElem hi] at h1
                simp only [opOk, Bool.and_eq_true, List.all_eq_true] at h1
                have hlt : e.on < i := by simpa [Nat.blt_eq] using h1.1.2 _ hmem
                have := ih e.on hlt (by omega)
                simp [this]
              · simp [hbi]
          rw [hr] at this
          simp at this
    have fin : ∀ (listed : Array Bool) (a : Act) (w : World) (vs : List Value) (M1 : Mem), listed.size = l.length → Region.ready .any l.toArray listed = [] →
        Cons C.n St l vs (fun i => listed.getD i false) a → vs.length = l.length → J (fun i => listed.getD i false) vs M1 → Inv C.w0 C.S M1 w → Q .normal a w := by
      intro listed a w vs M1 hsz hr hc hvl hJ hi
      have hal := allL listed hsz hr
      refine k _ vs M1 hvl (fun i hi => hal i hi) hJ a w ⟨hc.size, hc.defers, fun t v hv => ?_⟩ hi
      by_cases hex : ∃ k : Nat, (l[k]?).bind Oper.dst = some t
      · obtain ⟨k, hk⟩ := hex
        have hkl : k < l.length := by
          obtain ⟨o', ho', _⟩ := Option.bind_eq_some_iff.1 hk
          exact (List.getElem?_eq_some_iff.1 ho').1
        rw [look_slotsAt_some hn hk _ hkl] at hv
        rw [hc.new t k hk (hal k hkl)]
        exact hv
      · rw [look_slotsAt_none _ (fun j _ e => hex ⟨j, e⟩)] at hv
        exact hc.old t v (fun k hk => absurd ⟨k, hk⟩ hex) hv
    intro fuel
    induction fuel with
    | zero =>
      intro listed a w vs M1 hsz hcnt hcl hc hvl hJ hi
      have hr : Region.ready .any l.toArray listed = [] := by
        rw [List.eq_nil_iff_forall_not_mem]
        intro i him
        simp only [Region.ready, List.mem_filter, List.mem_range, Bool.and_eq_true, List.size_toArray, Bool.not_eq_true'] at him
        have hsz' : i < listed.size := by omega
        have h0 := him.2.1
        simp only [Array.getD_eq_getD_getElem?, Array.getElem?_eq_getElem hsz', Option.getD_some] at h0
        have : false ∈ listed.toList := by rw [← h0]; simp
        have := List.count_pos_iff.2 this
        omega
      exact ⟨hr, fin listed a w vs M1 hsz hr hc hvl hJ hi⟩
    | succ fuel ih =>
      intro listed a w vs M1 hsz hcnt hcl hc hvl hJ hi
      refine ⟨fun hr => fin listed a w vs M1 hsz hr hc hvl hJ hi, fun i him => ?_⟩
      simp only [Region.ready, List.mem_filter, List.mem_range, Bool.and_eq_true, List.size_toArray, Bool.not_eq_true'] at him
      obtain ⟨hil, hun, hall⟩ := him
      have hsz' : i < listed.size := by omega
      have hLi : listed.getD i false = false := by
        simp only [Array.getD_eq_getD_getElem?, Array.getElem?_eq_getElem hsz', Option.getD_some] at hun ⊢
        exact hun
      have hio : l[i]? = some l[i] := List.getElem?_eq_getElem hil
      have hr : ∀ j ∈ aft l[i], listed.getD j false = true := by
        intro j hj
        simp only [List.getElem?_toArray, hio, Option.map_some, Option.getD_some, Array.all_eq_true'] at hall
        simp only [aft, List.mem_map, List.mem_filter] at hj
        obtain ⟨e, ⟨he, hbi⟩, rfl⟩ := hj
        have := hall e (by simpa using he)
        simpa [hbi] using this
      have hread : ∀ t ∈ reads l l[i], ∀ v, look (slotsAt St l vs i) t = some v → a.tmps[t]? = some v :=
        fun t ht v hv => hc.reads hok hcl hio hLi hr ht hv
      have hgs : ∀ d ∈ guardSlot l l[i], ∀ v, look (slotsAt St l vs i) d = some v → a.tmps[d]? = some v :=
        fun d hd => hread d (List.mem_append_left _ hd)
      have hL1 : ∀ j, (listed.setIfInBounds i true).getD j false = if j = i then true else listed.getD j false := by
        intro j
        simp only [Array.getD_eq_getD_getElem?]
        by_cases e : j = i
        · subst e; simp [hsz']
        · simp [e, Array.getElem?_setIfInBounds_ne (Ne.symm e)]
      have hcl1 : Closed l (fun j => (listed.setIfInBounds i true).getD j false) := by
        intro j o' hj hj' m hm
        simp only [hL1] at hj' ⊢
        by_cases e : j = i
        · subst e
          rw [hio] at hj
          cases hj
          simp [hr m hm]
        · simp only [e, if_false] at hj'
          simp [hcl j o' hj hj' m hm]
      have hbr : ∀ j, j ∈ (befs l []).getD i [] → j ≠ i → listed.getD j false = true := by
        intro j hj hji
        have := hb _ hcl1 i j hj (by simp only [hL1, if_true])
        simpa only [hL1, if_neg hji] using this
      obtain ⟨hf, hg⟩ := hop i l[i] _ vs M1 hio hLi hbr (fun j hj => by
        cases h2 : listed.getD j false
        · rfl
        · have := hb _ hcl j i hj h2
          rw [hLi] at this
          exact absurd this (by decide)) hvl hJ
      have next : ∀ v M' w', (∃ M'', M''.Perm M' ∧ J (fun k => if k = i then true else listed.getD k false) (vs.set i v) M'') → Inv C.w0 C.S M' w' → wpAny C.P .any l.toArray Q fuel (listed.setIfInBounds i true) (a.put l[i].dst v) w' := by
        rintro v M' w' ⟨M'', hp, hJ'⟩ hw'
        have hcount : (listed.setIfInBounds i true).toList.count false ≤ fuel := by
          have h0 : listed.toList[i]? = some false := by
            simp only [Array.getElem?_toList]
            simp only [Array.getD_eq_getD_getElem?, Array.getElem?_eq_getElem hsz', Option.getD_some] at hLi
            rw [Array.getElem?_eq_getElem hsz', hLi]
          have := countFalse_set _ _ h0
          simp only [Array.toList_setIfInBounds]
          omega
        have e : (fun j => (listed.setIfInBounds i true).getD j false) = (fun k => if k = i then true else listed.getD k false) := funext hL1
        have hvi : (vs.set i v).getD i undef = v := by
          rw [List.getD_eq_getElem?_getD, List.getElem?_set_self (by omega)]; rfl
        have hc' : Cons C.n St l (vs.set i v) (fun i => listed.getD i false) a := ⟨hc.size, hc.defers, hc.old, fun t k hk hLk => by
          have hne : i ≠ k := fun he => by subst he; rw [hLi] at hLk; exact absurd hLk (by decide)
          rw [List.getD_eq_getElem?_getD, List.getElem?_set_ne hne, ← List.getD_eq_getElem?_getD]
          exact hc.new t k hk hLk⟩
        have hput := hc'.put hn hio hf
        rw [hvi] at hput
        refine ih _ _ _ (vs.set i v) M'' (by simpa using hsz) hcount hcl1 (by rw [e]; exact hput) (by rw [List.length_set]; exact hvl) (by rw [e]; exact hJ') ?_
        exact hw'.of_mem (fun b hb => hp.mem_iff.1 hb) (((hp.map Blk.g).nodup_iff).2 hw'.has.nodup)
      unfold wpOp
      simp only [List.getElem?_toArray, hio]
      rcases hg with ⟨hwant, hopr⟩ | ⟨hwant, hR⟩
      · rw [if_pos (wanted_of' hgs hwant)]
        left
        let ρ : Operand → Value := fun x => (evalS (slotsAt St l vs i) x).getD (a.eval x)
        have hρ : ∀ x v, evalS (slotsAt St l vs i) x = some v → ρ x = v := by
          intro x v hx
          simp only [ρ, hx, Option.getD_some]
        have hsel : ∀ cs b, l[i].op ≠ .select cs b := by
          intro cs b e
          have h1 := hok'.2 i hil
          rw [hio] at h1
          simp only [opOk, Bool.and_eq_true] at h1
          rw [e] at h1
          simp [isSelect] at h1
        have hcongr : execOp a.eval l[i] = execOp ρ l[i] := by
          refine execOp_congr _ hsel fun x hx => ?_
          simp only [ρ]
          cases hx' : evalS (slotsAt St l vs i) x with
          | none => rfl
          | some v =>
            simp only [Option.getD_some]
            cases x with
            | tmp t =>
              have ht : t ∈ reads l l[i] := List.mem_append_right _ (mem_tmpsOf _ (by simpa using hx))
              have := hread t ht v hx'
              simp only [Act.eval, Array.getD_eq_getD_getElem?, this, Option.getD_some]
            | const u => exact Option.some.inj hx'
            | global g => exact Option.some.inj hx'
            | func f => exact Option.some.inj hx'
        unfold Oper.wp
        rw [hcongr]
        refine Yields.upon (hopr ρ w hρ hi) ?_
        intro v M' w' hR hw'
        exact next v M' w' hR hw'
      · rw [if_neg (by rw [wanted_of' hgs hwant]; decide)]
        exact next undef M1 w hR hi
  refine key _ _ _ _ vs0 M (by simp) ?_ ?_ ⟨ha.size, ha.defers, fun t v _ hv => ha.slot t v hv, fun t k hk hLk => ?_⟩ hv0 ?_ hw.drew
  · simp only [List.size_toArray]
    refine Nat.le_trans List.count_le_length ?_
    simp
  · intro i o _ hi
    simp only [Array.getD_eq_getD_getElem?, List.size_toArray, Array.getElem?_replicate] at hi
    split at hi <;> simp at hi
  · simp only [Array.getD_eq_getD_getElem?, List.size_toArray, Array.getElem?_replicate] at hLk
    split at hLk <;> simp at hLk
  · have hz : ∀ j, (Array.replicate l.toArray.size false).getD j false = false := by
      intro j
      simp only [Array.getD_eq_getD_getElem?, List.size_toArray, Array.getElem?_replicate]
      split <;> rfl
    rw [show (fun i => (Array.replicate l.toArray.size false).getD i false) = (fun _ => false) from funext hz]
    exact h0

theorem Yields.mono {P : Program} {w0 : World} {S : List Nat} {R R' : Value → Mem → Prop} {r : Result Next} (h : Yields P w0 S R r) (hR : ∀ v M', R v M' → R' v M') : Yields P w0 S R' r := by
  match r, h with
  | .ok (.value v) w', ⟨M', h1, h2⟩ => exact ⟨M', hR _ _ h1, h2⟩
  | .ok .skip w', ⟨M', h1, h2⟩ => exact ⟨M', hR _ _ h1, h2⟩
  | .ok (.enter f args) w', h => exact Calls.mono h (by rintro e w'' ⟨v, M', h1, h2, h3⟩; exact ⟨v, M', hR _ _ h1, h2, h3⟩)
theorem set_keep {vs0 : List Value} {i n : Nat} {x v : Value} (e : i ≠ n) (hi : i < vs0.length) (hv : v = vs0.getD i undef) : (vs0.set n x).set i v = vs0.set n x := by
  subst hv
  apply List.ext_getElem?
  intro j
  by_cases h : i = j
  · subst h
    rw [List.getElem?_set_self (by rw [List.length_set]; exact hi), List.getElem?_set_ne (Ne.symm e), List.getD_eq_getElem?_getD, List.getElem?_eq_getElem hi]
    rfl
  · rw [List.getElem?_set_ne h]
/-- In whatever order, where one operation is told by a relation, and the others keep the memory. -/
theorem at_draw_one {id : Nat} (hm : C.P.follows .mixedOrders = true) (hok : drawOk l = true) {n : Nat} {vs0 : List Value} (hv0 : vs0.length = l.length) {R9 : Value → Mem → Prop}
    (hN : ∀ o, l[n]? = some o → OpX C l (slotsAt St l (vs0.set n undef) n) M o R9)
    (hA : ∀ (i : Nat) o, l[i]? = some o → i ≠ n → n ∈ (befs l []).getD i [] ∨ OpG C l (slotsAt St l (vs0.set n undef) i) M o (vs0.getD i undef) M)
    (hB : ∀ v9 M9, R9 v9 M9 → ∀ (i : Nat) o, l[i]? = some o → i ≠ n → OpG C l (slotsAt St l (vs0.set n v9) i) M9 o (vs0.getD i undef) M9) (hn : n < l.length)
    (k : ∀ v9 M9, R9 v9 M9 → At C (slotsAt St l (vs0.set n v9) l.length) M9 (Q .normal)) : At C St M ((Code.region id l.toArray true).wp C.P Q) := by
  refine at_draw_inv hm hok (vs0 := vs0.set n undef) (J := fun L vs M1 => (L n = false ∧ vs = vs0.set n undef ∧ M1 = M) ∨ (L n = true ∧ ∃ v9, vs = vs0.set n v9 ∧ R9 v9 M1)) (by rw [List.length_set]; exact hv0) (.inl ⟨rfl, rfl, rfl⟩) ?_ ?_
  · intro i o L vs M1 hio hLi hbf hlt hvl hJ
    have hil : i < vs0.length := by rw [hv0]; exact (List.getElem?_eq_some_iff.1 hio).1
    rcases hJ with ⟨hn0, rfl, rfl⟩ | ⟨hn1, v9, rfl, hR⟩
    · by_cases e : i = n
      · subst e
        obtain ⟨hf, hg⟩ := hN o hio
        have key : ∀ v M', R9 v M' → ∃ M'', M''.Perm M' ∧ (((if i = i then true else L i) = false ∧ (vs0.set i undef).set i v = vs0.set i undef ∧ M'' = M1) ∨ ((if i = i then true else L i) = true ∧ ∃ v9, (vs0.set i undef).set i v = vs0.set i v9 ∧ R9 v9 M'')) :=
          fun v M' h => ⟨M', .refl _, .inr ⟨by simp, v, List.set_set .., h⟩⟩
        refine ⟨hf, ?_⟩
        rcases hg with ⟨hw, h⟩ | ⟨hw, h⟩
        · exact .inl ⟨hw, fun ρ w hρ hI => (h ρ w hρ hI).mono key⟩
        · exact .inr ⟨hw, key _ _ h⟩
      · rcases hA i o hio e with hb | ⟨hf, hg⟩
        · exact absurd (hbf n hb (Ne.symm e)) (by rw [hn0]; decide)
        · refine ⟨hf, ?_⟩
          rcases hg with ⟨hw, h⟩ | ⟨hw, hv, hM⟩
          · refine .inl ⟨hw, fun ρ w hρ hI => (h ρ _ _ w hρ hI).mono ?_⟩
            rintro v M' ⟨hv, rfl⟩
            exact ⟨_, .refl _, .inl ⟨by simp only [if_neg (Ne.symm e)]; exact hn0, set_keep e hil hv, rfl⟩⟩
          · exact .inr ⟨hw, _, .refl _, .inl ⟨by simp only [if_neg (Ne.symm e)]; exact hn0, set_keep e hil hv.symm, rfl⟩⟩
    · have e : i ≠ n := fun e => by subst e; rw [hLi] at hn1; exact absurd hn1 (by decide)
      obtain ⟨hf, hg⟩ := hB v9 M1 hR i o hio e
      refine ⟨hf, ?_⟩
      rcases hg with ⟨hw, h⟩ | ⟨hw, hv, hM⟩
      · refine .inl ⟨hw, fun ρ w hρ hI => (h ρ _ _ w hρ hI).mono ?_⟩
        rintro v M' ⟨hv, rfl⟩
        exact ⟨_, .refl _, .inr ⟨by simp only [if_neg (Ne.symm e)]; exact hn1, v9, set_keep e hil hv, hR⟩⟩
      · exact .inr ⟨hw, _, .refl _, .inr ⟨by simp only [if_neg (Ne.symm e)]; exact hn1, v9, set_keep e hil hv.symm, hR⟩⟩
  · intro L vs M1 hvl hL hJ
    rcases hJ with ⟨hn0, _, _⟩ | ⟨_, v9, rfl, hR⟩
    · rw [hL n hn] at hn0; exact absurd hn0 (by decide)
    · exact k v9 M1 hR
end
end Go.Proofs.YtjlhhcdefcofkaaGreatDoor

/- A drawn region of nine operations: five that are pure, three that make memories one behind the other, and one that takes the last one's value. -/
namespace Go.Proofs.YtjlhhcdefcofkaaGreatDoor
open Go
section
variable {C : Ctx} {Q : Exit → Act → World → Prop} {St : Slots} {M : Mem}
def PureOp (C : Ctx) (l : List Oper) (St : Slots) (o : Oper) (v : Value) : Prop := fits C.n o.dst = true ∧ wantS l St o = some true ∧ ∀ M', OpR C.P St M' o (Det v M')
def MakeOp (C : Ctx) (l : List Oper) (St : Slots) (M : Mem) (o : Oper) (R : Value → Mem → Prop) : Prop := fits C.n o.dst = true ∧ wantS l St o = some true ∧ OpR C.P St M o (fun v M' => ∃ M'', M''.Perm M' ∧ R v M'')
theorem at_draw_chain {id : Nat} {o0 o1 o2 o3 o4 o5 o6 o7 o8 : Oper} {l : List Oper} (hl : l = [o0, o1, o2, o3, o4, o5, o6, o7, o8]) (hm : C.P.follows .mixedOrders = true) (hok : drawOk l = true)
    (h56 : 5 ∈ (befs l []).getD 6 []) (h67 : 6 ∈ (befs l []).getD 7 []) (h78 : 7 ∈ (befs l []).getD 8 []) (a0 a1 a2 a3 a4 : Value) {R5 : Value → Mem → Prop} {R6 : Value → Value → Mem → Prop} {R7 : Value → Value → Value → Mem → Prop}
    (p0 : PureOp C l (slotsAt St l [a0, a1, a2, a3, a4, undef, undef, undef, undef] 0) o0 a0)
    (p1 : PureOp C l (slotsAt St l [a0, a1, a2, a3, a4, undef, undef, undef, undef] 1) o1 a1)
    (p2 : PureOp C l (slotsAt St l [a0, a1, a2, a3, a4, undef, undef, undef, undef] 2) o2 a2)
    (p3 : PureOp C l (slotsAt St l [a0, a1, a2, a3, a4, undef, undef, undef, undef] 3) o3 a3)
    (p4 : PureOp C l (slotsAt St l [a0, a1, a2, a3, a4, undef, undef, undef, undef] 4) o4 a4)
    (m5 : MakeOp C l (slotsAt St l [a0, a1, a2, a3, a4, undef, undef, undef, undef] 5) M o5 R5)
    (m6 : ∀ v5 M5, R5 v5 M5 → MakeOp C l (slotsAt St l [a0, a1, a2, a3, a4, v5, undef, undef, undef] 6) M5 o6 (R6 v5))
    (m7 : ∀ v5 v6 M6, R6 v5 v6 M6 → MakeOp C l (slotsAt St l [a0, a1, a2, a3, a4, v5, v6, undef, undef] 7) M6 o7 (R7 v5 v6))
    (p8 : ∀ v5 v6 v7 M7, R7 v5 v6 v7 M7 → PureOp C l (slotsAt St l [a0, a1, a2, a3, a4, v5, v6, v7, undef] 8) o8 v7)
    (k : ∀ v5 v6 v7 M7, R7 v5 v6 v7 M7 → At C (slotsAt St l [a0, a1, a2, a3, a4, v5, v6, v7, v7] 9) M7 (Q .normal)) : At C St M ((Code.region id l.toArray true).wp C.P Q) := by
  subst hl
  refine at_draw_inv hm hok (vs0 := [a0, a1, a2, a3, a4, undef, undef, undef, undef]) (J := fun L vs M1 => ∃ v5 v6 v7 v8, vs = [a0, a1, a2, a3, a4, v5, v6, v7, v8] ∧ ((L 5 = false ∧ L 6 = false ∧ L 7 = false ∧ M1 = M) ∨ (L 5 = true ∧ L 6 = false ∧ L 7 = false ∧ R5 v5 M1) ∨ (L 5 = true ∧ L 6 = true ∧ L 7 = false ∧ R6 v5 v6 M1) ∨ (L 5 = true ∧ L 6 = true ∧ L 7 = true ∧ R7 v5 v6 v7 M1 ∧ (L 8 = true → v8 = v7)))) rfl ⟨_, _, _, _, rfl, .inl ⟨rfl, rfl, rfl, rfl⟩⟩ ?_ ?_
  · intro i o L vs M1 hio hLi hbf hlt hvl hJ
    obtain ⟨v5, v6, v7, v8, rfl, hJ⟩ := hJ
    have keep : ∀ (j : Nat) (o' : Oper) (a : Value) (St' : Slots), j ≠ 5 → j ≠ 6 → j ≠ 7 → j ≠ 8 → (([a0, a1, a2, a3, a4, v5, v6, v7, v8] : List Value).set j a = [a0, a1, a2, a3, a4, v5, v6, v7, v8]) → PureOp C [o0, o1, o2, o3, o4, o5, o6, o7, o8] St' o' a →
        OpX C [o0, o1, o2, o3, o4, o5, o6, o7, o8] St' M1 o' (fun v M' => ∃ M'', M''.Perm M' ∧ ∃ v5' v6' v7' v8', ([a0, a1, a2, a3, a4, v5, v6, v7, v8] : List Value).set j v = [a0, a1, a2, a3, a4, v5', v6', v7', v8'] ∧ (((fun k => if k = j then true else L k) 5 = false ∧ (fun k => if k = j then true else L k) 6 = false ∧ (fun k => if k = j then true else L k) 7 = false ∧ M'' = M) ∨ ((fun k => if k = j then true else L k) 5 = true ∧ (fun k => if k = j then true else L k) 6 = false ∧ (fun k => if k = j then true else L k) 7 = false ∧ R5 v5' M'') ∨ ((fun k => if k = j then true else L k) 5 = true ∧ (fun k => if k = j then true else L k) 6 = true ∧ (fun k => if k = j then true else L k) 7 = false ∧ R6 v5' v6' M'') ∨ ((fun k => if k = j then true else L k) 5 = true ∧ (fun k => if k = j then true else L k) 6 = true ∧ (fun k => if k = j then true else L k) 7 = true ∧ R7 v5' v6' v7' M'' ∧ ((fun k => if k = j then true else L k) 8 = true → v8' = v7')))) := by
      intro j o' a St' h5 h6 h7 h8 hs ⟨hf, hw, h⟩
      refine ⟨hf, .inl ⟨hw, fun ρ w hρ hI => (h M1 ρ _ _ w hρ hI).mono ?_⟩⟩
      rintro v M' ⟨rfl, rfl⟩
      refine ⟨_, .refl _, v5, v6, v7, v8, hs, ?_⟩
      simp only [if_neg (Ne.symm h5), if_neg (Ne.symm h6), if_neg (Ne.symm h7), if_neg (Ne.symm h8)]
      exact hJ
    match i, hio with
    | 0, hio => obtain rfl := Option.some.inj hio; exact keep 0 _ a0 _ (by decide) (by decide) (by decide) (by decide) rfl p0
    | 1, hio => obtain rfl := Option.some.inj hio; exact keep 1 _ a1 _ (by decide) (by decide) (by decide) (by decide) rfl p1
    | 2, hio => obtain rfl := Option.some.inj hio; exact keep 2 _ a2 _ (by decide) (by decide) (by decide) (by decide) rfl p2
    | 3, hio => obtain rfl := Option.some.inj hio; exact keep 3 _ a3 _ (by decide) (by decide) (by decide) (by decide) rfl p3
    | 4, hio => obtain rfl := Option.some.inj hio; exact keep 4 _ a4 _ (by decide) (by decide) (by decide) (by decide) rfl p4
    | 5, hio =>
      obtain rfl := Option.some.inj hio
      rcases hJ with ⟨_, l6, l7, rfl⟩ | ⟨h1, _⟩ | ⟨h1, _⟩ | ⟨h1, _⟩
      · obtain ⟨hf, hw, h⟩ := m5
        refine ⟨hf, .inl ⟨hw, fun ρ w hρ hI => (h ρ _ _ w hρ hI).mono ?_⟩⟩
        rintro v M' ⟨M'', hp, hR⟩
        exact ⟨M'', hp, v, v6, v7, v8, rfl, .inr (.inl ⟨rfl, l6, l7, hR⟩)⟩
      · rw [hLi] at h1; cases h1
      · rw [hLi] at h1; cases h1
      · rw [hLi] at h1; cases h1
    | 6, hio =>
      obtain rfl := Option.some.inj hio
      have l5 := hbf 5 h56 (by decide)
      rcases hJ with ⟨h1, _⟩ | ⟨_, _, l7, hR⟩ | ⟨_, h1, _⟩ | ⟨_, h1, _⟩
      · rw [l5] at h1; cases h1
      · obtain ⟨hf, hw, h⟩ := m6 v5 M1 hR
        refine ⟨hf, .inl ⟨hw, fun ρ w hρ hI => (h ρ _ _ w hρ hI).mono ?_⟩⟩
        rintro v M' ⟨M'', hp, hR'⟩
        exact ⟨M'', hp, v5, v, v7, v8, rfl, .inr (.inr (.inl ⟨l5, rfl, l7, hR'⟩))⟩
      · rw [hLi] at h1; cases h1
      · rw [hLi] at h1; cases h1
    | 7, hio =>
      obtain rfl := Option.some.inj hio
      have l6 := hbf 6 h67 (by decide)
      have l8 := hlt 8 h78
      rcases hJ with ⟨_, h1, _⟩ | ⟨_, h1, _⟩ | ⟨l5, _, _, hR⟩ | ⟨_, _, h1, _⟩
      · rw [l6] at h1; cases h1
      · rw [l6] at h1; cases h1
      · obtain ⟨hf, hw, h⟩ := m7 v5 v6 M1 hR
        refine ⟨hf, .inl ⟨hw, fun ρ w hρ hI => (h ρ _ _ w hρ hI).mono ?_⟩⟩
        rintro v M' ⟨M'', hp, hR'⟩
        exact ⟨M'', hp, v5, v6, v, v8, rfl, .inr (.inr (.inr ⟨l5, l6, rfl, hR', fun h8 => absurd (show L 8 = true from h8) (by rw [l8]; decide)⟩))⟩
      · rw [hLi] at h1; cases h1
    | 8, hio =>
      obtain rfl := Option.some.inj hio
      have l7 := hbf 7 h78 (by decide)
      rcases hJ with ⟨_, _, h1, _⟩ | ⟨_, _, h1, _⟩ | ⟨_, _, h1, _⟩ | ⟨l5, l6, _, hR, _⟩
      · rw [l7] at h1; cases h1
      · rw [l7] at h1; cases h1
      · rw [l7] at h1; cases h1
      · obtain ⟨hf, hw, h⟩ := p8 v5 v6 v7 M1 hR
        refine ⟨hf, .inl ⟨hw, fun ρ w hρ hI => (h M1 ρ _ _ w hρ hI).mono ?_⟩⟩
        rintro v M' ⟨rfl, rfl⟩
        exact ⟨_, .refl _, v5, v6, _, _, rfl, .inr (.inr (.inr ⟨l5, l6, l7, hR, fun _ => rfl⟩))⟩
    | n + 9, hio => exact absurd (List.getElem?_eq_some_iff.1 hio).1 (by simp)
  · intro L vs M1 hvl hL hJ
    obtain ⟨v5, v6, v7, v8, rfl, hJ⟩ := hJ
    have l7 := hL 7 (by simp)
    have l8 := hL 8 (by simp)
    rcases hJ with ⟨_, _, h1, _⟩ | ⟨_, _, h1, _⟩ | ⟨_, _, h1, _⟩ | ⟨_, _, _, hR, h8⟩
    · rw [l7] at h1; cases h1
    · rw [l7] at h1; cases h1
    · rw [l7] at h1; cases h1
    · obtain rfl := h8 l8
      exact k v5 v6 _ M1 hR
end
end Go.Proofs.YtjlhhcdefcofkaaGreatDoor
