/- Drawn regions with two operations that make other memories, one behind the other. -/
import Derived.Test.YtoagfplhcimghaaDraw
namespace Go.Proofs.Ytoagfplhcimghaa
open Go
section
variable {C : Ctx} {Q : Exit → Act → World → Prop} {St : Slots} {M : Mem} {l : List Oper} {vs : List Value}
def Mo (M M1 M2 : Mem) (k1 k2 : Nat) (L : Nat → Bool) : Mem := if L k2 then M2 else if L k1 then M1 else M
/-- In whatever order; two operations make other memories, one behind the other; what reads the memory comes behind both. -/
theorem at_draw_vsK {id : Nat} (hm : C.P.follows .mixedOrders = true) (hok : drawOk l = true) {M1 M2 : Mem} {k1 k2 : Nat} (h12 : k2 < l.length → k1 ∈ (befs l []).getD k2 []) (hne : k1 ≠ k2) (hk1 : k1 < l.length) (hk2 : k2 < l.length ∨ M2 = M1)
    (hop : ∀ i o, l[i]? = some o → (i ≠ k1 ∧ i ≠ k2 ∧ ∀ M', OpG C l (slotsAt St l vs i) M' o (vs.getD i undef) M') ∨ (i = k1 ∧ OpG C l (slotsAt St l vs i) M o (vs.getD i undef) M1) ∨ (i = k2 ∧ OpG C l (slotsAt St l vs i) M1 o (vs.getD i undef) M2) ∨ (i ≠ k1 ∧ i ≠ k2 ∧ k2 < l.length ∧ k2 ∈ (befs l []).getD i [] ∧ OpG C l (slotsAt St l vs i) M2 o (vs.getD i undef) M2) ∨ (i ≠ k1 ∧ i ≠ k2 ∧ i ∈ (befs l []).getD k1 [] ∧ OpG C l (slotsAt St l vs i) M o (vs.getD i undef) M))
    (k : At C (slotsAt St l vs l.length) M2 (Q .normal)) : At C St M ((Code.region id l.toArray true).wp C.P Q) := by
  intro a w ha hw
  have hok' := hok
  simp only [drawOk, Bool.and_eq_true, List.all_eq_true, List.mem_range] at hok'
  have hn := noTwice_spec _ hok'.1
  have hb : ∀ (L : Nat → Bool), Closed l L → ∀ i j, j ∈ (befs l []).getD i [] → L i = true → L j = true :=
    fun L hL => befs_closed hL l [] [] rfl rfl (by simp)
  have hpos : 0 < l.length := by omega
  refine wp_region_any hm ?_
  -- all that holds at a state
  have key : ∀ (fuel : Nat) (listed : Array Bool) (a : Act) (w : World), listed.size = l.length → listed.toList.count false ≤ fuel →
      Closed l (fun i => listed.getD i false) → Cons C.n St l vs (fun i => listed.getD i false) a →
      Inv C.w0 C.S (Mo M M1 M2 k1 k2 fun i => listed.getD i false) w → wpAny C.P .any l.toArray Q fuel listed a w := by
    have allL : ∀ (listed : Array Bool), listed.size = l.length → Region.ready .any l.toArray listed = [] → ∀ i, i < l.length → listed.getD i false = true := by
      intro listed hsz hr i
      induction i using Nat.strongRecOn with
      | _ i ih =>
        intro hi
        by_cases hLi : listed.getD i false = true
        · exact hLi
        · exfalso
          have : i ∈ Region.ready .any l.toArray listed := by
            simp only [Region.ready, List.mem_filter, List.mem_range, Bool.and_eq_true, List.size_toArray]
            refine ⟨hi, ?_, ?_⟩
            · have hsz' : i < listed.size := by omega
              simp only [Array.getD_eq_getD_getElem?, Array.getElem?_eq_getElem hsz', Option.getD_some] at hLi ⊢
              simpa using hLi
            · simp only [List.getElem?_toArray, List.getElem?_eq_getElem hi, Option.map_some, Option.getD_some, Array.all_eq_true']
              intro e he
              by_cases hbi : Region.binds .any e = true
              · have hmem : e.on ∈ aft l[i] := by
                  simp only [aft, List.mem_map, List.mem_filter]
                  exact ⟨e, ⟨by simpa using he, hbi⟩, rfl⟩
                have h1 := hok'.2 i hi
                rw [List.getElem?_eq_getElem hi] at h1
                simp only [opOk, Bool.and_eq_true, List.all_eq_true] at h1
                have hlt : e.on < i := by simpa [Nat.blt_eq] using h1.1.2 _ hmem
                have := ih e.on hlt (by omega)
                simp [this]
              · simp [hbi]
          rw [hr] at this
          simp at this
    have fin : ∀ (listed : Array Bool) (a : Act) (w : World), listed.size = l.length → Region.ready .any l.toArray listed = [] →
        Cons C.n St l vs (fun i => listed.getD i false) a → Inv C.w0 C.S (Mo M M1 M2 k1 k2 fun i => listed.getD i false) w → Q .normal a w := by
      intro listed a w hsz hr hc hi
      have hal := allL listed hsz hr
      have hMo : (Mo M M1 M2 k1 k2 fun i => listed.getD i false) = M2 := by
        unfold Mo
        rcases hk2 with h | h
        · rw [if_pos (hal k2 h)]
        · rw [h]
          simp only [hal k1 hk1, if_true, ite_self]
      rw [hMo] at hi
      refine k a w ⟨hc.size, hc.defers, fun t v hv => ?_⟩ (by simpa using hi)
      by_cases hex : ∃ k : Nat, (l[k]?).bind Oper.dst = some t
      · obtain ⟨k, hk⟩ := hex
        have hkl : k < l.length := by
          obtain ⟨o', ho', _⟩ := Option.bind_eq_some_iff.1 hk
          exact (List.getElem?_eq_some_iff.1 ho').1
        rw [look_slotsAt_some hn hk _ hkl] at hv
        rw [hc.new t k hk (hal k hkl)]
        exact hv
      · rw [look_slotsAt_none _ (fun j _ e => hex ⟨j, e⟩)] at hv
        exact hc.old t v (fun k hk => absurd ⟨k, hk⟩ hex) hv
    intro fuel
    induction fuel with
    | zero =>
      intro listed a w hsz hcnt hcl hc hi
      have hr : Region.ready .any l.toArray listed = [] := by
        rw [List.eq_nil_iff_forall_not_mem]
        intro i him
        simp only [Region.ready, List.mem_filter, List.mem_range, Bool.and_eq_true, List.size_toArray, Bool.not_eq_true'] at him
        have hsz' : i < listed.size := by omega
        have h0 := him.2.1
        simp only [Array.getD_eq_getD_getElem?, Array.getElem?_eq_getElem hsz', Option.getD_some] at h0
        have : false ∈ listed.toList := by rw [← h0]; simp
        have := List.count_pos_iff.2 this
        omega
      exact ⟨hr, fin listed a w hsz hr hc hi⟩
    | succ fuel ih =>
      intro listed a w hsz hcnt hcl hc hi
      refine ⟨fun hr => fin listed a w hsz hr hc hi, fun i him => ?_⟩
      simp only [Region.ready, List.mem_filter, List.mem_range, Bool.and_eq_true, List.size_toArray, Bool.not_eq_true'] at him
      obtain ⟨hil, hun, hall⟩ := him
      have hsz' : i < listed.size := by omega
      have hLi : listed.getD i false = false := by
        simp only [Array.getD_eq_getD_getElem?, Array.getElem?_eq_getElem hsz', Option.getD_some] at hun ⊢
        exact hun
      have hio : l[i]? = some l[i] := List.getElem?_eq_getElem hil
      have hr : ∀ j ∈ aft l[i], listed.getD j false = true := by
        intro j hj
        simp only [List.getElem?_toArray, hio, Option.map_some, Option.getD_some, Array.all_eq_true'] at hall
        simp only [aft, List.mem_map, List.mem_filter] at hj
        obtain ⟨e, ⟨he, hbi⟩, rfl⟩ := hj
        have := hall e (by simpa using he)
        simpa [hbi] using this
      have hread : ∀ t ∈ reads l l[i], ∀ v, look (slotsAt St l vs i) t = some v → a.tmps[t]? = some v :=
        fun t ht v hv => hc.reads hok hcl hio hLi hr ht hv
      have hgs : ∀ d ∈ guardSlot l l[i], ∀ v, look (slotsAt St l vs i) d = some v → a.tmps[d]? = some v :=
        fun d hd => hread d (List.mem_append_left _ hd)
      have hL1 : ∀ j, (listed.setIfInBounds i true).getD j false = if j = i then true else listed.getD j false := by
        intro j
        simp only [Array.getD_eq_getD_getElem?]
        by_cases e : j = i
        · subst e; simp [hsz']
        · simp [e, Array.getElem?_setIfInBounds_ne (Ne.symm e)]
      have hcl1 : Closed l (fun j => (listed.setIfInBounds i true).getD j false) := by
        intro j o' hj hj' m hm
        simp only [hL1] at hj' ⊢
        by_cases e : j = i
        · subst e
          rw [hio] at hj
          cases hj
          simp [hr m hm]
        · simp only [e, if_false] at hj'
          simp [hcl j o' hj hj' m hm]
      have hbr : ∀ j, j ∈ (befs l []).getD i [] → j ≠ i → listed.getD j false = true := by
        intro j hj hji
        have := hb _ hcl1 i j hj (by simp only [hL1, if_true])
        simpa only [hL1, if_neg hji] using this
      have hstep : ∃ Mp, OpG C l (slotsAt St l vs i) (Mo M M1 M2 k1 k2 fun i => listed.getD i false) l[i] (vs.getD i undef) Mp ∧ (Mo M M1 M2 k1 k2 fun j => if j = i then true else listed.getD j false) = Mp := by
        rcases hop i l[i] hio with ⟨n1, n2, h⟩ | ⟨e, h⟩ | ⟨e, h⟩ | ⟨n1, n2, hl2, hbf, h⟩ | ⟨n1, n2, hbf, h⟩
        · refine ⟨_, h _, ?_⟩
          unfold Mo
          simp only [if_neg (Ne.symm n1), if_neg (Ne.symm n2)]
        · subst e
          have f2 : listed.getD k2 false = false := by
            cases h2 : listed.getD k2 false
            · rfl
            · have hk : k2 < l.length := by
                apply Classical.byContradiction
                intro hn
                rw [Array.getD_eq_getD_getElem?, Array.getElem?_eq_none (by omega)] at h2
                exact absurd h2 (by decide)
              have := hb _ hcl k2 i (h12 hk) h2
              rw [hLi] at this
              exact absurd this (by decide)
          refine ⟨M1, ?_, ?_⟩
          · unfold Mo
            simp only [f2, hLi, Bool.false_eq_true, if_false]
            exact h
          · unfold Mo
            simp only [if_neg (Ne.symm hne), f2, if_true, Bool.false_eq_true, if_false]
        · subst e
          have f1 := hbr k1 (h12 hil) hne
          refine ⟨M2, ?_, ?_⟩
          · unfold Mo
            simp only [f1, hLi, Bool.false_eq_true, if_false, if_true]
            exact h
          · unfold Mo
            simp only [if_true]
        · have f2 := hbr k2 hbf (Ne.symm n2)
          refine ⟨M2, ?_, ?_⟩
          · unfold Mo
            simp only [f2, if_true]
            exact h
          · unfold Mo
            simp only [if_neg (Ne.symm n2), f2, if_true]
        · have f1 : listed.getD k1 false = false := by
            cases h1 : listed.getD k1 false
            · rfl
            · have := hb _ hcl k1 i hbf h1
              rw [hLi] at this
              exact absurd this (by decide)
          have f2 : listed.getD k2 false = false := by
            cases h2 : listed.getD k2 false
            · rfl
            · have hk : k2 < l.length := by
                apply Classical.byContradiction
                intro hn
                rw [Array.getD_eq_getD_getElem?, Array.getElem?_eq_none (by omega)] at h2
                exact absurd h2 (by decide)
              have := hb _ hcl k2 k1 (h12 hk) h2
              rw [f1] at this
              exact absurd this (by decide)
          refine ⟨M, ?_, ?_⟩
          · unfold Mo
            simp only [f1, f2, Bool.false_eq_true, if_false]
            exact h
          · unfold Mo
            simp only [if_neg (Ne.symm n1), if_neg (Ne.symm n2), f1, f2, Bool.false_eq_true, if_false]
      obtain ⟨Mp, ⟨hf, hg⟩, hMp⟩ := hstep
      have next : ∀ w', Inv C.w0 C.S Mp w' → wpAny C.P .any l.toArray Q fuel (listed.setIfInBounds i true) (a.put l[i].dst (vs.getD i undef)) w' := by
        intro w' hw'
        have hcount : (listed.setIfInBounds i true).toList.count false ≤ fuel := by
          have h0 : listed.toList[i]? = some false := by
            simp only [Array.getElem?_toList]
            simp only [Array.getD_eq_getD_getElem?, Array.getElem?_eq_getElem hsz', Option.getD_some] at hLi
            rw [Array.getElem?_eq_getElem hsz', hLi]
          have := countFalse_set _ _ h0
          simp only [Array.toList_setIfInBounds]
          omega
        refine ih _ _ _ (by simpa using hsz) hcount hcl1 ?_ (by rw [show (fun j => (listed.setIfInBounds i true).getD j false) = (fun k => if k = i then true else listed.getD k false) from funext hL1, hMp]; exact hw')
        have := hc.put hn hio hf
        have e : (fun j => (listed.setIfInBounds i true).getD j false) = (fun k => if k = i then true else listed.getD k false) := funext hL1
        rw [e]; exact this
      unfold wpOp
      simp only [List.getElem?_toArray, hio]
      rcases hg with ⟨hwant, hopr⟩ | ⟨hwant, hv, hMM⟩
      · rw [if_pos (wanted_of' hgs hwant)]
        left
        let ρ : Operand → Value := fun x => (evalS (slotsAt St l vs i) x).getD (a.eval x)
        have hρ : ∀ x v, evalS (slotsAt St l vs i) x = some v → ρ x = v := by
          intro x v hx
          simp only [ρ, hx, Option.getD_some]
        have hsel : ∀ cs b, l[i].op ≠ .select cs b := by
          intro cs b e
          have h1 := hok'.2 i hil
          rw [hio] at h1
          simp only [opOk, Bool.and_eq_true] at h1
          rw [e] at h1
          simp [isSelect] at h1
        have hcongr : execOp a.eval l[i] = execOp ρ l[i] := by
          refine execOp_congr _ hsel fun x hx => ?_
          simp only [ρ]
          cases hx' : evalS (slotsAt St l vs i) x with
          | none => rfl
          | some v =>
            simp only [Option.getD_some]
            cases x with
            | tmp t =>
              have ht : t ∈ reads l l[i] := List.mem_append_right _ (mem_tmpsOf _ (by simpa using hx))
              have := hread t ht v hx'
              simp only [Act.eval, Array.getD_eq_getD_getElem?, this, Option.getD_some]
            | const u => exact Option.some.inj hx'
            | global g => exact Option.some.inj hx'
            | func f => exact Option.some.inj hx'
        unfold Oper.wp
        rw [hcongr]
        refine Yields.upon (hopr ρ C.w0 C.S w hρ hi) ?_
        rintro v M1 w' ⟨rfl, rfl⟩ hw'
        exact next w' hw'
      · rw [if_neg (by rw [wanted_of' hgs hwant]; decide)]
        rw [hv] at next
        refine next w ?_
        rw [hMM]; exact hi
  refine key _ _ _ _ (by simp) ?_ ?_ ⟨ha.size, ha.defers, fun t v _ hv => ha.slot t v hv, fun t k hk hLk => ?_⟩ ?_
  · simp only [List.size_toArray]
    refine Nat.le_trans List.count_le_length ?_
    simp
  · intro i o _ hi
    simp only [Array.getD_eq_getD_getElem?, List.size_toArray, Array.getElem?_replicate] at hi
    split at hi <;> simp at hi
  · simp only [Array.getD_eq_getD_getElem?, List.size_toArray, Array.getElem?_replicate] at hLk
    split at hLk <;> simp at hLk
  · have hz : ∀ j, (Array.replicate l.toArray.size false).getD j false = false := by
      intro j
      simp only [Array.getD_eq_getD_getElem?, List.size_toArray, Array.getElem?_replicate]
      split <;> rfl
    unfold Mo
    simp only [hz, Bool.false_eq_true, if_false]
    exact hw.drew

/-- The operations in the text's order: 0 does not look at the memory, 1 and 2 make others, 3 comes behind both. -/
def DrawSeqK (C : Ctx) (ops : List Oper) (M M1 M2 : Mem) (F : Slots → Prop) : List Oper → List Nat → Slots → Prop
  | [], _, St => F St
  | _ :: _, [], _ => False
  | o :: l, q :: ks, St => ∃ v, (match q with
      | 0 => ∀ M', OpG C ops St M' o v M'
      | 1 => OpG C ops St M o v M1
      | 2 => OpG C ops St M1 o v M2
      | 3 => OpG C ops St M2 o v M2
      | _ => OpG C ops St M o v M) ∧ DrawSeqK C ops M M1 M2 F l ks (putS St o.dst v)
def OpQ (C : Ctx) (l : List Oper) (M M1 M2 : Mem) (St : Slots) (o : Oper) (v : Value) : Nat → Prop
  | 0 => ∀ M', OpG C l St M' o v M'
  | 1 => OpG C l St M o v M1
  | 2 => OpG C l St M1 o v M2
  | 3 => OpG C l St M2 o v M2
  | _ => OpG C l St M o v M
theorem drawSeqK_vs {M1 M2 : Mem} {F : Slots → Prop} : ∀ (r pre : List Oper) (us : List Value) (ks pk : List Nat), l = pre ++ r → us.length = pre.length → pk.length = pre.length →
    DrawSeqK C l M M1 M2 F r ks (slotsAt St l us pre.length) →
    ∃ vs, vs.length = l.length ∧ (∀ i, i < pre.length → vs.getD i undef = us.getD i undef) ∧
      (∀ i o, pre.length ≤ i → l[i]? = some o → OpQ C l M M1 M2 (slotsAt St l vs i) o (vs.getD i undef) ((pk ++ ks).getD i 0)) ∧ F (slotsAt St l vs l.length)
  | [], pre, us, ks, pk, hl, hlen, hpk, h => by
    have hl' : l.length = pre.length := by simp [hl]
    refine ⟨us, by omega, fun _ _ => rfl, fun i o hi ho => ?_, ?_⟩
    · have := (List.getElem?_eq_some_iff.1 ho).1
      omega
    · rw [hl']; exact h
  | o :: r, _, _, [], _, _, _, _, h => absurd h id
  | o :: r, pre, us, q :: ks, pk, hl, hlen, hpk, h => by
    obtain ⟨v, hop, hrest⟩ := h
    have hl' : l = (pre ++ [o]) ++ r := by simp [hl]
    have hio : l[pre.length]? = some o := by rw [hl]; simp
    have hsl : ∀ (ws : List Value) k, k ≤ pre.length → (∀ i, i < pre.length → ws.getD i undef = us.getD i undef) → slotsAt St l ws k = slotsAt St l us k := by
      intro ws k
      induction k with
      | zero => intro _ _; rfl
      | succ k ih =>
        intro hk hw
        rw [slotsAt, slotsAt, ih (by omega) hw, hw k (by omega)]
    have hget : ∀ i, i < pre.length → (us ++ [v]).getD i undef = us.getD i undef := by
      intro i hi
      simp only [List.getD_eq_getElem?_getD, List.getElem?_append_left (by omega : i < us.length)]
    have hgetv : (us ++ [v]).getD pre.length undef = v := by
      simp only [List.getD_eq_getElem?_getD, ← hlen]
      simp
    have hs1 : putS (slotsAt St l us pre.length) o.dst v = slotsAt St l (us ++ [v]) (pre ++ [o]).length := by
      rw [List.length_append, List.length_singleton, slotsAt, hio, hgetv, hsl (us ++ [v]) _ (Nat.le_refl _) hget]
      rfl
    rw [hs1] at hrest
    obtain ⟨vs, hvl, hvs, hops, hF⟩ := drawSeqK_vs r (pre ++ [o]) (us ++ [v]) ks (pk ++ [q]) hl' (by simp [hlen]) (by simp [hpk]) hrest
    have hvs' : ∀ i, i < pre.length → vs.getD i undef = us.getD i undef := fun i hi => (hvs i (by simp; omega)).trans (hget i hi)
    refine ⟨vs, hvl, hvs', fun i o' hi ho' => ?_, hF⟩
    by_cases e : i = pre.length
    · subst e
      rw [hio] at ho'
      cases ho'
      have hq : (pk ++ q :: ks).getD pre.length 0 = q := by
        simp only [List.getD_eq_getElem?_getD, ← hpk]
        simp
      rw [hq, hvs _ (by simp), hgetv, hsl vs _ (Nat.le_refl _) hvs']
      match q, hop with
      | 0, hop => exact hop
      | 1, hop => exact hop
      | 2, hop => exact hop
      | 3, hop => exact hop
      | q + 4, hop => exact hop
    · have := hops i o' (by simp; omega) ho'
      simpa only [List.append_assoc, List.singleton_append] using this
def kOk (l : List Oper) (ks : List Nat) (k1 k2 : Nat) : Bool :=
  (!Nat.blt k2 l.length || ((befs l []).getD k2 []).elem k1) && (k1 != k2) && Nat.blt k1 l.length && (List.range l.length).all fun i => match ks.getD i 0 with
    | 0 => i != k1 && i != k2
    | 1 => i == k1
    | 2 => i == k2
    | 3 => i != k1 && i != k2 && Nat.blt k2 l.length && ((befs l []).getD i []).elem k2
    | _ => i != k1 && i != k2 && ((befs l []).getD k1 []).elem i
theorem at_drawK {id : Nat} (hm : C.P.follows .mixedOrders = true) (hok : drawOk l = true) {M1 M2 : Mem} (ks : List Nat) (k1 k2 : Nat) (hk : kOk l ks k1 k2 = true) (hk2 : k2 < l.length ∨ M2 = M1)
    (h : DrawSeqK C l M M1 M2 (fun St' => At C St' M2 (Q .normal)) l ks St) : At C St M ((Code.region id l.toArray true).wp C.P Q) := by
  obtain ⟨vs, _, _, hops, hF⟩ := drawSeqK_vs (St := St) l [] [] ks [] rfl rfl rfl h
  simp only [kOk, Bool.and_eq_true, List.elem_eq_mem, decide_eq_true_eq, bne_iff_ne, ne_eq, Nat.blt_eq, List.all_eq_true, List.mem_range, Bool.or_eq_true, Bool.not_eq_true'] at hk
  obtain ⟨⟨⟨h12, hne⟩, hlt⟩, hall⟩ := hk
  refine at_draw_vsK (M1 := M1) hm hok (fun hlt => h12.resolve_left (fun hf => by rw [show Nat.blt k2 l.length = true by rw [Nat.blt_eq]; exact hlt] at hf; exact absurd hf (by decide))) hne hlt hk2 (fun i o ho => ?_) hF
  have h1 := hops i o (Nat.zero_le _) ho
  have h2 := hall i (List.getElem?_eq_some_iff.1 ho).1
  simp only [List.nil_append] at h1
  generalize ks.getD i 0 = q at h1 h2
  match q, h1, h2 with
  | 0, h1, h2 => simp only [Bool.and_eq_true, bne_iff_ne, ne_eq] at h2; exact .inl ⟨h2.1, h2.2, h1⟩
  | 1, h1, h2 => simp only [beq_iff_eq] at h2; exact .inr (.inl ⟨h2, h1⟩)
  | 2, h1, h2 => simp only [beq_iff_eq] at h2; exact .inr (.inr (.inl ⟨h2, h1⟩))
  | 3, h1, h2 => simp only [Bool.and_eq_true, bne_iff_ne, ne_eq, List.elem_eq_mem, decide_eq_true_eq, Nat.blt_eq] at h2; exact .inr (.inr (.inr (.inl ⟨h2.1.1.1, h2.1.1.2, h2.1.2, h2.2, h1⟩)))
  | q + 4, h1, h2 => simp only [Bool.and_eq_true, bne_iff_ne, ne_eq, List.elem_eq_mem, decide_eq_true_eq] at h2; exact .inr (.inr (.inr (.inr ⟨h2.1.1, h2.1.2, h2.2, h1⟩)))
section
variable {ops r : List Oper} {M1 M2 : Mem} {F : Slots → Prop} {o : Oper} {ks : List Nat} {v : Value}
theorem drK0 (hg : wantS ops St o = some true) (hd : fits C.n o.dst = true) (h : ∀ M', OpR C.P St M' o (fun v' M'' => v' = v ∧ M'' = M')) (k : DrawSeqK C ops M M1 M2 F r ks (putS St o.dst v)) : DrawSeqK C ops M M1 M2 F (o :: r) (0 :: ks) St :=
  ⟨v, fun M' => ⟨hd, .inl ⟨hg, h M'⟩⟩, k⟩
theorem drK0s (hg : wantS ops St o = some false) (hd : fits C.n o.dst = true) (k : DrawSeqK C ops M M1 M2 F r ks (putS St o.dst undef)) : DrawSeqK C ops M M1 M2 F (o :: r) (0 :: ks) St :=
  ⟨undef, fun _ => ⟨hd, .inr ⟨hg, rfl, rfl⟩⟩, k⟩
theorem drK1 (hg : wantS ops St o = some true) (hd : fits C.n o.dst = true) (h : OpR C.P St M o (fun v' M'' => v' = v ∧ M'' = M1)) (k : DrawSeqK C ops M M1 M2 F r ks (putS St o.dst v)) : DrawSeqK C ops M M1 M2 F (o :: r) (1 :: ks) St :=
  ⟨v, ⟨hd, .inl ⟨hg, h⟩⟩, k⟩
theorem drK2 (hg : wantS ops St o = some true) (hd : fits C.n o.dst = true) (h : OpR C.P St M1 o (fun v' M'' => v' = v ∧ M'' = M2)) (k : DrawSeqK C ops M M1 M2 F r ks (putS St o.dst v)) : DrawSeqK C ops M M1 M2 F (o :: r) (2 :: ks) St :=
  ⟨v, ⟨hd, .inl ⟨hg, h⟩⟩, k⟩
theorem drK2s (hg : wantS ops St o = some false) (hd : fits C.n o.dst = true) (k : DrawSeqK C ops M M1 M1 F r ks (putS St o.dst undef)) : DrawSeqK C ops M M1 M1 F (o :: r) (2 :: ks) St :=
  ⟨undef, ⟨hd, .inr ⟨hg, rfl, rfl⟩⟩, k⟩
theorem drK4 (hg : wantS ops St o = some true) (hd : fits C.n o.dst = true) (h : OpR C.P St M o (fun v' M'' => v' = v ∧ M'' = M)) (k : DrawSeqK C ops M M1 M2 F r ks (putS St o.dst v)) : DrawSeqK C ops M M1 M2 F (o :: r) (4 :: ks) St :=
  ⟨v, ⟨hd, .inl ⟨hg, h⟩⟩, k⟩
theorem drK3s (hg : wantS ops St o = some false) (hd : fits C.n o.dst = true) (k : DrawSeqK C ops M M1 M2 F r ks (putS St o.dst undef)) : DrawSeqK C ops M M1 M2 F (o :: r) (3 :: ks) St :=
  ⟨undef, ⟨hd, .inr ⟨hg, rfl, rfl⟩⟩, k⟩
theorem drK3 (hg : wantS ops St o = some true) (hd : fits C.n o.dst = true) (h : OpR C.P St M2 o (fun v' M'' => v' = v ∧ M'' = M2)) (k : DrawSeqK C ops M M1 M2 F r ks (putS St o.dst v)) : DrawSeqK C ops M M1 M2 F (o :: r) (3 :: ks) St :=
  ⟨v, ⟨hd, .inl ⟨hg, h⟩⟩, k⟩
end
end
end Go.Proofs.Ytoagfplhcimghaa
