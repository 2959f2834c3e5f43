/- Drawn regions whose last operation makes one of several memories. -/
import Derived.Test.YtjanppnnioeifaaDoorDraw
namespace Go.Proofs.YtjanppnnioeifaaDoor
open Go
section
variable {C : Ctx} {Q : Exit → Act → World → Prop} {St : Slots} {M : Mem} {l : List Oper} {vs : List Value}
def OpGR (C : Ctx) (ops : List Oper) (St : Slots) (M : Mem) (o : Oper) (v : Value) (R : Mem → Prop) : Prop :=
  fits C.n o.dst = true ∧ ((wantS ops St o = some true ∧ OpR C.P St M o (fun v' M'' => v' = v ∧ R M'')) ∨ (wantS ops St o = some false ∧ v = undef ∧ R M))
def Iv (C : Ctx) (M : Mem) (R : Mem → Prop) (b : Bool) (w : World) : Prop := match b with
  | true => ∃ M', R M' ∧ Inv C.w0 C.S M' w
  | false => Inv C.w0 C.S M w
/-- In whatever order; the last operation comes behind all others and makes one of the memories of R out of M. -/
theorem at_draw_vsR {id : Nat} (hm : C.P.follows .mixedOrders = true) (hok : drawOk l = true) (hlast : lastOk l = true) {R : Mem → Prop}
    (hop : ∀ i o, l[i]? = some o → OpGR C l (slotsAt St l vs i) M o (vs.getD i undef) (fun M1 => if i + 1 = l.length then R M1 else M1 = M))
    (hnil : l ≠ [])
    (k : ∀ M', R M' → At C (slotsAt St l vs l.length) M' (Q .normal)) : At C St M ((Code.region id l.toArray true).wp C.P Q) := by
  intro a w ha hw
  have hok' := hok
  simp only [drawOk, Bool.and_eq_true, List.all_eq_true, List.mem_range] at hok'
  have hn := noTwice_spec _ hok'.1
  have hb : ∀ (L : Nat → Bool), Closed l L → ∀ i j, j ∈ (befs l []).getD i [] → L i = true → L j = true :=
    fun L hL => befs_closed hL l [] [] rfl rfl (by simp)
  have hpos : 0 < l.length := List.length_pos_iff.2 hnil
  refine wp_region_any hm ?_
  -- all that holds at a state
  have key : ∀ (fuel : Nat) (listed : Array Bool) (a : Act) (w : World), listed.size = l.length → listed.toList.count false ≤ fuel →
      Closed l (fun i => listed.getD i false) → Cons C.n St l vs (fun i => listed.getD i false) a →
      Iv C M R (listed.getD (l.length - 1) false) w → wpAny C.P .any l.toArray Q fuel listed a w := by
    have allL : ∀ (listed : Array Bool), listed.size = l.length → Region.ready .any l.toArray listed = [] → ∀ i, i < l.length → listed.getD i false = true := by
      intro listed hsz hr i
      induction i using Nat.strongRecOn with
      | _ i ih =>
        intro hi
        by_cases hLi : listed.getD i false = true
        · exact hLi
        · exfalso
          have : i ∈ Region.ready .any l.toArray listed := by
            simp only [Region.ready, List.mem_filter, List.mem_range, Bool.and_eq_true, List.size_toArray]
            refine ⟨hi, ?_, ?_⟩
            · have hsz' : i < listed.size := by omega
              simp only [Array.getD_eq_getD_getElem?, Array.getElem?_eq_getElem hsz', Option.getD_some] at hLi ⊢
              simpa using hLi
            · simp only [List.getElem?_toArray, List.getElem?_eq_getElem hi, Option.map_some, Option.getD_some, Array.all_eq_true']
              intro e he
              by_cases hbi : Region.binds .any e = true
              · have hmem : e.on ∈ aft l[i] := by
                  simp only [aft, List.mem_map, List.mem_filter]
                  exact ⟨e, ⟨by simpa using he, hbi⟩, rfl⟩
                have h1 := hok'.2 i hi
                rw [List.getElem?_eq_getElem hi] at h1
                simp only [opOk, Bool.and_eq_true, List.all_eq_true] at h1
                have hlt : e.on < i := by simpa [Nat.blt_eq] using h1.1.2 _ hmem
                have := ih e.on hlt (by omega)
                simp [this]
              · simp [hbi]
          rw [hr] at this
          simp at this
    have fin : ∀ (listed : Array Bool) (a : Act) (w : World), listed.size = l.length → Region.ready .any l.toArray listed = [] →
        Cons C.n St l vs (fun i => listed.getD i false) a → Iv C M R (listed.getD (l.length - 1) false) w → Q .normal a w := by
      intro listed a w hsz hr hc hi
      have hal := allL listed hsz hr
      rw [hal (l.length - 1) (by omega)] at hi
      obtain ⟨M', hR, hi⟩ := hi
      refine k M' hR a w ⟨hc.size, hc.defers, fun t v hv => ?_⟩ hi
      by_cases hex : ∃ k : Nat, (l[k]?).bind Oper.dst = some t
      · obtain ⟨k, hk⟩ := hex
        have hkl : k < l.length := by
          obtain ⟨o', ho', _⟩ := Option.bind_eq_some_iff.1 hk
          exact (List.getElem?_eq_some_iff.1 ho').1
        rw [look_slotsAt_some hn hk _ hkl] at hv
        rw [hc.new t k hk (hal k hkl)]
        exact hv
      · rw [look_slotsAt_none _ (fun j _ e => hex ⟨j, e⟩)] at hv
        exact hc.old t v (fun k hk => absurd ⟨k, hk⟩ hex) hv
    intro fuel
    induction fuel with
    | zero =>
      intro listed a w hsz hcnt hcl hc hi
      have hr : Region.ready .any l.toArray listed = [] := by
        rw [List.eq_nil_iff_forall_not_mem]
        intro i him
        simp only [Region.ready, List.mem_filter, List.mem_range, Bool.and_eq_true, List.size_toArray, Bool.not_eq_true'] at him
        have hsz' : i < listed.size := by omega
        have h0 := him.2.1
        simp only [Array.getD_eq_getD_getElem?, Array.getElem?_eq_getElem hsz', Option.getD_some] at h0
        have : false ∈ listed.toList := by rw [← h0]; simp
        have := List.count_pos_iff.2 this
        omega
      exact ⟨hr, fin listed a w hsz hr hc hi⟩
    | succ fuel ih =>
      intro listed a w hsz hcnt hcl hc hi
      refine ⟨fun hr => fin listed a w hsz hr hc hi, fun i him => ?_⟩
      simp only [Region.ready, List.mem_filter, List.mem_range, Bool.and_eq_true, List.size_toArray, Bool.not_eq_true'] at him
      obtain ⟨hil, hun, hall⟩ := him
      have hsz' : i < listed.size := by omega
      have hLi : listed.getD i false = false := by
        simp only [Array.getD_eq_getD_getElem?, Array.getElem?_eq_getElem hsz', Option.getD_some] at hun ⊢
        exact hun
      have hio : l[i]? = some l[i] := List.getElem?_eq_getElem hil
      have hr : ∀ j ∈ aft l[i], listed.getD j false = true := by
        intro j hj
        simp only [List.getElem?_toArray, hio, Option.map_some, Option.getD_some, Array.all_eq_true'] at hall
        simp only [aft, List.mem_map, List.mem_filter] at hj
        obtain ⟨e, ⟨he, hbi⟩, rfl⟩ := hj
        have := hall e (by simpa using he)
        simpa [hbi] using this
      obtain ⟨hf, hg⟩ := hop i l[i] hio
      have hread : ∀ t ∈ reads l l[i], ∀ v, look (slotsAt St l vs i) t = some v → a.tmps[t]? = some v :=
        fun t ht v hv => hc.reads hok hcl hio hLi hr ht hv
      have hgs : ∀ d ∈ guardSlot l l[i], ∀ v, look (slotsAt St l vs i) d = some v → a.tmps[d]? = some v :=
        fun d hd => hread d (List.mem_append_left _ hd)
      have hM : listed.getD (l.length - 1) false = false := by
        by_cases hi1 : i = l.length - 1
        · rw [← hi1, hLi]
        · have h := hlast
          simp only [lastOk, List.all_eq_true, List.mem_range, List.elem_eq_mem, decide_eq_true_eq] at h
          have h1 := h i (by omega)
          cases hl1 : listed.getD (l.length - 1) false
          · rfl
          · have := hb _ hcl _ _ h1 hl1
            rw [hLi] at this
            exact absurd this (by decide)
      have hL1 : ∀ j, (listed.setIfInBounds i true).getD j false = if j = i then true else listed.getD j false := by
        intro j
        simp only [Array.getD_eq_getD_getElem?]
        by_cases e : j = i
        · subst e; simp [hsz']
        · simp [e, Array.getElem?_setIfInBounds_ne (Ne.symm e)]
      have hM1 : ∀ M1 w', (if i + 1 = l.length then R M1 else M1 = M) → Inv C.w0 C.S M1 w' → Iv C M R ((listed.setIfInBounds i true).getD (l.length - 1) false) w' := by
        intro M1 w' hR hw'
        rw [hL1]
        by_cases e : l.length - 1 = i
        · have e' : i + 1 = l.length := by omega
          rw [if_pos e] 
          rw [if_pos e'] at hR
          exact ⟨M1, hR, hw'⟩
        · have e' : ¬ i + 1 = l.length := by omega
          rw [if_neg e, hM]
          rw [if_neg e'] at hR
          exact hR ▸ hw'
      have hcl1 : Closed l (fun j => (listed.setIfInBounds i true).getD j false) := by
        intro j o' hj hj' m hm
        simp only [hL1] at hj' ⊢
        by_cases e : j = i
        · subst e
          rw [hio] at hj
          cases hj
          simp [hr m hm]
        · simp only [e, if_false] at hj'
          simp [hcl j o' hj hj' m hm]
      have next : ∀ M1 w', (if i + 1 = l.length then R M1 else M1 = M) → Inv C.w0 C.S M1 w' → wpAny C.P .any l.toArray Q fuel (listed.setIfInBounds i true) (a.put l[i].dst (vs.getD i undef)) w' := by
        intro M1 w' hR hw'
        have hcount : (listed.setIfInBounds i true).toList.count false ≤ fuel := by
          have h0 : listed.toList[i]? = some false := by
            simp only [Array.getElem?_toList]
            simp only [Array.getD_eq_getD_getElem?, Array.getElem?_eq_getElem hsz', Option.getD_some] at hLi
            rw [Array.getElem?_eq_getElem hsz', hLi]
          have := countFalse_set _ _ h0
          simp only [Array.toList_setIfInBounds]
          omega
        refine ih _ _ _ (by simpa using hsz) hcount hcl1 ?_ (hM1 M1 w' hR hw')
        have := hc.put hn hio hf
        have e : (fun j => (listed.setIfInBounds i true).getD j false) = (fun k => if k = i then true else listed.getD k false) := funext hL1
        rw [e]; exact this
      rw [hM] at hi
      replace hi : Inv C.w0 C.S M w := hi
      unfold wpOp
      simp only [List.getElem?_toArray, hio]
      rcases hg with ⟨hwant, hopr⟩ | ⟨hwant, hv, hMM⟩
      · rw [if_pos (wanted_of' hgs hwant)]
        left
        let ρ : Operand → Value := fun x => (evalS (slotsAt St l vs i) x).getD (a.eval x)
        have hρ : ∀ x v, evalS (slotsAt St l vs i) x = some v → ρ x = v := by
          intro x v hx
          simp only [ρ, hx, Option.getD_some]
        have hsel : ∀ cs b, l[i].op ≠ .select cs b := by
          intro cs b e
          have h1 := hok'.2 i hil
          rw [hio] at h1
          simp only [opOk, Bool.and_eq_true] at h1
          rw [e] at h1
          simp [isSelect] at h1
        have hcongr : execOp a.eval l[i] = execOp ρ l[i] := by
          refine execOp_congr _ hsel fun x hx => ?_
          simp only [ρ]
          cases hx' : evalS (slotsAt St l vs i) x with
          | none => rfl
          | some v =>
            simp only [Option.getD_some]
            cases x with
            | tmp t =>
              have ht : t ∈ reads l l[i] := List.mem_append_right _ (mem_tmpsOf _ (by simpa using hx))
              have := hread t ht v hx'
              simp only [Act.eval, Array.getD_eq_getD_getElem?, this, Option.getD_some]
            | const u => exact Option.some.inj hx'
            | global g => exact Option.some.inj hx'
            | func f => exact Option.some.inj hx'
        unfold Oper.wp
        rw [hcongr]
        refine Yields.upon (hopr ρ C.w0 C.S w hρ hi) ?_
        rintro v M1 w' ⟨rfl, hR⟩ hw'
        exact next M1 w' hR hw'
      · rw [if_neg (by rw [wanted_of' hgs hwant]; decide)]
        rw [hv] at next
        exact next M w hMM hi
  refine key _ _ _ _ (by simp) ?_ ?_ ⟨ha.size, ha.defers, fun t v _ hv => ha.slot t v hv, fun t k hk hLk => ?_⟩ ?_
  · simp only [List.size_toArray]
    refine Nat.le_trans List.count_le_length ?_
    simp
  · intro i o _ hi
    simp only [Array.getD_eq_getD_getElem?, List.size_toArray, Array.getElem?_replicate] at hi
    split at hi <;> simp at hi
  · simp only [Array.getD_eq_getD_getElem?, List.size_toArray, Array.getElem?_replicate] at hLk
    split at hLk <;> simp at hLk
  · have : (Array.replicate l.toArray.size false).getD (l.length - 1) false = false := by
      simp only [Array.getD_eq_getD_getElem?, List.size_toArray, Array.getElem?_replicate]
      split <;> rfl
    rw [this]
    exact hw.drew

def DrawSeqR (C : Ctx) (ops : List Oper) (F : Slots → Mem → Prop) : List Oper → Slots → Mem → Prop
  | [], _, _ => False
  | [o], St, M => ∃ v, ∃ R : Mem → Prop, OpGR C ops St M o v R ∧ ∀ M', R M' → F (putS St o.dst v) M'
  | o :: o2 :: l, St, M => ∃ v, OpG C ops St M o v M ∧ DrawSeqR C ops F (o2 :: l) (putS St o.dst v) M
theorem drawSeqR_vs {F : Slots → Mem → Prop} : ∀ (r pre : List Oper) (us : List Value), l = pre ++ r → us.length = pre.length → r ≠ [] →
    DrawSeqR C l F r (slotsAt St l us pre.length) M →
    ∃ vs, ∃ R : Mem → Prop, vs.length = l.length ∧ (∀ i, i < pre.length → vs.getD i undef = us.getD i undef) ∧
      (∀ i o, pre.length ≤ i → l[i]? = some o → OpGR C l (slotsAt St l vs i) M o (vs.getD i undef) (fun M1 => if i + 1 = l.length then R M1 else M1 = M)) ∧ ∀ M', R M' → F (slotsAt St l vs l.length) M'
  | [], _, _, _, _, hn, _ => absurd rfl hn
  | [o], pre, us, hl, hlen, _, h => by
    obtain ⟨v, R, hop, hrest⟩ := h
    have hio : l[pre.length]? = some o := by rw [hl]; simp
    have hsl : ∀ (ws : List Value) k, k ≤ pre.length → (∀ i, i < pre.length → ws.getD i undef = us.getD i undef) → slotsAt St l ws k = slotsAt St l us k := by
      intro ws k
      induction k with
      | zero => intro _ _; rfl
      | succ k ih =>
        intro hk hw
        rw [slotsAt, slotsAt, ih (by omega) hw, hw k (by omega)]
    have hget : ∀ i, i < pre.length → (us ++ [v]).getD i undef = us.getD i undef := by
      intro i hi
      simp only [List.getD_eq_getElem?_getD, List.getElem?_append_left (by omega : i < us.length)]
    have hgetv : (us ++ [v]).getD pre.length undef = v := by
      simp only [List.getD_eq_getElem?_getD, ← hlen]
      simp
    have hs1 : putS (slotsAt St l us pre.length) o.dst v = slotsAt St l (us ++ [v]) (pre ++ [o]).length := by
      rw [List.length_append, List.length_singleton, slotsAt, hio, hgetv, hsl (us ++ [v]) _ (Nat.le_refl _) hget]
      rfl
    have hlen' : l.length = pre.length + 1 := by simp [hl]
    refine ⟨us ++ [v], R, by simp [hlen, hlen'], hget, fun i o' hi ho' => ?_, ?_⟩
    · have : i = pre.length := by
        have := (List.getElem?_eq_some_iff.1 ho').1
        omega
      subst this
      rw [hio] at ho'
      cases ho'
      have e : (fun M1 => if pre.length + 1 = l.length then R M1 else M1 = M) = R := by
        funext M1
        rw [if_pos (by omega)]
      rw [e, hgetv, hsl (us ++ [v]) _ (Nat.le_refl _) hget]
      exact hop
    · rw [hs1] at hrest
      have : (pre ++ [o]).length = l.length := by simp [hlen']
      rw [this] at hrest
      exact hrest
  | o :: o2 :: r, pre, us, hl, hlen, _, h => by
    obtain ⟨v, hop, hrest⟩ := h
    have hl' : l = (pre ++ [o]) ++ (o2 :: r) := by simp [hl]
    have hio : l[pre.length]? = some o := by rw [hl]; simp
    have hsl : ∀ (ws : List Value) k, k ≤ pre.length → (∀ i, i < pre.length → ws.getD i undef = us.getD i undef) → slotsAt St l ws k = slotsAt St l us k := by
      intro ws k
      induction k with
      | zero => intro _ _; rfl
      | succ k ih =>
        intro hk hw
        rw [slotsAt, slotsAt, ih (by omega) hw, hw k (by omega)]
    have hget : ∀ i, i < pre.length → (us ++ [v]).getD i undef = us.getD i undef := by
      intro i hi
      simp only [List.getD_eq_getElem?_getD, List.getElem?_append_left (by omega : i < us.length)]
    have hgetv : (us ++ [v]).getD pre.length undef = v := by
      simp only [List.getD_eq_getElem?_getD, ← hlen]
      simp
    have hs1 : putS (slotsAt St l us pre.length) o.dst v = slotsAt St l (us ++ [v]) (pre ++ [o]).length := by
      rw [List.length_append, List.length_singleton, slotsAt, hio, hgetv, hsl (us ++ [v]) _ (Nat.le_refl _) hget]
      rfl
    rw [hs1] at hrest
    obtain ⟨vs, R, hvl, hvs, hops, hF⟩ := drawSeqR_vs (o2 :: r) (pre ++ [o]) (us ++ [v]) hl' (by simp [hlen]) (List.cons_ne_nil _ _) hrest
    have hvs' : ∀ i, i < pre.length → vs.getD i undef = us.getD i undef := fun i hi => (hvs i (by simp; omega)).trans (hget i hi)
    refine ⟨vs, R, hvl, hvs', fun i o' hi ho' => ?_, hF⟩
    by_cases e : i = pre.length
    · subst e
      rw [hio] at ho'
      cases ho'
      have hne : ¬ pre.length + 1 = l.length := by
        rw [hl]
        simp
      have e : (fun M1 => if pre.length + 1 = l.length then R M1 else M1 = M) = (fun M1 => M1 = M) := by
        funext M1
        rw [if_neg hne]
      rw [e, hvs _ (by simp), hgetv, hsl vs _ (Nat.le_refl _) hvs']
      exact hop
    · exact hops i o' (by simp; omega) ho'
/-- A drawn region whose last operation makes one of several memories. -/
theorem at_drawR {id : Nat} (hm : C.P.follows .mixedOrders = true) (hok : drawOk l = true) (hlast : lastOk l = true) (hnil : l ≠ [])
    (h : DrawSeqR C l (fun St' M' => At C St' M' (Q .normal)) l St M) : At C St M ((Code.region id l.toArray true).wp C.P Q) := by
  obtain ⟨vs, R, _, _, hops, hF⟩ := drawSeqR_vs (St := St) l [] [] rfl rfl hnil h
  exact at_draw_vsR hm hok hlast (fun i o ho => hops i o (Nat.zero_le _) ho) hnil hF
theorem drR_op {ops : List Oper} {F : Slots → Mem → Prop} {o o2 : Oper} {r : List Oper} {v : Value} (hg : wantS ops St o = some true) (hd : fits C.n o.dst = true)
    (h : OpR C.P St M o (fun v' M'' => v' = v ∧ M'' = M)) (k : DrawSeqR C ops F (o2 :: r) (putS St o.dst v) M) : DrawSeqR C ops F (o :: o2 :: r) St M :=
  ⟨v, ⟨hd, .inl ⟨hg, h⟩⟩, k⟩
theorem drR_last {ops : List Oper} {F : Slots → Mem → Prop} {o : Oper} {v : Value} {R : Value → Mem → Prop} (hg : wantS ops St o = some true) (hd : fits C.n o.dst = true)
    (h : OpR C.P St M o R) (hv : ∀ v' M', R v' M' → v' = v) (k : ∀ v' M', R v' M' → F (putS St o.dst v') M') : DrawSeqR C ops F [o] St M :=
  ⟨v, R v, ⟨hd, .inl ⟨hg, h.mono fun v' M' hR => by obtain rfl := hv v' M' hR; exact ⟨rfl, hR⟩⟩⟩, fun M' hR => k v M' hR⟩
end
end Go.Proofs.YtjanppnnioeifaaDoor
