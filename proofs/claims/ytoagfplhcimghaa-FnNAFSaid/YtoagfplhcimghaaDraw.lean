/- A region whose order is drawn: where each operation gives one value in whatever order, the text's own order serves. -/
import Derived.Test.YtoagfplhcimghaaEng
import Derived.Orders
namespace Go.Proofs.Ytoagfplhcimghaa
open Go

def aft (o : Oper) : List Nat := (o.after.toList.filter (Region.binds .any)).map (·.on)
def addAll : List Nat → List Nat → List Nat
  | [], acc => acc
  | j :: r, acc => if acc.elem j then addAll r acc else addAll r (j :: acc)
def allOf (acc : List (List Nat)) : List Nat → List Nat → List Nat
  | [], s => s
  | j :: r, s => allOf acc r (addAll (j :: acc.getD j []) s)
def befs : List Oper → List (List Nat) → List (List Nat)
  | [], acc => acc
  | o :: r, acc => befs r (acc ++ [allOf acc (aft o) []])
def guardSlot (l : List Oper) (o : Oper) : List Nat :=
  match o.guard with
  | none => []
  | some (j, _) => ((l[j]?).bind Oper.dst).toList
def tmpsOf : List Operand → List Nat
  | [] => []
  | .tmp t :: r => t :: tmpsOf r
  | _ :: r => tmpsOf r
def reads (l : List Oper) (o : Oper) : List Nat := guardSlot l o ++ tmpsOf o.op.operands.toList
def noTwice : List Nat → Bool
  | [] => true
  | x :: r => !r.elem x && noTwice r
def isSelect : Op → Bool
  | .select .. => true
  | _ => false
def opOk (l : List Oper) (B : List (List Nat)) (i : Nat) (o : Oper) : Bool :=
  !isSelect o.op && (aft o).all (fun j => Nat.blt j i) && (reads l o).all fun t => (List.range l.length).all fun k =>
    match (l[k]?).bind Oper.dst with
    | none => true
    | some d => if Nat.beq d t then (if Nat.blt k i then (B.getD i []).elem k else if Nat.blt i k then (B.getD k []).elem i else true) else true
def drawOk (l : List Oper) : Bool :=
  noTwice (l.filterMap Oper.dst) && (List.range l.length).all fun i => match l[i]? with | none => true | some o => opOk l (befs l []) i o
def lastOk (l : List Oper) : Bool := (List.range (l.length - 1)).all fun i => ((befs l []).getD (l.length - 1) []).elem i

theorem mem_addAll {j : Nat} : ∀ (r acc : List Nat), j ∈ addAll r acc → j ∈ r ∨ j ∈ acc
  | [], acc, h => .inr h
  | x :: r, acc, h => by
    unfold addAll at h
    split at h
    · rcases mem_addAll r acc h with h | h
      · exact .inl (List.mem_cons_of_mem _ h)
      · exact .inr h
    · rcases mem_addAll r (x :: acc) h with h | h
      · exact .inl (List.mem_cons_of_mem _ h)
      · rcases List.mem_cons.1 h with rfl | h
        · exact .inl (List.mem_cons_self ..)
        · exact .inr h
theorem mem_allOf {j : Nat} (acc : List (List Nat)) : ∀ (r s : List Nat), j ∈ allOf acc r s → (∃ k ∈ r, j = k ∨ j ∈ acc.getD k []) ∨ j ∈ s
  | [], s, h => .inr h
  | x :: r, s, h => by
    rcases mem_allOf acc r _ h with ⟨k, hk, h⟩ | h
    · exact .inl ⟨k, List.mem_cons_of_mem _ hk, h⟩
    · rcases mem_addAll _ _ h with h | h
      · rcases List.mem_cons.1 h with rfl | h
        · exact .inl ⟨_, List.mem_cons_self .., .inl rfl⟩
        · exact .inl ⟨x, List.mem_cons_self .., .inr h⟩
      · exact .inr h

def Closed (l : List Oper) (L : Nat → Bool) : Prop := ∀ i o, l[i]? = some o → L i = true → ∀ j ∈ aft o, L j = true

theorem befs_closed {l : List Oper} {L : Nat → Bool} (hL : Closed l L) : ∀ (r pre : List Oper) (acc : List (List Nat)), l = pre ++ r → acc.length = pre.length →
    (∀ i j, j ∈ acc.getD i [] → L i = true → L j = true) → ∀ i j, j ∈ (befs r acc).getD i [] → L i = true → L j = true
  | [], _, acc, _, _, h => h
  | o :: r, pre, acc, hl, hlen, h => by
    have hl' : l = (pre ++ [o]) ++ r := by simp [hl]
    refine befs_closed hL r (pre ++ [o]) _ hl' (by simp [hlen]) ?_
    intro i j hj hi
    rw [List.getD_eq_getElem?_getD, List.getElem?_append] at hj
    by_cases hlt : i < acc.length
    · rw [if_pos hlt] at hj
      exact h i j (by rw [List.getD_eq_getElem?_getD]; exact hj) hi
    · rw [if_neg hlt] at hj
      by_cases he : i - acc.length = 0
      · rw [he] at hj
        simp only [List.getElem?_cons_zero, Option.getD_some] at hj
        have hio : l[i]? = some o := by
          have : i = pre.length := by omega
          rw [hl, this]; simp
        rcases mem_allOf _ _ _ hj with ⟨k, hk, rfl | hm⟩ | hm
        · exact hL i o hio hi _ hk
        · exact h k j hm (hL i o hio hi _ hk)
        · simp at hm
      · obtain ⟨m, hm⟩ := Nat.exists_eq_succ_of_ne_zero he
        rw [hm] at hj
        simp at hj

theorem noTwice_spec : ∀ (r : List Nat), noTwice r = true → r.Nodup
  | [], _ => List.nodup_nil
  | x :: r, h => by
    simp only [noTwice, Bool.and_eq_true, Bool.not_eq_true'] at h
    exact List.nodup_cons.2 ⟨fun hm => by simp [hm] at h, noTwice_spec r h.2⟩

theorem dst_inj : ∀ (l : List Oper), (l.filterMap Oper.dst).Nodup → ∀ (i j : Nat) (d : Tmp), (l[i]?).bind Oper.dst = some d → (l[j]?).bind Oper.dst = some d → i = j
  | [], _, i, j, d, hi, _ => by simp at hi
  | o :: l, hn, i, j, d, hi, hj => by
    have hn' : (l.filterMap Oper.dst).Nodup := by
      rw [List.filterMap_cons] at hn
      split at hn
      · exact hn
      · exact (List.nodup_cons.1 hn).2
    have hmem : ∀ k : Nat, (l[k]?).bind Oper.dst = some d → d ∈ l.filterMap Oper.dst := by
      intro k hk
      obtain ⟨o', ho', hd⟩ := Option.bind_eq_some_iff.1 hk
      exact List.mem_filterMap.2 ⟨o', List.mem_of_getElem? ho', hd⟩
    have hhead : o.dst = some d → d ∉ l.filterMap Oper.dst := by
      intro ho
      rw [List.filterMap_cons, ho] at hn
      exact (List.nodup_cons.1 hn).1
    cases i with
    | zero =>
      cases j with
      | zero => rfl
      | succ j =>
        simp only [List.getElem?_cons_zero, Option.bind_some] at hi
        simp only [List.getElem?_cons_succ] at hj
        exact absurd (hmem j hj) (hhead hi)
    | succ i =>
      simp only [List.getElem?_cons_succ] at hi
      cases j with
      | zero =>
        simp only [List.getElem?_cons_zero, Option.bind_some] at hj
        exact absurd (hmem i hi) (hhead hj)
      | succ j =>
        simp only [List.getElem?_cons_succ] at hj
        rw [dst_inj l hn' i j d hi hj]

def slotsAt (St : Slots) (l : List Oper) (vs : List Value) : Nat → Slots
  | 0 => St
  | i + 1 => putS (slotsAt St l vs i) ((l[i]?).bind Oper.dst) (vs.getD i undef)

theorem look_putS_ne {St : Slots} {d : Option Tmp} {v : Value} {t : Nat} (h : d ≠ some t) : look (putS St d v) t = look St t := by
  cases d with
  | none => rfl
  | some k => exact look_cons_ne _ _ (fun e => h (by rw [e]))
theorem look_slotsAt_none {St : Slots} {l : List Oper} {vs : List Value} {t : Nat} : ∀ i, (∀ j, j < i → (l[j]?).bind Oper.dst ≠ some t) → look (slotsAt St l vs i) t = look St t
  | 0, _ => rfl
  | i + 1, h => by
    rw [slotsAt, look_putS_ne (h i (Nat.lt_succ_self _))]
    exact look_slotsAt_none i fun j hj => h j (Nat.lt_succ_of_lt hj)
theorem look_slotsAt_some {St : Slots} {l : List Oper} {vs : List Value} {t k : Nat} (hn : (l.filterMap Oper.dst).Nodup) (hk : (l[k]?).bind Oper.dst = some t) :
    ∀ i, k < i → look (slotsAt St l vs i) t = some (vs.getD k undef)
  | 0, h => absurd h (Nat.not_lt_zero _)
  | i + 1, h => by
    by_cases e : k = i
    · subst e
      rw [slotsAt, hk]
      exact look_cons_self _ _ _
    · rw [slotsAt, look_putS_ne (fun hd => e (dst_inj l hn _ _ _ hk hd))]
      exact look_slotsAt_some hn hk i (by omega)

structure Cons (n : Nat) (St : Slots) (l : List Oper) (vs : List Value) (L : Nat → Bool) (a : Act) : Prop where
  size : a.tmps.size = n
  defers : a.defers = []
  old : ∀ t v, (∀ k : Nat, (l[k]?).bind Oper.dst = some t → L k = false) → look St t = some v → a.tmps[t]? = some v
  new : ∀ t k, (l[k]?).bind Oper.dst = some t → L k = true → a.tmps[t]? = some (vs.getD k undef)

def OpG (C : Ctx) (ops : List Oper) (St : Slots) (M : Mem) (o : Oper) (v : Value) (M' : Mem) : Prop :=
  fits C.n o.dst = true ∧ ((wantS ops St o = some true ∧ OpR C.P St M o (fun v' M'' => v' = v ∧ M'' = M')) ∨ (wantS ops St o = some false ∧ v = undef ∧ M' = M))

theorem wanted_of' {ops : List Oper} {St : Slots} {a : Act} {o : Oper} {b : Bool} (ha : ∀ d ∈ guardSlot ops o, ∀ v, look St d = some v → a.tmps[d]? = some v) (h : wantS ops St o = some b) :
    Region.wanted o (yielded ops.toArray a.tmps) = b := by
  unfold wantS at h
  unfold Region.wanted yielded
  split at h
  · rename_i hg; rw [hg]; simpa using h
  · rename_i j want hg
    rw [hg]
    simp only [List.getElem?_toArray]
    split at h
    · rename_i hd
      simp only [hd, Option.bind_none]
      simp only [Option.some.injEq] at h
      subst h; rfl
    · rename_i d hd
      have hm : d ∈ guardSlot ops o := by simp [guardSlot, hg, hd]
      simp only [hd, Option.bind_some]
      split at h
      · rename_i b' hl
        rw [ha d hm _ hl]
        simp only [Option.some.injEq] at h
        subst h
        cases b' <;> cases want <;> rfl
      · rename_i vs hl
        rw [ha d hm _ hl]
        simp only [Option.some.injEq] at h
        subst h; rfl
      · simp at h

theorem mem_tmpsOf {t : Nat} : ∀ (r : List Operand), Operand.tmp t ∈ r → t ∈ tmpsOf r
  | [], h => by simp at h
  | x :: r, h => by
    rcases List.mem_cons.1 h with rfl | h
    · exact List.mem_cons_self ..
    · have := mem_tmpsOf r h
      cases x <;> simp [tmpsOf, this]

section
variable {C : Ctx} {Q : Exit → Act → World → Prop} {St : Slots} {M M' : Mem} {l : List Oper} {vs : List Value}

/-- What an operation that may come up now reads is what the text's order says. -/
theorem Cons.reads (hok : drawOk l = true) {L : Nat → Bool} {a : Act} (ha : Cons C.n St l vs L a) (hL : Closed l L) {i : Nat} {o : Oper} (hi : l[i]? = some o) (hLi : L i = false)
    (hr : ∀ j ∈ aft o, L j = true) {t : Nat} (ht : t ∈ reads l o) {v : Value} (hv : look (slotsAt St l vs i) t = some v) : a.tmps[t]? = some v := by
  simp only [drawOk, Bool.and_eq_true, List.all_eq_true, List.mem_range] at hok
  obtain ⟨hnd, hall⟩ := hok
  have hn := noTwice_spec _ hnd
  have hil : i < l.length := (List.getElem?_eq_some_iff.1 hi).1
  have h1 := hall i hil
  rw [hi] at h1
  simp only [opOk, Bool.and_eq_true, List.all_eq_true, List.mem_range] at h1
  have h2 := h1.2 t ht
  have hL' : Closed l (fun k => if k = i then true else L k) := by
    intro k o' hk hk' j hj
    by_cases e : k = i
    · subst e
      rw [hi] at hk
      cases hk
      have := hr j hj
      simp [this]
    · simp only [e, if_false] at hk'
      have := hL k o' hk hk' j hj
      simp [this]
  have hb : ∀ (L : Nat → Bool), Closed l L → ∀ i j, j ∈ (befs l []).getD i [] → L i = true → L j = true :=
    fun L hL => befs_closed hL l [] [] rfl rfl (by simp)
  by_cases hex : ∃ k : Nat, (l[k]?).bind Oper.dst = some t
  · obtain ⟨k, hk⟩ := hex
    have hkl : k < l.length := by
      obtain ⟨o', ho', _⟩ := Option.bind_eq_some_iff.1 hk
      exact (List.getElem?_eq_some_iff.1 ho').1
    have h3 := h2 k hkl
    rw [hk] at h3
    simp only [Nat.beq_refl, if_true] at h3
    by_cases hlt : k < i
    · have hb1 : Nat.blt k i = true := by simpa [Nat.blt_eq] using hlt
      rw [hb1] at h3
      simp only [if_true, List.elem_eq_mem, decide_eq_true_eq] at h3
      have := hb _ hL' i k h3 (by simp)
      simp only [Nat.ne_of_lt hlt, if_false] at this
      rw [ha.new t k hk this]
      rw [look_slotsAt_some hn hk i hlt] at hv
      exact hv
    · rw [look_slotsAt_none i (fun j hj e => by have := dst_inj l hn _ _ _ hk e; omega)] at hv
      refine ha.old t v (fun k' hk' => ?_) hv
      have hkk := dst_inj l hn _ _ _ hk hk'
      subst hkk
      by_cases e : k = i
      · subst e; exact hLi
      · have hb1 : Nat.blt k i = false := by
          cases hh : Nat.blt k i
          · rfl
          · simp [Nat.blt_eq] at hh; omega
        have hb2 : Nat.blt i k = true := by simp [Nat.blt_eq]; omega
        rw [hb1, hb2] at h3
        simp only [Bool.false_eq_true, if_false, if_true, List.elem_eq_mem, decide_eq_true_eq] at h3
        cases hLk : L k
        · rfl
        · have := hb L hL k i h3 hLk
          rw [hLi] at this
          exact absurd this (by decide)
  · rw [look_slotsAt_none i (fun j _ e => hex ⟨j, e⟩)] at hv
    exact ha.old t v (fun k hk => absurd ⟨k, hk⟩ hex) hv

theorem Cons.put {L : Nat → Bool} {a : Act} (hn : (l.filterMap Oper.dst).Nodup) (ha : Cons C.n St l vs L a) {i : Nat} {o : Oper} (hi : l[i]? = some o) (hf : fits C.n o.dst = true) :
    Cons C.n St l vs (fun k => if k = i then true else L k) (a.put o.dst (vs.getD i undef)) := by
  have hdi : (l[i]?).bind Oper.dst = o.dst := by rw [hi]; rfl
  cases hd : o.dst with
  | none =>
    refine ⟨ha.size, ha.defers, fun t v h => ha.old t v fun k hk => ?_, fun t k hk hLk => ?_⟩
    · have := h k hk
      by_cases e : k = i
      · subst e; simp at this
      · simpa [e] using this
    · by_cases e : k = i
      · subst e
        rw [hdi, hd] at hk
        simp at hk
      · simp only [e, if_false] at hLk
        exact ha.new t k hk hLk
  | some d =>
    have ht : d < C.n := by rw [hd] at hf; simpa [fits, Nat.blt_eq] using hf
    refine ⟨by simpa [Act.put] using ha.size, ha.defers, fun t v h hv => ?_, fun t k hk hLk => ?_⟩
    · have hne : d ≠ t := by
        intro e
        subst e
        have := h i (by rw [hdi, hd])
        simp at this
      simp only [Act.put, Array.getElem?_setIfInBounds_ne hne]
      refine ha.old t v (fun k hk => ?_) hv
      have := h k hk
      by_cases e : k = i
      · subst e; simp at this
      · simpa [e] using this
    · by_cases e : d = t
      · subst e
        have hki : k = i := dst_inj l hn _ _ _ hk (by rw [hdi, hd])
        subst hki
        simp [Act.put, ha.size, ht]
      · simp only [Act.put, Array.getElem?_setIfInBounds_ne e]
        refine ha.new t k hk ?_
        by_cases e' : k = i
        · subst e'
          rw [hdi, hd] at hk
          simp only [Option.some.injEq] at hk
          exact absurd hk e
        · simpa [e'] using hLk

theorem countFalse_set : ∀ (m : List Bool) (i : Nat), m[i]? = some false → (m.set i true).count false + 1 = m.count false
  | [], i, h => by simp at h
  | b :: m, 0, h => by
    simp only [List.getElem?_cons_zero, Option.some.injEq] at h
    subst h
    simp
  | b :: m, i + 1, h => by
    simp only [List.getElem?_cons_succ] at h
    have := countFalse_set m i h
    simp only [List.set_cons_succ, List.count_cons]
    omega

/-- In whatever order: the text's order serves. M' is what the last operation makes of M; where that is another memory, all others come ahead of it. -/
theorem at_draw_vs {id : Nat} (hm : C.P.follows .mixedOrders = true) (hok : drawOk l = true) (hlast : M' = M ∨ lastOk l = true)
    (hop : ∀ i o, l[i]? = some o → OpG C l (slotsAt St l vs i) M o (vs.getD i undef) (if i + 1 = l.length then M' else M))
    (hnil : l ≠ [])
    (k : At C (slotsAt St l vs l.length) M' (Q .normal)) : At C St M ((Code.region id l.toArray true).wp C.P Q) := by
  intro a w ha hw
  have hok' := hok
  simp only [drawOk, Bool.and_eq_true, List.all_eq_true, List.mem_range] at hok'
  have hn := noTwice_spec _ hok'.1
  have hb : ∀ (L : Nat → Bool), Closed l L → ∀ i j, j ∈ (befs l []).getD i [] → L i = true → L j = true :=
    fun L hL => befs_closed hL l [] [] rfl rfl (by simp)
  have hpos : 0 < l.length := List.length_pos_iff.2 hnil
  refine wp_region_any hm ?_
  -- all that holds at a state
  have key : ∀ (fuel : Nat) (listed : Array Bool) (a : Act) (w : World), listed.size = l.length → listed.toList.count false ≤ fuel →
      Closed l (fun i => listed.getD i false) → Cons C.n St l vs (fun i => listed.getD i false) a →
      Inv C.w0 C.S (if listed.getD (l.length - 1) false then M' else M) w → wpAny C.P .any l.toArray Q fuel listed a w := by
    have allL : ∀ (listed : Array Bool), listed.size = l.length → Region.ready .any l.toArray listed = [] → ∀ i, i < l.length → listed.getD i false = true := by
      intro listed hsz hr i
      induction i using Nat.strongRecOn with
      | _ i ih =>
        intro hi
        by_cases hLi : listed.getD i false = true
        · exact hLi
        · exfalso
          have : i ∈ Region.ready .any l.toArray listed := by
            simp only [Region.ready, List.mem_filter, List.mem_range, Bool.and_eq_true, List.size_toArray]
            refine ⟨hi, ?_, ?_⟩
            · have hsz' : i < listed.size := by omega
              simp only [Array.getD_eq_getD_getElem?, Array.getElem?_eq_getElem hsz', Option.getD_some] at hLi ⊢
              simpa using hLi
            · simp only [List.getElem?_toArray, List.getElem?_eq_getElem hi, Option.map_some, Option.getD_some, Array.all_eq_true']
              intro e he
              by_cases hbi : Region.binds .any e = true
              · have hmem : e.on ∈ aft l[i] := by
                  simp only [aft, List.mem_map, List.mem_filter]
                  exact ⟨e, ⟨by simpa using he, hbi⟩, rfl⟩
                have h1 := hok'.2 i hi
                rw [List.getElem?_eq_getElem hi] at h1
                simp only [opOk, Bool.and_eq_true, List.all_eq_true] at h1
                have hlt : e.on < i := by simpa [Nat.blt_eq] using h1.1.2 _ hmem
                have := ih e.on hlt (by omega)
                simp [this]
              · simp [hbi]
          rw [hr] at this
          simp at this
    have fin : ∀ (listed : Array Bool) (a : Act) (w : World), listed.size = l.length → Region.ready .any l.toArray listed = [] →
        Cons C.n St l vs (fun i => listed.getD i false) a → Inv C.w0 C.S (if listed.getD (l.length - 1) false then M' else M) w → Q .normal a w := by
      intro listed a w hsz hr hc hi
      have hal := allL listed hsz hr
      rw [hal (l.length - 1) (by omega)] at hi
      refine k a w ⟨hc.size, hc.defers, fun t v hv => ?_⟩ (by simpa using hi)
      by_cases hex : ∃ k : Nat, (l[k]?).bind Oper.dst = some t
      · obtain ⟨k, hk⟩ := hex
        have hkl : k < l.length := by
          obtain ⟨o', ho', _⟩ := Option.bind_eq_some_iff.1 hk
          exact (List.getElem?_eq_some_iff.1 ho').1
        rw [look_slotsAt_some hn hk _ hkl] at hv
        rw [hc.new t k hk (hal k hkl)]
        exact hv
      · rw [look_slotsAt_none _ (fun j _ e => hex ⟨j, e⟩)] at hv
        exact hc.old t v (fun k hk => absurd ⟨k, hk⟩ hex) hv
    intro fuel
    induction fuel with
    | zero =>
      intro listed a w hsz hcnt hcl hc hi
      have hr : Region.ready .any l.toArray listed = [] := by
        rw [List.eq_nil_iff_forall_not_mem]
        intro i him
        simp only [Region.ready, List.mem_filter, List.mem_range, Bool.and_eq_true, List.size_toArray, Bool.not_eq_true'] at him
        have hsz' : i < listed.size := by omega
        have h0 := him.2.1
        simp only [Array.getD_eq_getD_getElem?, Array.getElem?_eq_getElem hsz', Option.getD_some] at h0
        have : false ∈ listed.toList := by rw [← h0]; simp
        have := List.count_pos_iff.2 this
        omega
      exact ⟨hr, fin listed a w hsz hr hc hi⟩
    | succ fuel ih =>
      intro listed a w hsz hcnt hcl hc hi
      refine ⟨fun hr => fin listed a w hsz hr hc hi, fun i him => ?_⟩
      simp only [Region.ready, List.mem_filter, List.mem_range, Bool.and_eq_true, List.size_toArray, Bool.not_eq_true'] at him
      obtain ⟨hil, hun, hall⟩ := him
      have hsz' : i < listed.size := by omega
      have hLi : listed.getD i false = false := by
        simp only [Array.getD_eq_getD_getElem?, Array.getElem?_eq_getElem hsz', Option.getD_some] at hun ⊢
        exact hun
      have hio : l[i]? = some l[i] := List.getElem?_eq_getElem hil
      have hr : ∀ j ∈ aft l[i], listed.getD j false = true := by
        intro j hj
        simp only [List.getElem?_toArray, hio, Option.map_some, Option.getD_some, Array.all_eq_true'] at hall
        simp only [aft, List.mem_map, List.mem_filter] at hj
        obtain ⟨e, ⟨he, hbi⟩, rfl⟩ := hj
        have := hall e (by simpa using he)
        simpa [hbi] using this
      obtain ⟨hf, hg⟩ := hop i l[i] hio
      have hread : ∀ t ∈ reads l l[i], ∀ v, look (slotsAt St l vs i) t = some v → a.tmps[t]? = some v :=
        fun t ht v hv => hc.reads hok hcl hio hLi hr ht hv
      have hgs : ∀ d ∈ guardSlot l l[i], ∀ v, look (slotsAt St l vs i) d = some v → a.tmps[d]? = some v :=
        fun d hd => hread d (List.mem_append_left _ hd)
      have hM : (if listed.getD (l.length - 1) false then M' else M) = M := by
        rcases hlast with h | h
        · simp [h]
        · by_cases hi1 : i = l.length - 1
          · rw [← hi1, hLi]; simp
          · simp only [lastOk, List.all_eq_true, List.mem_range, List.elem_eq_mem, decide_eq_true_eq] at h
            have h1 := h i (by omega)
            cases hl1 : listed.getD (l.length - 1) false
            · simp
            · have := hb _ hcl _ _ h1 hl1
              rw [hLi] at this
              exact absurd this (by decide)
      have hL1 : ∀ j, (listed.setIfInBounds i true).getD j false = if j = i then true else listed.getD j false := by
        intro j
        simp only [Array.getD_eq_getD_getElem?]
        by_cases e : j = i
        · subst e; simp [hsz']
        · simp [e, Array.getElem?_setIfInBounds_ne (Ne.symm e)]
      have hM1 : (if (listed.setIfInBounds i true).getD (l.length - 1) false then M' else M) = (if i + 1 = l.length then M' else M) := by
        rw [hL1]
        by_cases e : l.length - 1 = i
        · have e' : i + 1 = l.length := by omega
          simp [e, e']
        · have e' : ¬ i + 1 = l.length := by omega
          simp only [e, e', if_false]
          exact hM
      have hcl1 : Closed l (fun j => (listed.setIfInBounds i true).getD j false) := by
        intro j o' hj hj' m hm
        simp only [hL1] at hj' ⊢
        by_cases e : j = i
        · subst e
          rw [hio] at hj
          cases hj
          simp [hr m hm]
        · simp only [e, if_false] at hj'
          simp [hcl j o' hj hj' m hm]
      have next : ∀ w', Inv C.w0 C.S (if i + 1 = l.length then M' else M) w' → wpAny C.P .any l.toArray Q fuel (listed.setIfInBounds i true) (a.put l[i].dst (vs.getD i undef)) w' := by
        intro w' hw'
        have hcount : (listed.setIfInBounds i true).toList.count false ≤ fuel := by
          have h0 : listed.toList[i]? = some false := by
            simp only [Array.getElem?_toList]
            simp only [Array.getD_eq_getD_getElem?, Array.getElem?_eq_getElem hsz', Option.getD_some] at hLi
            rw [Array.getElem?_eq_getElem hsz', hLi]
          have := countFalse_set _ _ h0
          simp only [Array.toList_setIfInBounds]
          omega
        refine ih _ _ _ (by simpa using hsz) hcount hcl1 ?_ (by rw [hM1]; exact hw')
        have := hc.put hn hio hf
        have e : (fun j => (listed.setIfInBounds i true).getD j false) = (fun k => if k = i then true else listed.getD k false) := funext hL1
        rw [e]; exact this
      rw [hM] at hi
      unfold wpOp
      simp only [List.getElem?_toArray, hio]
      rcases hg with ⟨hwant, hopr⟩ | ⟨hwant, hv, hMM⟩
      · rw [if_pos (wanted_of' hgs hwant)]
        left
        let ρ : Operand → Value := fun x => (evalS (slotsAt St l vs i) x).getD (a.eval x)
        have hρ : ∀ x v, evalS (slotsAt St l vs i) x = some v → ρ x = v := by
          intro x v hx
          simp only [ρ, hx, Option.getD_some]
        have hsel : ∀ cs b, l[i].op ≠ .select cs b := by
          intro cs b e
          have h1 := hok'.2 i hil
          rw [hio] at h1
          simp only [opOk, Bool.and_eq_true] at h1
          rw [e] at h1
          simp [isSelect] at h1
        have hcongr : execOp a.eval l[i] = execOp ρ l[i] := by
          refine execOp_congr _ hsel fun x hx => ?_
          simp only [ρ]
          cases hx' : evalS (slotsAt St l vs i) x with
          | none => rfl
          | some v =>
            simp only [Option.getD_some]
            cases x with
            | tmp t =>
              have ht : t ∈ reads l l[i] := List.mem_append_right _ (mem_tmpsOf _ (by simpa using hx))
              have := hread t ht v hx'
              simp only [Act.eval, Array.getD_eq_getD_getElem?, this, Option.getD_some]
            | const u => exact Option.some.inj hx'
            | global g => exact Option.some.inj hx'
            | func f => exact Option.some.inj hx'
        unfold Oper.wp
        rw [hcongr]
        refine Yields.upon (hopr ρ C.w0 C.S w hρ hi) ?_
        rintro v M1 w' ⟨rfl, rfl⟩ hw'
        exact next w' hw'
      · rw [if_neg (by rw [wanted_of' hgs hwant]; decide)]
        rw [hv] at next
        refine next w ?_
        rw [hMM]; exact hi
  refine key _ _ _ _ (by simp) ?_ ?_ ⟨ha.size, ha.defers, fun t v _ hv => ha.slot t v hv, fun t k hk hLk => ?_⟩ ?_
  · simp only [List.size_toArray]
    refine Nat.le_trans List.count_le_length ?_
    simp
  · intro i o _ hi
    simp only [Array.getD_eq_getD_getElem?, List.size_toArray, Array.getElem?_replicate] at hi
    split at hi <;> simp at hi
  · simp only [Array.getD_eq_getD_getElem?, List.size_toArray, Array.getElem?_replicate] at hLk
    split at hLk <;> simp at hLk
  · have : (Array.replicate l.toArray.size false).getD (l.length - 1) false = false := by
      simp only [Array.getD_eq_getD_getElem?, List.size_toArray, Array.getElem?_replicate]
      split <;> rfl
    rw [this]
    exact hw.drew

def DrawSeq (C : Ctx) (ops : List Oper) (F : Slots → Mem → Prop) : List Oper → Slots → Mem → Prop
  | [], St, M => F St M
  | o :: l, St, M => ∃ v M', OpG C ops St M o v M' ∧ (l = [] ∨ M' = M) ∧ DrawSeq C ops F l (putS St o.dst v) M'

theorem drawSeq_vs {F : Slots → Mem → Prop} : ∀ (r pre : List Oper) (us : List Value), l = pre ++ r → us.length = pre.length → r ≠ [] →
    DrawSeq C l F r (slotsAt St l us pre.length) M →
    ∃ vs M', vs.length = l.length ∧ (∀ i, i < pre.length → vs.getD i undef = us.getD i undef) ∧
      (∀ i o, pre.length ≤ i → l[i]? = some o → OpG C l (slotsAt St l vs i) M o (vs.getD i undef) (if i + 1 = l.length then M' else M)) ∧ F (slotsAt St l vs l.length) M'
  | [], _, _, _, _, hn, _ => absurd rfl hn
  | o :: r, pre, us, hl, hlen, _, h => by
    obtain ⟨v, M1, hop, hcase, hrest⟩ := h
    have hl' : l = (pre ++ [o]) ++ r := by simp [hl]
    have hio : l[pre.length]? = some o := by rw [hl]; simp
    have hsl : ∀ (ws : List Value) k, k ≤ pre.length → (∀ i, i < pre.length → ws.getD i undef = us.getD i undef) → slotsAt St l ws k = slotsAt St l us k := by
      intro ws k
      induction k with
      | zero => intro _ _; rfl
      | succ k ih =>
        intro hk hw
        rw [slotsAt, slotsAt, ih (by omega) hw, hw k (by omega)]
    have hget : ∀ i, i < pre.length → (us ++ [v]).getD i undef = us.getD i undef := by
      intro i hi
      simp only [List.getD_eq_getElem?_getD, List.getElem?_append_left (by omega : i < us.length)]
    have hgetv : (us ++ [v]).getD pre.length undef = v := by
      simp only [List.getD_eq_getElem?_getD, ← hlen]
      simp
    have hs1 : putS (slotsAt St l us pre.length) o.dst v = slotsAt St l (us ++ [v]) (pre ++ [o]).length := by
      rw [List.length_append, List.length_singleton, slotsAt, hio, hgetv, hsl (us ++ [v]) _ (Nat.le_refl _) hget]
      rfl
    by_cases hr : r = []
    · subst hr
      have hlen' : l.length = pre.length + 1 := by simp [hl]
      refine ⟨us ++ [v], M1, by simp [hlen, hlen'], hget, fun i o' hi ho' => ?_, ?_⟩
      · have : i = pre.length := by
          have := (List.getElem?_eq_some_iff.1 ho').1
          omega
        subst this
        rw [hio] at ho'
        cases ho'
        rw [if_pos (by omega), hgetv, hsl (us ++ [v]) _ (Nat.le_refl _) hget]
        exact hop
      · rw [hs1] at hrest
        have : (pre ++ [o]).length = l.length := by simp [hlen']
        rw [this] at hrest
        exact hrest
    · have hM : M1 = M := hcase.resolve_left hr
      rw [hM] at hop hrest
      rw [hs1] at hrest
      obtain ⟨vs, M', hvl, hvs, hops, hF⟩ := drawSeq_vs r (pre ++ [o]) (us ++ [v]) hl' (by simp [hlen]) hr hrest
      have hvs' : ∀ i, i < pre.length → vs.getD i undef = us.getD i undef := fun i hi => (hvs i (by simp; omega)).trans (hget i hi)
      refine ⟨vs, M', hvl, hvs', fun i o' hi ho' => ?_, hF⟩
      by_cases e : i = pre.length
      · subst e
        rw [hio] at ho'
        cases ho'
        have hne : ¬ pre.length + 1 = l.length := by
          rw [hl]
          have := List.length_pos_iff.2 hr
          simp; omega
        rw [if_neg hne, hvs _ (by simp), hgetv, hsl vs _ (Nat.le_refl _) hvs']
        exact hop
      · exact hops i o' (by simp; omega) ho'

/-- A drawn region, operation by operation in the text's order; the last one may turn the memory. -/
theorem at_draw {id : Nat} (hm : C.P.follows .mixedOrders = true) (hok : drawOk l = true) (hlast : lastOk l = true) (hnil : l ≠ [])
    (h : DrawSeq C l (fun St' M' => At C St' M' (Q .normal)) l St M) : At C St M ((Code.region id l.toArray true).wp C.P Q) := by
  obtain ⟨vs, M', _, _, hops, hF⟩ := drawSeq_vs (St := St) l [] [] rfl rfl hnil h
  exact at_draw_vs hm hok (.inr hlast) (fun i o ho => hops i o (Nat.zero_le _) ho) hnil hF

/-- The same where no operation turns the memory that is followed. -/
theorem at_drawQ {id : Nat} (hm : C.P.follows .mixedOrders = true) (hok : drawOk l = true) (hnil : l ≠ [])
    (h : DrawSeq C l (fun St' M' => M' = M ∧ At C St' M' (Q .normal)) l St M) : At C St M ((Code.region id l.toArray true).wp C.P Q) := by
  obtain ⟨vs, M', _, _, hops, rfl, hF⟩ := drawSeq_vs (St := St) l [] [] rfl rfl hnil h
  exact at_draw_vs hm hok (.inl rfl) (fun i o ho => hops i o (Nat.zero_le _) ho) hnil hF

theorem dr_nil {ops : List Oper} {F : Slots → Mem → Prop} (h : F St M) : DrawSeq C ops F [] St M := h
theorem dr_op {ops : List Oper} {F : Slots → Mem → Prop} {o o2 : Oper} {r : List Oper} {v : Value} (hg : wantS ops St o = some true) (hd : fits C.n o.dst = true)
    (h : OpR C.P St M o (fun v' M'' => v' = v ∧ M'' = M)) (k : DrawSeq C ops F (o2 :: r) (putS St o.dst v) M) : DrawSeq C ops F (o :: o2 :: r) St M :=
  ⟨v, M, ⟨hd, .inl ⟨hg, h⟩⟩, .inr rfl, k⟩
theorem dr_last {ops : List Oper} {F : Slots → Mem → Prop} {o : Oper} {v : Value} {M1 : Mem} (hg : wantS ops St o = some true) (hd : fits C.n o.dst = true)
    (h : OpR C.P St M o (fun v' M'' => v' = v ∧ M'' = M1)) (k : F (putS St o.dst v) M1) : DrawSeq C ops F [o] St M :=
  ⟨v, M1, ⟨hd, .inl ⟨hg, h⟩⟩, .inl rfl, k⟩
theorem dr_skip {ops : List Oper} {F : Slots → Mem → Prop} {o : Oper} {r : List Oper} (hg : wantS ops St o = some false) (hd : fits C.n o.dst = true)
    (k : DrawSeq C ops F r (putS St o.dst undef) M) : DrawSeq C ops F (o :: r) St M :=
  ⟨undef, M, ⟨hd, .inr ⟨hg, rfl, rfl⟩⟩, .inr rfl, k⟩
end
end Go.Proofs.Ytoagfplhcimghaa
