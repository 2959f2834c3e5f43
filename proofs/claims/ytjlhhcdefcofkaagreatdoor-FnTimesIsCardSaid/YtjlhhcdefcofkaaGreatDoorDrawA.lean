/- DrawG, DrawK, DrawR, in one text. -/
import Derived.Test.YtjlhhcdefcofkaaGreatDoorEngA
/- A region whose order is drawn, in which operations make blocks and write to them: the text's order serves. -/
namespace Go.Proofs.YtjlhhcdefcofkaaGreatDoor
open Go

inductive VE where
  | v (x : Value)
  | p (i off : Nat)
def VE.at (γ : Nat → Nat) : VE → Value
  | .v x => x
  | .p i off => .pointer (some ⟨γ i, off, none⟩)
inductive Kd where
  | pure (F : List Nat)
  | alloc
  | storeA (k : Nat)
  | storeB (k : Nat)
  | skip
structure Ef where
  kd : Kd
  T : TypeId
  cs : List Value
  val : VE

def isA : Kd → Bool
  | .alloc => true
  | _ => false
def isSA (k : Nat) : Kd → Bool
  | .storeA j => Nat.beq j k
  | _ => false
def isSB (k : Nat) : Kd → Bool
  | .storeB j => Nat.beq j k
  | _ => false
def findE (p : Kd → Bool) : List Ef → Nat → Option (Nat × List Value)
  | [], _ => none
  | e :: r, i => if p e.kd then some (i, e.cs) else findE p r (i + 1)
def allocAt (E : List Ef) (i : Nat) : Bool := match E[i]? with
  | some e => isA e.kd
  | none => false
def own0 (i : Nat) : VE → Bool
  | .p m off => Nat.beq m i && Nat.beq off 0
  | .v _ => false
def veOk (Bf : List Nat) (E : List Ef) (i : Nat) : VE → Bool
  | .v _ => true
  | .p m _ => allocAt E m && (Nat.beq m i || Bf.elem m)
def stOk (i : Nat) : Option (Nat × List Value) → Bool
  | some (s, _) => Nat.beq s i
  | none => false
def kdOk (bf : List (List Nat)) (E : List Ef) (nb i : Nat) (e : Ef) : Bool := match e.kd with
  | .pure F => F.all fun j => match findE (isSB j) E 0 with
    | none => true
    | some (s, _) => (bf.getD s []).elem i
  | .alloc => own0 i e.val
  | .storeA k => (bf.getD i []).elem k && allocAt E k && stOk i (findE (isSA k) E 0)
  | .storeB k => Nat.blt k nb && stOk i (findE (isSB k) E 0)
  | .skip => true
def gOk (l : List Oper) (E : List Ef) (nb : Nat) : Bool :=
  Nat.beq E.length l.length && (List.range l.length).all fun i => match E[i]? with
    | none => false
    | some e => kdOk (befs l []) E nb i e && veOk ((befs l []).getD i []) E i e.val

def cont (o : Option (Nat × List Value)) (L : Nat → Bool) (cs : List Value) : List Value := match o with
  | some (s, ds) => if L s then ds else cs
  | none => cs
def contA (E : List Ef) (L : Nat → Bool) (i : Nat) (cs : List Value) : List Value := cont (findE (isSA i) E 0) L cs
def contB (E : List Ef) (L : Nat → Bool) (j : Nat) (cs : List Value) : List Value := cont (findE (isSB j) E 0) L cs

def lastC (o : Option (Nat × List Value)) (cs : List Value) : List Value := match o with
  | some (_, ds) => ds
  | none => cs
def finA (γ : Nat → Nat) (E : List Ef) : Nat → Mem → Mem
  | 0, acc => acc
  | n + 1, acc => match E[n]? with
    | some e => if isA e.kd then ⟨γ n, e.T, lastC (findE (isSA n) E 0) e.cs⟩ :: finA γ E n acc else finA γ E n acc
    | none => finA γ E n acc
def finB (E : List Ef) : Nat → Mem → Mem
  | _, [] => []
  | j, b :: r => ⟨b.g, b.T, lastC (findE (isSB j) E 0) b.cs⟩ :: finB E (j + 1) r
def finM (γ : Nat → Nat) (E : List Ef) (B M : Mem) : Mem := finA γ E E.length (finB E 0 B ++ M)

def SubB (B : Mem) (F : List Nat) (M' : Mem) : Prop := ∀ (j : Nat) b, F.elem j = true → B[j]? = some b → ∃ i : Nat, M'[i]? = some b
def SubT (M M' : Mem) : Prop := ∀ (j : Nat) b, M[j]? = some b → ∃ i : Nat, M'[i]? = some b

def OpE (P : Program) (St : Slots) (B M : Mem) (γ : Nat → Nat) (E : List Ef) (o : Oper) (e : Ef) : Prop := match e.kd with
  | .pure F => ∀ M', SubB B F M' → SubT M M' → OpR P St M' o (Det (e.val.at γ) M')
  | .alloc => ∀ M', OpR P St M' o (New e.T e.cs M')
  | .storeA k => ∀ M' (j : Nat), M'[j]? = some ⟨γ k, ((E[k]?).map Ef.T).getD 0, ((E[k]?).map Ef.cs).getD []⟩ → OpR P St M' o (Det (e.val.at γ) (M'.set j ⟨γ k, ((E[k]?).map Ef.T).getD 0, e.cs⟩))
  | .storeB k => ∀ M' (j : Nat) b, B[k]? = some b → M'[j]? = some b → OpR P St M' o (Det (e.val.at γ) (M'.set j ⟨b.g, b.T, e.cs⟩))
  | .skip => e.val = .v undef
def wantE (ops : List Oper) (St : Slots) (o : Oper) (e : Ef) : Prop := wantS ops St o = some (match e.kd with | .skip => false | _ => true)

def GSeq (C : Ctx) (ops : List Oper) (B M : Mem) (γ : Nat → Nat) (E : List Ef) (F : Slots → Prop) : List Oper → List Ef → Slots → Prop
  | [], [], St => F St
  | o :: l, e :: es, St => (fits C.n o.dst = true ∧ wantE ops St o e ∧ OpE C.P St B M γ E o e) ∧ GSeq C ops B M γ E F l es (putS St o.dst (e.val.at γ))
  | _, _, _ => False

theorem findE_spec {p : Kd → Bool} {s : Nat} {ds : List Value} : ∀ (E : List Ef) (i : Nat), findE p E i = some (s, ds) → ∃ e, i ≤ s ∧ E[s - i]? = some e ∧ p e.kd = true ∧ e.cs = ds
  | [], i, h => by simp [findE] at h
  | e :: r, i, h => by
    unfold findE at h
    split at h
    · rename_i hp
      simp only [Option.some.injEq, Prod.mk.injEq] at h
      obtain ⟨rfl, rfl⟩ := h
      exact ⟨e, Nat.le_refl _, by simp, hp, rfl⟩
    · obtain ⟨e', h1, h2, h3, h4⟩ := findE_spec r (i + 1) h
      refine ⟨e', by omega, ?_, h3, h4⟩
      have : s - i = (s - (i + 1)) + 1 := by omega
      rw [this, List.getElem?_cons_succ]; exact h2

theorem Inv.of_mem {w0 w : World} {S : List Nat} {M M' : Mem} (h : Inv w0 S M' w) (hs : ∀ b ∈ M, b ∈ M') (hn : (ids M).Nodup) : Inv w0 S M w :=
  ⟨⟨fun b hb => h.has.at_ b (hs b hb), hn⟩, h.stp, fun b hb => h.own b (hs b hb)⟩
theorem mem_set_ne {M : Mem} {j : Nat} {b c d : Blk} (hb : b ∈ M) (hj : M[j]? = some c) (hne : b.g ≠ c.g) : b ∈ M.set j d := by
  obtain ⟨i, hi⟩ := List.getElem?_of_mem hb
  have hij : j ≠ i := fun e => by
    subst e
    rw [hi] at hj
    exact hne (by rw [Option.some.inj hj])
  exact List.mem_of_getElem? (i := i) (by rw [List.getElem?_set_ne hij]; exact hi)
theorem mem_set_self {M : Mem} {j : Nat} {c d : Blk} (hj : M[j]? = some c) : d ∈ M.set j d :=
  List.mem_of_getElem? (i := j) (by simp [(List.getElem?_eq_some_iff.1 hj).1])

section
variable {C : Ctx} {Q : Exit → Act → World → Prop} {St : Slots} {B M : Mem} {l : List Oper} {E : List Ef}

structure GInv (C : Ctx) (B M : Mem) (E : List Ef) (γ : Nat → Nat) (L : Nat → Bool) (M' : Mem) : Prop where
  al : ∀ i e, E[i]? = some e → isA e.kd = true → L i = true → (⟨γ i, e.T, contA E L i e.cs⟩ : Blk) ∈ M'
  ba : ∀ j b, B[j]? = some b → (⟨b.g, b.T, contB E L j b.cs⟩ : Blk) ∈ M'
  ta : ∀ b ∈ M, b ∈ M'
  di : ∀ i k, allocAt E i = true → allocAt E k = true → L i = true → L k = true → i ≠ k → γ i ≠ γ k
  fr : ∀ i, allocAt E i = true → L i = true → ∀ b ∈ B ++ M, γ i ≠ b.g

theorem gseq_at {γ : Nat → Nat} {F : Slots → Prop} : ∀ (r pre : List Oper) (es pe : List Ef), l = pre ++ r → E = pe ++ es → pe.length = pre.length →
    GSeq C l B M γ E F r es (slotsAt St l (E.map (·.val.at γ)) pre.length) →
    (∀ i o e, pre.length ≤ i → l[i]? = some o → E[i]? = some e → fits C.n o.dst = true ∧ wantE l (slotsAt St l (E.map (·.val.at γ)) i) o e ∧ OpE C.P (slotsAt St l (E.map (·.val.at γ)) i) B M γ E o e) ∧ F (slotsAt St l (E.map (·.val.at γ)) l.length)
  | [], pre, es, pe, hl, hE, hlen, h => by
    cases es with
    | cons e es => exact h.elim
    | nil =>
      have : l.length = pre.length := by simp [hl]
      refine ⟨fun i o e hi ho => ?_, by rw [this]; exact h⟩
      have := (List.getElem?_eq_some_iff.1 ho).1
      omega
  | o :: r, pre, [], pe, hl, hE, hlen, h => h.elim
  | o :: r, pre, e :: es, pe, hl, hE, hlen, h => by
    obtain ⟨h1, h2⟩ := h
    have hio : l[pre.length]? = some o := by rw [hl]; simp
    have hie : E[pre.length]? = some e := by rw [hE, ← hlen]; simp
    have hs : putS (slotsAt St l (E.map (·.val.at γ)) pre.length) o.dst (e.val.at γ) = slotsAt St l (E.map (·.val.at γ)) (pre ++ [o]).length := by
      rw [List.length_append, List.length_singleton, slotsAt, hio, List.getD_eq_getElem?_getD, List.getElem?_map, hie]
      rfl
    rw [hs] at h2
    obtain ⟨h3, h4⟩ := gseq_at r (pre ++ [o]) es (pe ++ [e]) (by simp [hl]) (by simp [hE]) (by simp [hlen]) h2
    refine ⟨fun i o' e' hi ho' he' => ?_, h4⟩
    by_cases hc : i = pre.length
    · subst hc
      rw [hio] at ho'
      rw [hie] at he'
      cases ho'; cases he'
      exact h1
    · exact h3 i o' e' (by simp; omega) ho' he'

theorem cont_step {p : Kd → Bool} {L : Nat → Bool} {i : Nat} {e : Ef} (hi : E[i]? = some e) (hp : p e.kd = false) (cs : List Value) : cont (findE p E 0) (fun k => if k = i then true else L k) cs = cont (findE p E 0) L cs := by
  unfold cont
  cases hf : findE p E 0 with
  | none => rfl
  | some x =>
    obtain ⟨s, ds⟩ := x
    obtain ⟨e', _, h2, h3, _⟩ := findE_spec E 0 hf
    have hne : s ≠ i := fun h => by
      subst h
      rw [Nat.sub_zero, hi] at h2
      cases h2
      rw [hp] at h3; cases h3
    simp [hne]

theorem isSA_ne {k j : Nat} (h : j ≠ k) : isSA k (.storeA j) = false := by
  cases hh : isSA k (.storeA j)
  · rfl
  · exact absurd (Nat.eq_of_beq_eq_true hh) h
theorem isSB_ne {k j : Nat} (h : j ≠ k) : isSB k (.storeB j) = false := by
  cases hh : isSB k (.storeB j)
  · rfl
  · exact absurd (Nat.eq_of_beq_eq_true hh) h

theorem finA_mem {γ : Nat → Nat} {acc : Mem} {b : Blk} : ∀ n, b ∈ finA γ E n acc → b ∈ acc ∨ ∃ i e, i < n ∧ E[i]? = some e ∧ isA e.kd = true ∧ b = ⟨γ i, e.T, lastC (findE (isSA i) E 0) e.cs⟩
  | 0, h => .inl h
  | n + 1, h => by
    unfold finA at h
    split at h
    · rename_i e he
      split at h
      · rename_i ha
        rcases List.mem_cons.1 h with rfl | h
        · exact .inr ⟨n, e, Nat.lt_succ_self _, he, ha, rfl⟩
        · rcases finA_mem n h with h | ⟨i, e', h1, h2⟩
          · exact .inl h
          · exact .inr ⟨i, e', by omega, h2⟩
      · rcases finA_mem n h with h | ⟨i, e', h1, h2⟩
        · exact .inl h
        · exact .inr ⟨i, e', by omega, h2⟩
    · rcases finA_mem n h with h | ⟨i, e', h1, h2⟩
      · exact .inl h
      · exact .inr ⟨i, e', by omega, h2⟩
theorem finA_nodup {γ : Nat → Nat} {acc : Mem} (hacc : (ids acc).Nodup) (hdi : ∀ i k, allocAt E i = true → allocAt E k = true → i ≠ k → γ i ≠ γ k) (hfr : ∀ i, allocAt E i = true → ∀ b ∈ acc, γ i ≠ b.g) : ∀ n, (ids (finA γ E n acc)).Nodup
  | 0 => hacc
  | n + 1 => by
    unfold finA
    split
    · rename_i e he
      split
      · rename_i ha
        have han : allocAt E n = true := by simp [allocAt, he, ha]
        refine List.nodup_cons.2 ⟨fun hm => ?_, finA_nodup hacc hdi hfr n⟩
        obtain ⟨b, hb, hbe⟩ := List.mem_map.1 hm
        rcases finA_mem n hb with h | ⟨i, e', h1, h2, h3, rfl⟩
        · exact hfr n han b h hbe.symm
        · exact hdi n i han (by simp [allocAt, h2, h3]) (by omega) hbe.symm
      · exact finA_nodup hacc hdi hfr n
    · exact finA_nodup hacc hdi hfr n
theorem finB_mem {b : Blk} : ∀ (B : Mem) (j : Nat), b ∈ finB E j B → ∃ i c, B[i]? = some c ∧ b = ⟨c.g, c.T, lastC (findE (isSB (j + i)) E 0) c.cs⟩
  | [], j, h => by simp [finB] at h
  | c :: r, j, h => by
    rcases List.mem_cons.1 h with rfl | h
    · exact ⟨0, c, rfl, rfl⟩
    · obtain ⟨i, c', h1, h2⟩ := finB_mem r (j + 1) h
      exact ⟨i + 1, c', h1, by rw [h2, Nat.add_assoc, Nat.add_comm 1 i]⟩
theorem finB_ids : ∀ (B : Mem) (j : Nat), ids (finB E j B) = ids B
  | [], _ => rfl
  | c :: r, j => by
    have := finB_ids r (j + 1)
    simp only [ids, finB, List.map_cons] at this ⊢
    rw [this]

theorem allocAt_of {i : Nat} {e : Ef} (he : E[i]? = some e) (ha : isA e.kd = true) : allocAt E i = true := by simp [allocAt, he, ha]
theorem allocAt_ex {i : Nat} (h : allocAt E i = true) : ∃ e, E[i]? = some e ∧ isA e.kd = true := by
  unfold allocAt at h
  split at h
  · rename_i e he; exact ⟨e, he, h⟩
  · cases h

set_option maxHeartbeats 4000000 in
/-- In whatever order: the text's order serves. -/
theorem at_drawG {id : Nat} (hm : C.P.follows .mixedOrders = true) (hok : drawOk l = true) (hE : gOk l E B.length = true)
    (h : ∀ γ, GSeq C l B M γ E (fun St' => At C St' (finM γ E B M) (Q .normal)) l E St) : At C St (B ++ M) ((Code.region id l.toArray true).wp C.P Q) := by
  intro a w ha hw
  have hok' := hok
  simp only [drawOk, Bool.and_eq_true, List.all_eq_true, List.mem_range] at hok'
  simp only [gOk, Bool.and_eq_true, List.all_eq_true, List.mem_range] at hE
  obtain ⟨hEl, hEo⟩ := hE
  have hEl := Nat.eq_of_beq_eq_true hEl
  have hn := noTwice_spec _ hok'.1
  have hb : ∀ (L : Nat → Bool), Closed l L → ∀ i j, j ∈ (befs l []).getD i [] → L i = true → L j = true :=
    fun L hL => befs_closed hL l [] [] rfl rfl (by simp)
  have hops := fun γ => gseq_at (C := C) (l := l) (E := E) (B := B) (M := M) (γ := γ) l [] E [] rfl rfl rfl (h γ)
  have hnd : (ids (B ++ M)).Nodup := hw.has.nodup
  refine wp_region_any hm ?_
  have key : ∀ (fuel : Nat) (listed : Array Bool) (γ : Nat → Nat) (M' : Mem) (a : Act) (w : World), listed.size = l.length → listed.toList.count false ≤ fuel →
      Closed l (fun i => listed.getD i false) → Cons C.n St l (E.map (·.val.at γ)) (fun i => listed.getD i false) a →
      GInv C B M E γ (fun i => listed.getD i false) M' → Inv C.w0 C.S M' w → wpAny C.P .any l.toArray Q fuel listed a w := by
    have allL : ∀ (listed : Array Bool), listed.size = l.length → Region.ready .any l.toArray listed = [] → ∀ i, i < l.length → listed.getD i false = true := by
      intro listed hsz hr i
      induction i using Nat.strongRecOn with
      | _ i ih =>
        intro hi
        by_cases hLi : listed.getD i false = true
        · exact hLi
        · exfalso
          have : i ∈ Region.ready .any l.toArray listed := by
            simp only [Region.ready, List.mem_filter, List.mem_range, Bool.and_eq_true, List.size_toArray]
            refine ⟨hi, ?_, ?_⟩
            · have hsz' : i < listed.size := by omega
              simp only [Array.getD_eq_getD_getElem?, Array.getElem?_eq_getElem hsz', Option.getD_some] at hLi ⊢
              simpa using hLi
            · simp only [List.getElem?_toArray, List.getElem?_eq_getElem hi, Option.map_some, Option.getD_some, Array.all_eq_true']
              intro e he
              by_cases hbi : Region.binds .any e = true
              · have hmem : e.on ∈ aft l[i] := by
                  simp only [aft, List.mem_map, List.mem_filter]
                  exact ⟨e, ⟨by simpa using he, hbi⟩, rfl⟩
                have h1 := hok'.2 i hi
                rw [List.getElem?_eq_getElem hi] at h1
                simp only [opOk, Bool.and_eq_true, List.all_eq_true] at h1
                have hlt : e.on < i := by simpa [Nat.blt_eq] using h1.1.2 _ hmem
                have := ih e.on hlt (by omega)
                simp [this]
              · simp [hbi]
          rw [hr] at this
          simp at this
    have fin : ∀ (listed : Array Bool) (γ : Nat → Nat) (M' : Mem) (a : Act) (w : World), listed.size = l.length → Region.ready .any l.toArray listed = [] →
        Cons C.n St l (E.map (·.val.at γ)) (fun i => listed.getD i false) a → GInv C B M E γ (fun i => listed.getD i false) M' → Inv C.w0 C.S M' w → Q .normal a w := by
      intro listed γ M' a w hsz hr hc hg hi
      have hal := allL listed hsz hr
      have hall : ∀ i, i < E.length → listed.getD i false = true := fun i hi => hal i (by omega)
      have halL : ∀ i, allocAt E i = true → listed.getD i false = true := fun i hi => by
        obtain ⟨e, he, _⟩ := allocAt_ex hi
        exact hall i (List.getElem?_eq_some_iff.1 he).1
      have hcont : ∀ (p : Kd → Bool) (cs : List Value), cont (findE p E 0) (fun i => listed.getD i false) cs = lastC (findE p E 0) cs := by
        intro p cs
        unfold cont lastC
        cases hf : findE p E 0 with
        | none => rfl
        | some x =>
          obtain ⟨s, ds⟩ := x
          obtain ⟨e', _, h2, _, _⟩ := findE_spec E 0 hf
          have := hall s (List.getElem?_eq_some_iff.1 (by simpa using h2)).1
          simp [this]
      refine (hops γ).2 a w ⟨hc.size, hc.defers, fun t v hv => ?_⟩ (Inv.of_mem hi ?_ ?_)
      · by_cases hex : ∃ k : Nat, (l[k]?).bind Oper.dst = some t
        · obtain ⟨k, hk⟩ := hex
          have hkl : k < l.length := by
            obtain ⟨o', ho', _⟩ := Option.bind_eq_some_iff.1 hk
            exact (List.getElem?_eq_some_iff.1 ho').1
          rw [look_slotsAt_some hn hk _ hkl] at hv
          rw [hc.new t k hk (hal k hkl)]
          exact hv
        · rw [look_slotsAt_none _ (fun j _ e => hex ⟨j, e⟩)] at hv
          exact hc.old t v (fun k hk => absurd ⟨k, hk⟩ hex) hv
      · intro b hbm
        rcases finA_mem _ hbm with hbm | ⟨i, e, hilt, he, hea, rfl⟩
        · rcases List.mem_append.1 hbm with hbm | hbm
          · obtain ⟨i, c, hic, rfl⟩ := finB_mem _ _ hbm
            have := hg.ba i c hic
            unfold contB at this
            rw [hcont] at this
            rw [Nat.zero_add]; exact this
          · exact hg.ta b hbm
        · have := hg.al i e he hea (hall i hilt)
          unfold contA at this
          rw [hcont] at this
          exact this
      · have hacc : ids (finB E 0 B ++ M) = ids (B ++ M) := by
          have := finB_ids (E := E) B 0
          simp only [ids, List.map_append] at this ⊢
          rw [this]
        refine finA_nodup (by rw [hacc]; exact hnd) (fun i k hi hk hik => hg.di i k hi hk (halL i hi) (halL k hk) hik) (fun i hi b hbm => ?_) _
        have hid : b.g ∈ ids (B ++ M) := by rw [← hacc]; exact List.mem_map_of_mem hbm
        obtain ⟨c, hc', hce⟩ := List.mem_map.1 hid
        rw [← hce]
        exact hg.fr i hi (halL i hi) c hc'
    intro fuel
    induction fuel with
    | zero =>
      intro listed γ M' a w hsz hcnt hcl hc hg hi
      have hr : Region.ready .any l.toArray listed = [] := by
        rw [List.eq_nil_iff_forall_not_mem]
        intro i him
        simp only [Region.ready, List.mem_filter, List.mem_range, Bool.and_eq_true, List.size_toArray, Bool.not_eq_true'] at him
        have hsz' : i < listed.size := by omega
        have h0 := him.2.1
        simp only [Array.getD_eq_getD_getElem?, Array.getElem?_eq_getElem hsz', Option.getD_some] at h0
        have : false ∈ listed.toList := by rw [← h0]; simp
        have := List.count_pos_iff.2 this
        omega
      exact ⟨hr, fin listed γ M' a w hsz hr hc hg hi⟩
    | succ fuel ih =>
      intro listed γ M' a w hsz hcnt hcl hc hg hi
      refine ⟨fun hr => fin listed γ M' a w hsz hr hc hg hi, fun i him => ?_⟩
      simp only [Region.ready, List.mem_filter, List.mem_range, Bool.and_eq_true, List.size_toArray, Bool.not_eq_true'] at him
      obtain ⟨hil, hun, hall⟩ := him
      have hsz' : i < listed.size := by omega
      have hLi : listed.getD i false = false := by
        simp only [Array.getD_eq_getD_getElem?, Array.getElem?_eq_getElem hsz', Option.getD_some] at hun ⊢
        exact hun
      have hio : l[i]? = some l[i] := List.getElem?_eq_getElem hil
      have hie : E[i]? = some E[i] := List.getElem?_eq_getElem (by omega)
      have hr : ∀ j ∈ aft l[i], listed.getD j false = true := by
        intro j hj
        simp only [List.getElem?_toArray, hio, Option.map_some, Option.getD_some, Array.all_eq_true'] at hall
        simp only [aft, List.mem_map, List.mem_filter] at hj
        obtain ⟨e, ⟨he, hbi⟩, rfl⟩ := hj
        have := hall e (by simpa using he)
        simpa [hbi] using this
      obtain ⟨hf, hwt, hop⟩ := (hops γ).1 i l[i] E[i] (Nat.zero_le _) hio hie
      have hread : ∀ t ∈ reads l l[i], ∀ v, look (slotsAt St l (E.map (·.val.at γ)) i) t = some v → a.tmps[t]? = some v :=
        fun t ht v hv => hc.reads hok hcl hio hLi hr ht hv
      have hgs : ∀ d ∈ guardSlot l l[i], ∀ v, look (slotsAt St l (E.map (·.val.at γ)) i) d = some v → a.tmps[d]? = some v :=
        fun d hd => hread d (List.mem_append_left _ hd)
      have hL1 : ∀ j, (listed.setIfInBounds i true).getD j false = if j = i then true else listed.getD j false := by
        intro j
        simp only [Array.getD_eq_getD_getElem?]
        by_cases e : j = i
        · subst e; simp [hsz']
        · simp [e, Array.getElem?_setIfInBounds_ne (Ne.symm e)]
      have hLe : (fun j => (listed.setIfInBounds i true).getD j false) = (fun k => if k = i then true else listed.getD k false) := funext hL1
      have hcl1 : Closed l (fun j => (listed.setIfInBounds i true).getD j false) := by
        intro j o' hj hj' m hm
        simp only [hL1] at hj' ⊢
        by_cases e : j = i
        · subst e
          rw [hio] at hj
          cases hj
          simp [hr m hm]
        · simp only [e, if_false] at hj'
          simp [hcl j o' hj hj' m hm]
      have hbef : ∀ j, j ≠ i → j ∈ (befs l []).getD i [] → listed.getD j false = true := by
        intro j hne hj
        have := hb _ hcl1 i j hj (by rw [hL1]; simp)
        rw [hL1] at this
        simpa [hne] using this
      have hEi := hEo i hil
      rw [hie] at hEi
      simp only [Bool.and_eq_true] at hEi
      obtain ⟨hkd, hve⟩ := hEi
      have hcount : (listed.setIfInBounds i true).toList.count false ≤ fuel := by
        have h0 : listed.toList[i]? = some false := by
          simp only [Array.getElem?_toList]
          simp only [Array.getD_eq_getD_getElem?, Array.getElem?_eq_getElem hsz', Option.getD_some] at hLi
          rw [Array.getElem?_eq_getElem hsz', hLi]
        have := countFalse_set _ _ h0
        simp only [Array.toList_setIfInBounds]
        omega
      have hvg : ∀ γ', (E.map (·.val.at γ')).getD i undef = E[i].val.at γ' := fun γ' => by
        rw [List.getD_eq_getElem?_getD, List.getElem?_map, hie]; rfl
      -- on from a state that is known
      have next : ∀ γ' M'' w', (∀ k : Nat, k < l.length → listed.getD k false = true → (E.map (·.val.at γ')).getD k undef = (E.map (·.val.at γ)).getD k undef) →
          GInv C B M E γ' (fun k => if k = i then true else listed.getD k false) M'' → Inv C.w0 C.S M'' w' → wpAny C.P .any l.toArray Q fuel (listed.setIfInBounds i true) (a.put l[i].dst (E[i].val.at γ')) w' := by
        intro γ' M'' w' hsame hg' hw'
        refine ih _ γ' M'' _ _ (by simpa using hsz) hcount hcl1 ?_ (by rw [hLe]; exact hg') hw'
        have hc' : Cons C.n St l (E.map (·.val.at γ')) (fun k => listed.getD k false) a := ⟨hc.size, hc.defers, hc.old, fun t k hk hLk => by
          have hkl : k < l.length := by
            obtain ⟨o', ho', _⟩ := Option.bind_eq_some_iff.1 hk
            exact (List.getElem?_eq_some_iff.1 ho').1
          rw [hc.new t k hk hLk, hsame k hkl hLk]⟩
        have := hc'.put hn hio hf
        rw [hvg] at this
        rw [hLe]; exact this
      -- a state whose blocks' numbers are the same
      have hAk : ∀ k e, E[k]? = some e → isA e.kd = true → isA E[i].kd = false → (if k = i then true else listed.getD k false) = true → listed.getD k false = true := by
        intro k e hk ha hni hL
        by_cases ek : k = i
        · subst ek
          rw [hie] at hk
          cases hk
          rw [ha] at hni; cases hni
        · simpa [ek] using hL
      have hAk' : ∀ k, allocAt E k = true → isA E[i].kd = false → (if k = i then true else listed.getD k false) = true → listed.getD k false = true := fun k hk hni hL => by
        obtain ⟨e, he, ha⟩ := allocAt_ex hk
        exact hAk k e he ha hni hL
      unfold wpOp
      simp only [List.getElem?_toArray, hio]
      by_cases hskip : E[i].kd = .skip
      · unfold wantE at hwt
        simp only [hskip] at hwt
        rw [if_neg (by rw [wanted_of' hgs hwt]; decide)]
        have hv : E[i].val.at γ = undef := by
          unfold OpE at hop
          simp only [hskip] at hop
          rw [hop]; rfl
        have hx := next γ M' w (fun _ _ _ => rfl) ⟨fun k e hk ha hL => ?_, fun j b hj => ?_, hg.ta, fun k m hk hm hLk hLm hkm => hg.di k m hk hm (hAk' k hk (by rw [hskip]; rfl) hLk) (hAk' m hm (by rw [hskip]; rfl) hLm) hkm,
          fun k hk hLk => hg.fr k hk (hAk' k hk (by rw [hskip]; rfl) hLk)⟩ hi
        · rw [hv] at hx; exact hx
        · have := hg.al k e hk ha (hAk k e hk ha (by rw [hskip]; rfl) hL)
          unfold contA at this ⊢
          rw [cont_step hie (by rw [hskip]; rfl)]; exact this
        · have := hg.ba j b hj
          unfold contB at this ⊢
          rw [cont_step hie (by rw [hskip]; rfl)]; exact this
      · have hwt' : wantS l (slotsAt St l (E.map (·.val.at γ)) i) l[i] = some true := by
          unfold wantE at hwt
          cases hk : E[i].kd <;> rw [hk] at hwt hskip <;> first | exact hwt | exact absurd rfl hskip
        rw [if_pos (wanted_of' hgs hwt')]
        left
        let ρ : Operand → Value := fun x => (evalS (slotsAt St l (E.map (·.val.at γ)) i) x).getD (a.eval x)
        have hρ : ∀ x v, evalS (slotsAt St l (E.map (·.val.at γ)) i) x = some v → ρ x = v := by
          intro x v hx
          simp only [ρ, hx, Option.getD_some]
        have hsel : ∀ cs b, l[i].op ≠ .select cs b := by
          intro cs b e
          have h1 := hok'.2 i hil
          rw [hio] at h1
          simp only [opOk, Bool.and_eq_true] at h1
          rw [e] at h1
          simp [isSelect] at h1
        have hcongr : execOp a.eval l[i] = execOp ρ l[i] := by
          refine execOp_congr _ hsel fun x hx => ?_
          simp only [ρ]
          cases hx' : evalS (slotsAt St l (E.map (·.val.at γ)) i) x with
          | none => rfl
          | some v =>
            simp only [Option.getD_some]
            cases x with
            | tmp t =>
              have ht : t ∈ reads l l[i] := List.mem_append_right _ (mem_tmpsOf _ (by simpa using hx))
              have := hread t ht v hx'
              simp only [Act.eval, Array.getD_eq_getD_getElem?, this, Option.getD_some]
            | const u => exact Option.some.inj hx'
            | global g => exact Option.some.inj hx'
            | func f => exact Option.some.inj hx'
        unfold Oper.wp
        rw [hcongr]
        cases hk : E[i].kd with
        | skip => exact absurd hk hskip
        | pure F =>
          unfold OpE at hop
          simp only [hk] at hop
          unfold kdOk at hkd
          simp only [hk, List.all_eq_true] at hkd
          have hsub : SubB B F M' := by
            intro j b hj hb'
            have h1 := hkd j (by simpa using hj)
            have h2 := hg.ba j b hb'
            have h3 : contB E (fun k => listed.getD k false) j b.cs = b.cs := by
              unfold contB cont
              cases hf : findE (isSB j) E 0 with
              | none => rfl
              | some x =>
                obtain ⟨s, ds⟩ := x
                rw [hf] at h1
                simp only [List.elem_eq_mem, decide_eq_true_eq] at h1
                have : listed.getD s false = false := by
                  cases hs : listed.getD s false
                  · rfl
                  · have := hb _ hcl s i h1 hs
                    rw [hLi] at this; cases this
                simp only [this]; rfl
            rw [h3] at h2
            exact List.getElem?_of_mem h2
          have hsubT : SubT M M' := fun j b hj => List.getElem?_of_mem (hg.ta b (List.mem_of_getElem? hj))
          refine Yields.upon (hop M' hsub hsubT ρ C.w0 C.S w hρ hi) ?_
          rintro v M1 w' ⟨rfl, rfl⟩ hw'
          refine next γ _ w' (fun _ _ _ => rfl) ⟨fun k e hk' ha hL => ?_, fun j b hj => ?_, hg.ta, fun k m hk' hm hLk hLm hkm => hg.di k m hk' hm (hAk' k hk' (by rw [hk]; rfl) hLk) (hAk' m hm (by rw [hk]; rfl) hLm) hkm,
            fun k hk' hLk => hg.fr k hk' (hAk' k hk' (by rw [hk]; rfl) hLk)⟩ hw'
          · have := hg.al k e hk' ha (hAk k e hk' ha (by rw [hk]; rfl) hL)
            unfold contA at this ⊢
            rw [cont_step hie (by rw [hk]; rfl)]; exact this
          · have := hg.ba j b hj
            unfold contB at this ⊢
            rw [cont_step hie (by rw [hk]; rfl)]; exact this
        | alloc =>
          unfold OpE at hop
          simp only [hk] at hop
          unfold kdOk at hkd
          simp only [hk] at hkd
          refine Yields.upon (hop M' ρ C.w0 C.S w hρ hi) ?_
          rintro v M1 w' ⟨g, rfl, rfl⟩ hw'
          have hnd' := hw'.has.nodup
          have hgn : ∀ b ∈ M', g ≠ b.g := fun b hb' e => (List.nodup_cons.1 hnd').1 (List.mem_map.2 ⟨b, hb', e.symm⟩)
          let γ' : Nat → Nat := fun k => if k = i then g else γ k
          have hval : E[i].val.at γ' = .pointer (some ⟨g, 0, none⟩) := by
            unfold own0 at hkd
            cases hve' : E[i].val with
            | v x => rw [hve'] at hkd; cases hkd
            | p m off =>
              rw [hve'] at hkd
              simp only [Bool.and_eq_true] at hkd
              have h1 := Nat.eq_of_beq_eq_true hkd.1
              have h2 := Nat.eq_of_beq_eq_true hkd.2
              subst h1; subst h2
              simp [VE.at, γ']
          have hgot := next γ' (⟨g, E[i].T, E[i].cs⟩ :: M') w' (fun k hkl hLk => ?_) ⟨fun k e hk' ha hL => ?_, fun j b hj => ?_, fun b hb' => List.mem_cons_of_mem _ (hg.ta b hb'), fun k m hk' hm hLk hLm hkm => ?_, fun k hk' hLk b hb' => ?_⟩ hw'
          · rw [hval] at hgot; exact hgot
          · -- values of what is listed
            have hki : k ≠ i := fun e => by subst e; rw [hLi] at hLk; cases hLk
            have hke : E[k]? = some (E[k]'(by omega)) := List.getElem?_eq_getElem (by omega)
            rw [List.getD_eq_getElem?_getD, List.getElem?_map, List.getD_eq_getElem?_getD, List.getElem?_map, hke]
            simp only [Option.map_some, Option.getD_some]
            have h1 := hEo k hkl
            rw [hke] at h1
            simp only [Bool.and_eq_true] at h1
            have h2 := h1.2
            cases hv' : (E[k]'(by omega)).val with
            | v x => rfl
            | p m off =>
              rw [hv'] at h2
              simp only [veOk, Bool.and_eq_true, Bool.or_eq_true] at h2
              have hmi : m ≠ i := by
                rcases h2.2 with h3 | h3
                · exact fun e => hki ((Nat.eq_of_beq_eq_true h3).symm.trans e)
                · intro e
                  subst e
                  have := hb _ hcl k m (by simpa using h3) hLk
                  rw [hLi] at this; cases this
              simp [VE.at, γ', hmi]
          · by_cases eki : k = i
            · subst eki
              rw [hie] at hk'
              cases hk'
              have h1 : contA E (fun m => if m = k then true else listed.getD m false) k E[k].cs = E[k].cs := by
                unfold contA cont
                cases hf : findE (isSA k) E 0 with
                | none => rfl
                | some x =>
                  obtain ⟨s, ds⟩ := x
                  obtain ⟨e', _, h2, h3, _⟩ := findE_spec E 0 hf
                  rw [Nat.sub_zero] at h2
                  have hsk : s ≠ k := fun e => by
                    subst e
                    rw [hie] at h2
                    cases h2
                    rw [hk] at h3; cases h3
                  have hsl : s < l.length := by have := (List.getElem?_eq_some_iff.1 h2).1; omega
                  have h4 := hEo s hsl
                  rw [h2] at h4
                  simp only [Bool.and_eq_true] at h4
                  have h5 := h4.1
                  cases hkd' : e'.kd with
                  | storeA q =>
                    rw [hkd'] at h3
                    have hqk : q = k := Nat.eq_of_beq_eq_true h3
                    subst hqk
                    unfold kdOk at h5
                    simp only [hkd', Bool.and_eq_true, List.elem_eq_mem, decide_eq_true_eq] at h5
                    have : listed.getD s false = false := by
                      cases hs : listed.getD s false
                      · rfl
                      · have := hb _ hcl s q h5.1.1 hs
                        rw [hLi] at this; cases this
                    simp only [hsk, if_false, this]; rfl
                  | pure F => rw [hkd'] at h3; cases h3
                  | alloc => rw [hkd'] at h3; cases h3
                  | storeB q => rw [hkd'] at h3; cases h3
                  | skip => rw [hkd'] at h3; cases h3
              rw [h1]
              simp [γ']
            · have hLk : listed.getD k false = true := by simpa [eki] using hL
              have := hg.al k e hk' ha hLk
              unfold contA at this ⊢
              rw [cont_step hie (by rw [hk]; rfl)]
              simp only [γ', eki, if_false]
              exact List.mem_cons_of_mem _ this
          · have := hg.ba j b hj
            unfold contB at this ⊢
            rw [cont_step hie (by rw [hk]; rfl)]
            exact List.mem_cons_of_mem _ this
          · have hold : ∀ k, allocAt E k = true → k ≠ i → (if k = i then true else listed.getD k false) = true → γ k ≠ g := by
              intro k hk' hki hLk
              have hLk' : listed.getD k false = true := by simpa [hki] using hLk
              obtain ⟨e, he, ha⟩ := allocAt_ex hk'
              exact fun e' => hgn _ (hg.al k e he ha hLk') e'.symm
            by_cases h1 : k = i
            · have h2 : m ≠ i := fun e => hkm (h1.trans e.symm)
              simp only [γ', h1, h2, if_true, if_false]
              exact fun e => hold m hm h2 hLm e.symm
            · by_cases h2 : m = i
              · simp only [γ', h1, h2, if_true, if_false]
                exact hold k hk' h1 hLk
              · simp only [γ', h1, h2, if_false]
                exact hg.di k m hk' hm (by simpa [h1] using hLk) (by simpa [h2] using hLm) hkm
          · by_cases h1 : k = i
            · simp only [γ', h1, if_true]
              rcases List.mem_append.1 hb' with hb' | hb'
              · obtain ⟨j, hj⟩ := List.getElem?_of_mem hb'
                have hgb := hgn _ (hg.ba j b hj)
                exact hgb
              · exact hgn _ (hg.ta b hb')
            · simp only [γ', h1, if_false]
              exact hg.fr k hk' (by simpa [h1] using hLk) b hb'
        | storeA q =>
          unfold OpE at hop
          simp only [hk] at hop
          unfold kdOk at hkd
          simp only [hk, Bool.and_eq_true, List.elem_eq_mem, decide_eq_true_eq] at hkd
          obtain ⟨⟨hqb, hqa⟩, hst⟩ := hkd
          obtain ⟨eq', heq, haq⟩ := allocAt_ex hqa
          have hqi : q ≠ i := fun e => by
            subst e
            rw [hie] at heq
            cases heq
            rw [hk] at haq; cases haq
          have hLq := hbef q hqi hqb
          have hfe : ∃ ds, findE (isSA q) E 0 = some (i, ds) ∧ ds = E[i].cs := by
            unfold stOk at hst
            cases hfd : findE (isSA q) E 0 with
            | none => rw [hfd] at hst; cases hst
            | some x =>
              obtain ⟨s, ds⟩ := x
              rw [hfd] at hst
              have := Nat.eq_of_beq_eq_true hst
              subst this
              obtain ⟨e', _, h2, _, h4⟩ := findE_spec E 0 hfd
              rw [Nat.sub_zero, hie] at h2
              cases h2
              exact ⟨ds, rfl, h4.symm⟩
          obtain ⟨ds, hfe, rfl⟩ := hfe
          have hmem := hg.al q eq' heq haq hLq
          have hc0 : contA E (fun k => listed.getD k false) q eq'.cs = eq'.cs := by
            unfold contA cont
            rw [hfe]
            simp only [hLi]; rfl
          rw [hc0] at hmem
          obtain ⟨j, hj⟩ := List.getElem?_of_mem hmem
          have hop' := hop M' j (by rw [heq]; exact hj)
          refine Yields.upon (hop' ρ C.w0 C.S w hρ hi) ?_
          rintro v M1 w' ⟨rfl, rfl⟩ hw'
          rw [heq] at hw'
          simp only [Option.map_some, Option.getD_some] at hw'
          have hnA : isA E[i].kd = false := by rw [hk]; rfl
          refine next γ _ w' (fun _ _ _ => rfl) ⟨fun k e hk' ha hL => ?_, fun j' b hj' => ?_, fun b hb' => ?_, fun k m hk' hm hLk hLm hkm => hg.di k m hk' hm (hAk' k hk' hnA hLk) (hAk' m hm hnA hLm) hkm,
            fun k hk' hLk => hg.fr k hk' (hAk' k hk' hnA hLk)⟩ hw'
          · by_cases ekq : k = q
            · subst ekq
              rw [heq] at hk'
              cases hk'
              have : contA E (fun m => if m = i then true else listed.getD m false) k eq'.cs = E[i].cs := by
                unfold contA cont
                rw [hfe]
                simp
              rw [this]
              exact mem_set_self hj
            · have hLk := hAk k e hk' ha hnA hL
              have := hg.al k e hk' ha hLk
              have hst2 : contA E (fun m => if m = i then true else listed.getD m false) k e.cs = contA E (fun m => listed.getD m false) k e.cs := by
                unfold contA
                exact cont_step hie (by rw [hk]; exact isSA_ne (fun e => ekq e.symm)) _
              rw [hst2]
              exact mem_set_ne this hj (hg.di k q (allocAt_of hk' ha) hqa hLk hLq ekq)
          · have := hg.ba j' b hj'
            unfold contB at this ⊢
            rw [cont_step hie (by rw [hk]; rfl)]
            exact mem_set_ne this hj (fun e => hg.fr q hqa hLq b (List.mem_append_left _ (List.mem_of_getElem? hj')) e.symm)
          · exact mem_set_ne (hg.ta b hb') hj (fun e => hg.fr q hqa hLq b (List.mem_append_right _ hb') e.symm)
        | storeB q =>
          unfold OpE at hop
          simp only [hk] at hop
          unfold kdOk at hkd
          simp only [hk, Bool.and_eq_true] at hkd
          obtain ⟨hqn, hst⟩ := hkd
          have hqlt : q < B.length := by simpa [Nat.blt_eq] using hqn
          have hqb : B[q]? = some B[q] := List.getElem?_eq_getElem hqlt
          have hfe : ∃ ds, findE (isSB q) E 0 = some (i, ds) ∧ ds = E[i].cs := by
            unfold stOk at hst
            cases hfd : findE (isSB q) E 0 with
            | none => rw [hfd] at hst; cases hst
            | some x =>
              obtain ⟨s, ds⟩ := x
              rw [hfd] at hst
              have := Nat.eq_of_beq_eq_true hst
              subst this
              obtain ⟨e', _, h2, _, h4⟩ := findE_spec E 0 hfd
              rw [Nat.sub_zero, hie] at h2
              cases h2
              exact ⟨ds, rfl, h4.symm⟩
          obtain ⟨ds, hfe, rfl⟩ := hfe
          have hmem := hg.ba q _ hqb
          have hc0 : contB E (fun k => listed.getD k false) q B[q].cs = B[q].cs := by
            unfold contB cont
            rw [hfe]
            simp only [hLi]; rfl
          rw [hc0] at hmem
          obtain ⟨j, hj⟩ := List.getElem?_of_mem hmem
          refine Yields.upon (hop M' j B[q] hqb hj ρ C.w0 C.S w hρ hi) ?_
          rintro v M1 w' ⟨rfl, rfl⟩ hw'
          have hnA : isA E[i].kd = false := by rw [hk]; rfl
          have hidq : ∀ j' b, (B ++ M)[j']? = some b → j' ≠ q → b.g ≠ B[q].g := by
            intro j' b hj' hne e
            have hq' : (B ++ M)[q]? = some B[q] := by rw [List.getElem?_append_left hqlt]; exact hqb
            have h1 := List.getElem?_eq_some_iff.1 hj'
            have h2 := List.getElem?_eq_some_iff.1 hq'
            refine hne ((List.getElem_inj (h₀ := by simpa [ids] using h1.1) (h₁ := by simpa [ids] using h2.1) hnd).1 ?_)
            have h3 := h1.2
            have h4 := h2.2
            unfold ids
            rw [List.getElem_map, List.getElem_map, h3, h4, e]
          refine next γ _ w' (fun _ _ _ => rfl) ⟨fun k e hk' ha hL => ?_, fun j' b hj' => ?_, fun b hb' => ?_, fun k m hk' hm hLk hLm hkm => hg.di k m hk' hm (hAk' k hk' hnA hLk) (hAk' m hm hnA hLm) hkm,
            fun k hk' hLk => hg.fr k hk' (hAk' k hk' hnA hLk)⟩ hw'
          · have hLk := hAk k e hk' ha hnA hL
            have := hg.al k e hk' ha hLk
            have hst2 : contA E (fun m => if m = i then true else listed.getD m false) k e.cs = contA E (fun m => listed.getD m false) k e.cs := by
              unfold contA
              exact cont_step hie (by rw [hk]; rfl) _
            rw [hst2]
            exact mem_set_ne this hj (hg.fr k (allocAt_of hk' ha) hLk _ (List.mem_append_left _ (List.mem_of_getElem? hqb)))
          · by_cases ejq : j' = q
            · subst ejq
              rw [hqb] at hj'
              cases hj'
              have : contB E (fun m => if m = i then true else listed.getD m false) j' B[j'].cs = E[i].cs := by
                unfold contB cont
                rw [hfe]
                simp
              rw [this]
              exact mem_set_self hj
            · have := hg.ba j' b hj'
              have hst2 : contB E (fun m => if m = i then true else listed.getD m false) j' b.cs = contB E (fun m => listed.getD m false) j' b.cs := by
                unfold contB
                exact cont_step hie (by rw [hk]; exact isSB_ne (fun e => ejq e.symm)) _
              rw [hst2]
              exact mem_set_ne this hj (hidq j' b (by rw [List.getElem?_append_left (List.getElem?_eq_some_iff.1 hj').1]; exact hj') ejq)
          · obtain ⟨j', hj'⟩ := List.getElem?_of_mem hb'
            exact mem_set_ne (hg.ta b hb') hj (hidq (B.length + j') b (by rw [List.getElem?_append_right (Nat.le_add_right _ _), Nat.add_sub_cancel_left]; exact hj') (by omega))
  refine key _ _ (fun _ => 0) (B ++ M) _ _ (by simp) ?_ ?_ ⟨ha.size, ha.defers, fun t v _ hv => ha.slot t v hv, fun t k hk hLk => ?_⟩ ⟨fun k e hk hka hL => ?_, fun j b hj => ?_, fun b hb' => List.mem_append_right _ hb', fun i k _ _ hL => ?_, fun i _ hL => ?_⟩ hw.drew
  · simp only [List.size_toArray]
    refine Nat.le_trans List.count_le_length ?_
    simp
  · intro i o _ hi
    simp only [Array.getD_eq_getD_getElem?, List.size_toArray, Array.getElem?_replicate] at hi
    split at hi <;> simp at hi
  · simp only [Array.getD_eq_getD_getElem?, List.size_toArray, Array.getElem?_replicate] at hLk
    split at hLk <;> simp at hLk
  · simp only [Array.getD_eq_getD_getElem?, List.size_toArray, Array.getElem?_replicate] at hL
    split at hL <;> simp at hL
  · have : contB E (fun i => (Array.replicate l.toArray.size false).getD i false) j b.cs = b.cs := by
      unfold contB cont
      cases findE (isSB j) E 0 with
      | none => rfl
      | some x =>
        have h0 : (Array.replicate l.toArray.size false).getD x.1 false = false := by
          simp only [Array.getD_eq_getD_getElem?, List.size_toArray, Array.getElem?_replicate]
          split <;> rfl
        simp only [h0]; rfl
    rw [this]
    exact List.mem_append_left _ (List.mem_of_getElem? hj)
  · simp only [Array.getD_eq_getD_getElem?, List.size_toArray, Array.getElem?_replicate] at hL
    split at hL <;> simp at hL
  · simp only [Array.getD_eq_getD_getElem?, List.size_toArray, Array.getElem?_replicate] at hL
    split at hL <;> simp at hL

section
variable {γ : Nat → Nat} {F : Slots → Prop} {ops : List Oper} {es : List Ef} {o : Oper} {r : List Oper}
theorem gs_nil (h : F St) : GSeq C ops B M γ E F [] [] St := h
theorem gs_pure {R : List Nat} {v : VE} (hg : wantS ops St o = some true) (hd : fits C.n o.dst = true) (h : ∀ M', SubB B R M' → SubT M M' → OpR C.P St M' o (Det (v.at γ) M')) (k : GSeq C ops B M γ E F r es (putS St o.dst (v.at γ))) :
    GSeq C ops B M γ E F (o :: r) (⟨.pure R, 0, [], v⟩ :: es) St := ⟨⟨hd, hg, h⟩, k⟩
theorem gs_alloc {T : TypeId} {cs : List Value} {v : VE} (hg : wantS ops St o = some true) (hd : fits C.n o.dst = true) (h : ∀ M', OpR C.P St M' o (New T cs M')) (k : GSeq C ops B M γ E F r es (putS St o.dst (v.at γ))) :
    GSeq C ops B M γ E F (o :: r) (⟨.alloc, T, cs, v⟩ :: es) St := ⟨⟨hd, hg, h⟩, k⟩
theorem gs_storeA {q T : Nat} {cs ds : List Value} {e : Ef} (hg : wantS ops St o = some true) (hd : fits C.n o.dst = true) (hq : E[q]? = some e) (hT : e.T = T) (hc : e.cs = cs)
    (h : ∀ M' (j : Nat), M'[j]? = some ⟨γ q, T, cs⟩ → OpR C.P St M' o (Det undef (M'.set j ⟨γ q, T, ds⟩))) (k : GSeq C ops B M γ E F r es (putS St o.dst undef)) :
    GSeq C ops B M γ E F (o :: r) (⟨.storeA q, 0, ds, .v undef⟩ :: es) St := by
  refine ⟨⟨hd, hg, ?_⟩, k⟩
  unfold OpE
  simp only [hq, Option.map_some, Option.getD_some, hT, hc]
  exact h
theorem gs_storeB {q g T : Nat} {cs ds : List Value} (hg : wantS ops St o = some true) (hd : fits C.n o.dst = true) (hq : B[q]? = some ⟨g, T, cs⟩)
    (h : ∀ M' (j : Nat), M'[j]? = some ⟨g, T, cs⟩ → OpR C.P St M' o (Det undef (M'.set j ⟨g, T, ds⟩))) (k : GSeq C ops B M γ E F r es (putS St o.dst undef)) :
    GSeq C ops B M γ E F (o :: r) (⟨.storeB q, 0, ds, .v undef⟩ :: es) St := by
  refine ⟨⟨hd, hg, ?_⟩, k⟩
  intro M' j b hb hj
  rw [hq] at hb
  cases hb
  exact h M' j hj
theorem gs_skip (hg : wantS ops St o = some false) (hd : fits C.n o.dst = true) (k : GSeq C ops B M γ E F r es (putS St o.dst undef)) : GSeq C ops B M γ E F (o :: r) (⟨.skip, 0, [], .v undef⟩ :: es) St := ⟨⟨hd, hg, rfl⟩, k⟩
end
end
end Go.Proofs.YtjlhhcdefcofkaaGreatDoor

/- Drawn regions with two operations that make other memories, one behind the other. -/
namespace Go.Proofs.YtjlhhcdefcofkaaGreatDoor
open Go
section
variable {C : Ctx} {Q : Exit → Act → World → Prop} {St : Slots} {M : Mem} {l : List Oper} {vs : List Value}
def Mo (M M1 M2 : Mem) (k1 k2 : Nat) (L : Nat → Bool) : Mem := if L k2 then M2 else if L k1 then M1 else M
/-- In whatever order; two operations make other memories, one behind the other; what reads the memory comes behind both. -/
theorem at_draw_vsK {id : Nat} (hm : C.P.follows .mixedOrders = true) (hok : drawOk l = true) {M1 M2 : Mem} {k1 k2 : Nat} (h12 : k2 < l.length → k1 ∈ (befs l []).getD k2 []) (hne : k1 ≠ k2) (hk1 : k1 < l.length) (hk2 : k2 < l.length ∨ M2 = M1)
    (hop : ∀ i o, l[i]? = some o → (i ≠ k1 ∧ i ≠ k2 ∧ ∀ M', OpG C l (slotsAt St l vs i) M' o (vs.getD i undef) M') ∨ (i = k1 ∧ OpG C l (slotsAt St l vs i) M o (vs.getD i undef) M1) ∨ (i = k2 ∧ OpG C l (slotsAt St l vs i) M1 o (vs.getD i undef) M2) ∨ (i ≠ k1 ∧ i ≠ k2 ∧ k2 < l.length ∧ k2 ∈ (befs l []).getD i [] ∧ OpG C l (slotsAt St l vs i) M2 o (vs.getD i undef) M2) ∨ (i ≠ k1 ∧ i ≠ k2 ∧ i ∈ (befs l []).getD k1 [] ∧ OpG C l (slotsAt St l vs i) M o (vs.getD i undef) M))
    (k : At C (slotsAt St l vs l.length) M2 (Q .normal)) : At C St M ((Code.region id l.toArray true).wp C.P Q) := by
  intro a w ha hw
  have hok' := hok
  simp only [drawOk, Bool.and_eq_true, List.all_eq_true, List.mem_range] at hok'
  have hn := noTwice_spec _ hok'.1
  have hb : ∀ (L : Nat → Bool), Closed l L → ∀ i j, j ∈ (befs l []).getD i [] → L i = true → L j = true :=
    fun L hL => befs_closed hL l [] [] rfl rfl (by simp)
  have hpos : 0 < l.length := by omega
  refine wp_region_any hm ?_
  -- all that holds at a state
  have key : ∀ (fuel : Nat) (listed : Array Bool) (a : Act) (w : World), listed.size = l.length → listed.toList.count false ≤ fuel →
      Closed l (fun i => listed.getD i false) → Cons C.n St l vs (fun i => listed.getD i false) a →
      Inv C.w0 C.S (Mo M M1 M2 k1 k2 fun i => listed.getD i false) w → wpAny C.P .any l.toArray Q fuel listed a w := by
    have allL : ∀ (listed : Array Bool), listed.size = l.length → Region.ready .any l.toArray listed = [] → ∀ i, i < l.length → listed.getD i false = true := by
      intro listed hsz hr i
      induction i using Nat.strongRecOn with
      | _ i ih =>
        intro hi
        by_cases hLi : listed.getD i false = true
        · exact hLi
        · exfalso
          have : i ∈ Region.ready .any l.toArray listed := by
            simp only [Region.ready, List.mem_filter, List.mem_range, Bool.and_eq_true, List.size_toArray]
            refine ⟨hi, ?_, ?_⟩
            · have hsz' : i < listed.size := by omega
              simp only [Array.getD_eq_getD_getElem?, Array.getElem?_eq_getElem hsz', Option.getD_some] at hLi ⊢
              simpa using hLi
            · simp only [List.getElem?_toArray, List.getElem?_eq_getElem hi, Option.map_some, Option.getD_some, Array.all_eq_true']
              intro e he
              by_cases hbi : Region.binds .any e = true
              · have hmem : e.on ∈ aft l[i] := by
                  simp only [aft, List.mem_map, List.mem_filter]
                  exact ⟨e, ⟨by simpa using he, hbi⟩, rfl⟩
                have h1 := hok'.2 i hi
                rw [List.getElem?_eq_getElem hi] at h1
                simp only [opOk, Bool.and_eq_true, List.all_eq_true] at h1
                have hlt : e.on < i := by simpa [Nat.blt_eq] using h1.1.2 _ hmem
                have := ih e.on hlt (by omega)
                simp [this]
              · simp [hbi]
          rw [hr] at this
          simp at this
    have fin : ∀ (listed : Array Bool) (a : Act) (w : World), listed.size = l.length → Region.ready .any l.toArray listed = [] →
        Cons C.n St l vs (fun i => listed.getD i false) a → Inv C.w0 C.S (Mo M M1 M2 k1 k2 fun i => listed.getD i false) w → Q .normal a w := by
      intro listed a w hsz hr hc hi
      have hal := allL listed hsz hr
      have hMo : (Mo M M1 M2 k1 k2 fun i => listed.getD i false) = M2 := by
        unfold Mo
        rcases hk2 with h | h
        · rw [if_pos (hal k2 h)]
        · rw [h]
          simp only [hal k1 hk1, if_true, ite_self]
      rw [hMo] at hi
      refine k a w ⟨hc.size, hc.defers, fun t v hv => ?_⟩ (by simpa using hi)
      by_cases hex : ∃ k : Nat, (l[k]?).bind Oper.dst = some t
      · obtain ⟨k, hk⟩ := hex
        have hkl : k < l.length := by
          obtain ⟨o', ho', _⟩ := Option.bind_eq_some_iff.1 hk
          exact (List.getElem?_eq_some_iff.1 ho').1
        rw [look_slotsAt_some hn hk _ hkl] at hv
        rw [hc.new t k hk (hal k hkl)]
        exact hv
      · rw [look_slotsAt_none _ (fun j _ e => hex ⟨j, e⟩)] at hv
        exact hc.old t v (fun k hk => absurd ⟨k, hk⟩ hex) hv
    intro fuel
    induction fuel with
    | zero =>
      intro listed a w hsz hcnt hcl hc hi
      have hr : Region.ready .any l.toArray listed = [] := by
        rw [List.eq_nil_iff_forall_not_mem]
        intro i him
        simp only [Region.ready, List.mem_filter, List.mem_range, Bool.and_eq_true, List.size_toArray, Bool.not_eq_true'] at him
        have hsz' : i < listed.size := by omega
        have h0 := him.2.1
        simp only [Array.getD_eq_getD_getElem?, Array.getElem?_eq_getElem hsz', Option.getD_some] at h0
        have : false ∈ listed.toList := by rw [← h0]; simp
        have := List.count_pos_iff.2 this
        omega
      exact ⟨hr, fin listed a w hsz hr hc hi⟩
    | succ fuel ih =>
      intro listed a w hsz hcnt hcl hc hi
      refine ⟨fun hr => fin listed a w hsz hr hc hi, fun i him => ?_⟩
      simp only [Region.ready, List.mem_filter, List.mem_range, Bool.and_eq_true, List.size_toArray, Bool.not_eq_true'] at him
      obtain ⟨hil, hun, hall⟩ := him
      have hsz' : i < listed.size := by omega
      have hLi : listed.getD i false = false := by
        simp only [Array.getD_eq_getD_getElem?, Array.getElem?_eq_getElem hsz', Option.getD_some] at hun ⊢
        exact hun
      have hio : l[i]? = some l[i] := List.getElem?_eq_getElem hil
      have hr : ∀ j ∈ aft l[i], listed.getD j false = true := by
        intro j hj
        simp only [List.getElem?_toArray, hio, Option.map_some, Option.getD_some, Array.all_eq_true'] at hall
        simp only [aft, List.mem_map, List.mem_filter] at hj
        obtain ⟨e, ⟨he, hbi⟩, rfl⟩ := hj
        have := hall e (by simpa using he)
        simpa [hbi] using this
      have hread : ∀ t ∈ reads l l[i], ∀ v, look (slotsAt St l vs i) t = some v → a.tmps[t]? = some v :=
        fun t ht v hv => hc.reads hok hcl hio hLi hr ht hv
      have hgs : ∀ d ∈ guardSlot l l[i], ∀ v, look (slotsAt St l vs i) d = some v → a.tmps[d]? = some v :=
        fun d hd => hread d (List.mem_append_left _ hd)
      have hL1 : ∀ j, (listed.setIfInBounds i true).getD j false = if j = i then true else listed.getD j false := by
        intro j
        simp only [Array.getD_eq_getD_getElem?]
        by_cases e : j = i
        · subst e; simp [hsz']
        · simp [e, Array.getElem?_setIfInBounds_ne (Ne.symm e)]
      have hcl1 : Closed l (fun j => (listed.setIfInBounds i true).getD j false) := by
        intro j o' hj hj' m hm
        simp only [hL1] at hj' ⊢
        by_cases e : j = i
        · subst e
          rw [hio] at hj
          cases hj
          simp [hr m hm]
        · simp only [e, if_false] at hj'
          simp [hcl j o' hj hj' m hm]
      have hbr : ∀ j, j ∈ (befs l []).getD i [] → j ≠ i → listed.getD j false = true := by
        intro j hj hji
        have := hb _ hcl1 i j hj (by simp only [hL1, if_true])
        simpa only [hL1, if_neg hji] using this
      have hstep : ∃ Mp, OpG C l (slotsAt St l vs i) (Mo M M1 M2 k1 k2 fun i => listed.getD i false) l[i] (vs.getD i undef) Mp ∧ (Mo M M1 M2 k1 k2 fun j => if j = i then true else listed.getD j false) = Mp := by
        rcases hop i l[i] hio with ⟨n1, n2, h⟩ | ⟨e, h⟩ | ⟨e, h⟩ | ⟨n1, n2, hl2, hbf, h⟩ | ⟨n1, n2, hbf, h⟩
        · refine ⟨_, h _, ?_⟩
          unfold Mo
          simp only [if_neg (Ne.symm n1), if_neg (Ne.symm n2)]
        · subst e
          have f2 : listed.getD k2 false = false := by
            cases h2 : listed.getD k2 false
            · rfl
            · have hk : k2 < l.length := by
                apply Classical.byContradiction
                intro hn
                rw [Array.getD_eq_getD_getElem?, Array.getElem?_eq_none (by omega)] at h2
                exact absurd h2 (by decide)
              have := hb _ hcl k2 i (h12 hk) h2
              rw [hLi] at this
              exact absurd this (by decide)
          refine ⟨M1, ?_, ?_⟩
          · unfold Mo
            simp only [f2, hLi, Bool.false_eq_true, if_false]
            exact h
          · unfold Mo
            simp only [if_neg (Ne.symm hne), f2, if_true, Bool.false_eq_true, if_false]
        · subst e
          have f1 := hbr k1 (h12 hil) hne
          refine ⟨M2, ?_, ?_⟩
          · unfold Mo
            simp only [f1, hLi, Bool.false_eq_true, if_false, if_true]
            exact h
          · unfold Mo
            simp only [if_true]
        · have f2 := hbr k2 hbf (Ne.symm n2)
          refine ⟨M2, ?_, ?_⟩
          · unfold Mo
            simp only [f2, if_true]
            exact h
          · unfold Mo
            simp only [if_neg (Ne.symm n2), f2, if_true]
        · have f1 : listed.getD k1 false = false := by
            cases h1 : listed.getD k1 false
            · rfl
            · have := hb _ hcl k1 i hbf h1
              rw [hLi] at this
              exact absurd this (by decide)
          have f2 : listed.getD k2 false = false := by
            cases h2 : listed.getD k2 false
            · rfl
            · have hk : k2 < l.length := by
                apply Classical.byContradiction
                intro hn
                rw [Array.getD_eq_getD_getElem?, Array.getElem?_eq_none (by omega)] at h2
                exact absurd h2 (by decide)
              have := hb _ hcl k2 k1 (h12 hk) h2
              rw [f1] at this
              exact absurd this (by decide)
          refine ⟨M, ?_, ?_⟩
          · unfold Mo
            simp only [f1, f2, Bool.false_eq_true, if_false]
            exact h
          · unfold Mo
            simp only [if_neg (Ne.symm n1), if_neg (Ne.symm n2), f1, f2, Bool.false_eq_true, if_false]
      obtain ⟨Mp, ⟨hf, hg⟩, hMp⟩ := hstep
      have next : ∀ w', Inv C.w0 C.S Mp w' → wpAny C.P .any l.toArray Q fuel (listed.setIfInBounds i true) (a.put l[i].dst (vs.getD i undef)) w' := by
        intro w' hw'
        have hcount : (listed.setIfInBounds i true).toList.count false ≤ fuel := by
          have h0 : listed.toList[i]? = some false := by
            simp only [Array.getElem?_toList]
            simp only [Array.getD_eq_getD_getElem?, Array.getElem?_eq_getElem hsz', Option.getD_some] at hLi
            rw [Array.getElem?_eq_getElem hsz', hLi]
          have := countFalse_set _ _ h0
          simp only [Array.toList_setIfInBounds]
          omega
        refine ih _ _ _ (by simpa using hsz) hcount hcl1 ?_ (by rw [show (fun j => (listed.setIfInBounds i true).getD j false) = (fun k => if k = i then true else listed.getD k false) from funext hL1, hMp]; exact hw')
        have := hc.put hn hio hf
        have e : (fun j => (listed.setIfInBounds i true).getD j false) = (fun k => if k = i then true else listed.getD k false) := funext hL1
        rw [e]; exact this
      unfold wpOp
      simp only [List.getElem?_toArray, hio]
      rcases hg with ⟨hwant, hopr⟩ | ⟨hwant, hv, hMM⟩
      · rw [if_pos (wanted_of' hgs hwant)]
        left
        let ρ : Operand → Value := fun x => (evalS (slotsAt St l vs i) x).getD (a.eval x)
        have hρ : ∀ x v, evalS (slotsAt St l vs i) x = some v → ρ x = v := by
          intro x v hx
          simp only [ρ, hx, Option.getD_some]
        have hsel : ∀ cs b, l[i].op ≠ .select cs b := by
          intro cs b e
          have h1 := hok'.2 i hil
          rw [hio] at h1
          simp only [opOk, Bool.and_eq_true] at h1
          rw [e] at h1
          simp [isSelect] at h1
        have hcongr : execOp a.eval l[i] = execOp ρ l[i] := by
          refine execOp_congr _ hsel fun x hx => ?_
          simp only [ρ]
          cases hx' : evalS (slotsAt St l vs i) x with
          | none => rfl
          | some v =>
            simp only [Option.getD_some]
            cases x with
            | tmp t =>
              have ht : t ∈ reads l l[i] := List.mem_append_right _ (mem_tmpsOf _ (by simpa using hx))
              have := hread t ht v hx'
              simp only [Act.eval, Array.getD_eq_getD_getElem?, this, Option.getD_some]
            | const u => exact Option.some.inj hx'
            | global g => exact Option.some.inj hx'
            | func f => exact Option.some.inj hx'
        unfold Oper.wp
        rw [hcongr]
        refine Yields.upon (hopr ρ C.w0 C.S w hρ hi) ?_
        rintro v M1 w' ⟨rfl, rfl⟩ hw'
        exact next w' hw'
      · rw [if_neg (by rw [wanted_of' hgs hwant]; decide)]
        rw [hv] at next
        refine next w ?_
        rw [hMM]; exact hi
  refine key _ _ _ _ (by simp) ?_ ?_ ⟨ha.size, ha.defers, fun t v _ hv => ha.slot t v hv, fun t k hk hLk => ?_⟩ ?_
  · simp only [List.size_toArray]
    refine Nat.le_trans List.count_le_length ?_
    simp
  · intro i o _ hi
    simp only [Array.getD_eq_getD_getElem?, List.size_toArray, Array.getElem?_replicate] at hi
    split at hi <;> simp at hi
  · simp only [Array.getD_eq_getD_getElem?, List.size_toArray, Array.getElem?_replicate] at hLk
    split at hLk <;> simp at hLk
  · have hz : ∀ j, (Array.replicate l.toArray.size false).getD j false = false := by
      intro j
      simp only [Array.getD_eq_getD_getElem?, List.size_toArray, Array.getElem?_replicate]
      split <;> rfl
    unfold Mo
    simp only [hz, Bool.false_eq_true, if_false]
    exact hw.drew

/-- The operations in the text's order: 0 does not look at the memory, 1 and 2 make others, 3 comes behind both. -/
def DrawSeqK (C : Ctx) (ops : List Oper) (M M1 M2 : Mem) (F : Slots → Prop) : List Oper → List Nat → Slots → Prop
  | [], _, St => F St
  | _ :: _, [], _ => False
  | o :: l, q :: ks, St => ∃ v, (match q with
      | 0 => ∀ M', OpG C ops St M' o v M'
      | 1 => OpG C ops St M o v M1
      | 2 => OpG C ops St M1 o v M2
      | 3 => OpG C ops St M2 o v M2
      | _ => OpG C ops St M o v M) ∧ DrawSeqK C ops M M1 M2 F l ks (putS St o.dst v)
def OpQ (C : Ctx) (l : List Oper) (M M1 M2 : Mem) (St : Slots) (o : Oper) (v : Value) : Nat → Prop
  | 0 => ∀ M', OpG C l St M' o v M'
  | 1 => OpG C l St M o v M1
  | 2 => OpG C l St M1 o v M2
  | 3 => OpG C l St M2 o v M2
  | _ => OpG C l St M o v M
theorem drawSeqK_vs {M1 M2 : Mem} {F : Slots → Prop} : ∀ (r pre : List Oper) (us : List Value) (ks pk : List Nat), l = pre ++ r → us.length = pre.length → pk.length = pre.length →
    DrawSeqK C l M M1 M2 F r ks (slotsAt St l us pre.length) →
    ∃ vs, vs.length = l.length ∧ (∀ i, i < pre.length → vs.getD i undef = us.getD i undef) ∧
      (∀ i o, pre.length ≤ i → l[i]? = some o → OpQ C l M M1 M2 (slotsAt St l vs i) o (vs.getD i undef) ((pk ++ ks).getD i 0)) ∧ F (slotsAt St l vs l.length)
  | [], pre, us, ks, pk, hl, hlen, hpk, h => by
    have hl' : l.length = pre.length := by simp [hl]
    refine ⟨us, by omega, fun _ _ => rfl, fun i o hi ho => ?_, ?_⟩
    · have := (List.getElem?_eq_some_iff.1 ho).1
      omega
    · rw [hl']; exact h
  | o :: r, _, _, [], _, _, _, _, h => absurd h id
  | o :: r, pre, us, q :: ks, pk, hl, hlen, hpk, h => by
    obtain ⟨v, hop, hrest⟩ := h
    have hl' : l = (pre ++ [o]) ++ r := by simp [hl]
    have hio : l[pre.length]? = some o := by rw [hl]; simp
    have hsl : ∀ (ws : List Value) k, k ≤ pre.length → (∀ i, i < pre.length → ws.getD i undef = us.getD i undef) → slotsAt St l ws k = slotsAt St l us k := by
      intro ws k
      induction k with
      | zero => intro _ _; rfl
      | succ k ih =>
        intro hk hw
        rw [slotsAt, slotsAt, ih (by omega) hw, hw k (by omega)]
    have hget : ∀ i, i < pre.length → (us ++ [v]).getD i undef = us.getD i undef := by
      intro i hi
      simp only [List.getD_eq_getElem?_getD, List.getElem?_append_left (by omega : i < us.length)]
    have hgetv : (us ++ [v]).getD pre.length undef = v := by
      simp only [List.getD_eq_getElem?_getD, ← hlen]
      simp
    have hs1 : putS (slotsAt St l us pre.length) o.dst v = slotsAt St l (us ++ [v]) (pre ++ [o]).length := by
      rw [List.length_append, List.length_singleton, slotsAt, hio, hgetv, hsl (us ++ [v]) _ (Nat.le_refl _) hget]
      rfl
    rw [hs1] at hrest
    obtain ⟨vs, hvl, hvs, hops, hF⟩ := drawSeqK_vs r (pre ++ [o]) (us ++ [v]) ks (pk ++ [q]) hl' (by simp [hlen]) (by simp [hpk]) hrest
    have hvs' : ∀ i, i < pre.length → vs.getD i undef = us.getD i undef := fun i hi => (hvs i (by simp; omega)).trans (hget i hi)
    refine ⟨vs, hvl, hvs', fun i o' hi ho' => ?_, hF⟩
    by_cases e : i = pre.length
    · subst e
      rw [hio] at ho'
      cases ho'
      have hq : (pk ++ q :: ks).getD pre.length 0 = q := by
        simp only [List.getD_eq_getElem?_getD, ← hpk]
        simp
      rw [hq, hvs _ (by simp), hgetv, hsl vs _ (Nat.le_refl _) hvs']
      match q, hop with
      | 0, hop => exact hop
      | 1, hop => exact hop
      | 2, hop => exact hop
      | 3, hop => exact hop
      | q + 4, hop => exact hop
    · have := hops i o' (by simp; omega) ho'
      simpa only [List.append_assoc, List.singleton_append] using this
def kOk (l : List Oper) (ks : List Nat) (k1 k2 : Nat) : Bool :=
  (!Nat.blt k2 l.length || ((befs l []).getD k2 []).elem k1) && (k1 != k2) && Nat.blt k1 l.length && (List.range l.length).all fun i => match ks.getD i 0 with
    | 0 => i != k1 && i != k2
    | 1 => i == k1
    | 2 => i == k2
    | 3 => i != k1 && i != k2 && Nat.blt k2 l.length && ((befs l []).getD i []).elem k2
    | _ => i != k1 && i != k2 && ((befs l []).getD k1 []).elem i
theorem at_drawK {id : Nat} (hm : C.P.follows .mixedOrders = true) (hok : drawOk l = true) {M1 M2 : Mem} (ks : List Nat) (k1 k2 : Nat) (hk : kOk l ks k1 k2 = true) (hk2 : k2 < l.length ∨ M2 = M1)
    (h : DrawSeqK C l M M1 M2 (fun St' => At C St' M2 (Q .normal)) l ks St) : At C St M ((Code.region id l.toArray true).wp C.P Q) := by
  obtain ⟨vs, _, _, hops, hF⟩ := drawSeqK_vs (St := St) l [] [] ks [] rfl rfl rfl h
  simp only [kOk, Bool.and_eq_true, List.elem_eq_mem, decide_eq_true_eq, bne_iff_ne, ne_eq, Nat.blt_eq, List.all_eq_true, List.mem_range, Bool.or_eq_true, Bool.not_eq_true'] at hk
  obtain ⟨⟨⟨h12, hne⟩, hlt⟩, hall⟩ := hk
  refine at_draw_vsK (M1 := M1) hm hok (fun hlt => h12.resolve_left (fun hf => by rw [show Nat.blt k2 l.length = true by rw [Nat.blt_eq]; exact hlt] at hf; exact absurd hf (by decide))) hne hlt hk2 (fun i o ho => ?_) hF
  have h1 := hops i o (Nat.zero_le _) ho
  have h2 := hall i (List.getElem?_eq_some_iff.1 ho).1
  simp only [List.nil_append] at h1
  generalize ks.getD i 0 = q at h1 h2
  match q, h1, h2 with
  | 0, h1, h2 => simp only [Bool.and_eq_true, bne_iff_ne, ne_eq] at h2; exact .inl ⟨h2.1, h2.2, h1⟩
  | 1, h1, h2 => simp only [beq_iff_eq] at h2; exact .inr (.inl ⟨h2, h1⟩)
  | 2, h1, h2 => simp only [beq_iff_eq] at h2; exact .inr (.inr (.inl ⟨h2, h1⟩))
  | 3, h1, h2 => simp only [Bool.and_eq_true, bne_iff_ne, ne_eq, List.elem_eq_mem, decide_eq_true_eq, Nat.blt_eq] at h2; exact .inr (.inr (.inr (.inl ⟨h2.1.1.1, h2.1.1.2, h2.1.2, h2.2, h1⟩)))
  | q + 4, h1, h2 => simp only [Bool.and_eq_true, bne_iff_ne, ne_eq, List.elem_eq_mem, decide_eq_true_eq] at h2; exact .inr (.inr (.inr (.inr ⟨h2.1.1, h2.1.2, h2.2, h1⟩)))
section
variable {ops r : List Oper} {M1 M2 : Mem} {F : Slots → Prop} {o : Oper} {ks : List Nat} {v : Value}
theorem drK0 (hg : wantS ops St o = some true) (hd : fits C.n o.dst = true) (h : ∀ M', OpR C.P St M' o (fun v' M'' => v' = v ∧ M'' = M')) (k : DrawSeqK C ops M M1 M2 F r ks (putS St o.dst v)) : DrawSeqK C ops M M1 M2 F (o :: r) (0 :: ks) St :=
  ⟨v, fun M' => ⟨hd, .inl ⟨hg, h M'⟩⟩, k⟩
theorem drK0s (hg : wantS ops St o = some false) (hd : fits C.n o.dst = true) (k : DrawSeqK C ops M M1 M2 F r ks (putS St o.dst undef)) : DrawSeqK C ops M M1 M2 F (o :: r) (0 :: ks) St :=
  ⟨undef, fun _ => ⟨hd, .inr ⟨hg, rfl, rfl⟩⟩, k⟩
theorem drK1 (hg : wantS ops St o = some true) (hd : fits C.n o.dst = true) (h : OpR C.P St M o (fun v' M'' => v' = v ∧ M'' = M1)) (k : DrawSeqK C ops M M1 M2 F r ks (putS St o.dst v)) : DrawSeqK C ops M M1 M2 F (o :: r) (1 :: ks) St :=
  ⟨v, ⟨hd, .inl ⟨hg, h⟩⟩, k⟩
theorem drK2 (hg : wantS ops St o = some true) (hd : fits C.n o.dst = true) (h : OpR C.P St M1 o (fun v' M'' => v' = v ∧ M'' = M2)) (k : DrawSeqK C ops M M1 M2 F r ks (putS St o.dst v)) : DrawSeqK C ops M M1 M2 F (o :: r) (2 :: ks) St :=
  ⟨v, ⟨hd, .inl ⟨hg, h⟩⟩, k⟩
theorem drK2s (hg : wantS ops St o = some false) (hd : fits C.n o.dst = true) (k : DrawSeqK C ops M M1 M1 F r ks (putS St o.dst undef)) : DrawSeqK C ops M M1 M1 F (o :: r) (2 :: ks) St :=
  ⟨undef, ⟨hd, .inr ⟨hg, rfl, rfl⟩⟩, k⟩
theorem drK4 (hg : wantS ops St o = some true) (hd : fits C.n o.dst = true) (h : OpR C.P St M o (fun v' M'' => v' = v ∧ M'' = M)) (k : DrawSeqK C ops M M1 M2 F r ks (putS St o.dst v)) : DrawSeqK C ops M M1 M2 F (o :: r) (4 :: ks) St :=
  ⟨v, ⟨hd, .inl ⟨hg, h⟩⟩, k⟩
theorem drK3s (hg : wantS ops St o = some false) (hd : fits C.n o.dst = true) (k : DrawSeqK C ops M M1 M2 F r ks (putS St o.dst undef)) : DrawSeqK C ops M M1 M2 F (o :: r) (3 :: ks) St :=
  ⟨undef, ⟨hd, .inr ⟨hg, rfl, rfl⟩⟩, k⟩
theorem drK3 (hg : wantS ops St o = some true) (hd : fits C.n o.dst = true) (h : OpR C.P St M2 o (fun v' M'' => v' = v ∧ M'' = M2)) (k : DrawSeqK C ops M M1 M2 F r ks (putS St o.dst v)) : DrawSeqK C ops M M1 M2 F (o :: r) (3 :: ks) St :=
  ⟨v, ⟨hd, .inl ⟨hg, h⟩⟩, k⟩
end
end
end Go.Proofs.YtjlhhcdefcofkaaGreatDoor

/- Drawn regions whose last operation makes one of several memories. -/
namespace Go.Proofs.YtjlhhcdefcofkaaGreatDoor
open Go
section
variable {C : Ctx} {Q : Exit → Act → World → Prop} {St : Slots} {M : Mem} {l : List Oper} {vs : List Value}
def OpGR (C : Ctx) (ops : List Oper) (St : Slots) (M : Mem) (o : Oper) (v : Value) (R : Mem → Prop) : Prop :=
  fits C.n o.dst = true ∧ ((wantS ops St o = some true ∧ OpR C.P St M o (fun v' M'' => v' = v ∧ R M'')) ∨ (wantS ops St o = some false ∧ v = undef ∧ R M))
def Iv (C : Ctx) (M : Mem) (R : Mem → Prop) (b : Bool) (w : World) : Prop := match b with
  | true => ∃ M', R M' ∧ Inv C.w0 C.S M' w
  | false => Inv C.w0 C.S M w
/-- In whatever order; the last operation comes behind all others and makes one of the memories of R out of M. -/
theorem at_draw_vsR {id : Nat} (hm : C.P.follows .mixedOrders = true) (hok : drawOk l = true) (hlast : lastOk l = true) {R : Mem → Prop}
    (hop : ∀ i o, l[i]? = some o → OpGR C l (slotsAt St l vs i) M o (vs.getD i undef) (fun M1 => if i + 1 = l.length then R M1 else M1 = M))
    (hnil : l ≠ [])
    (k : ∀ M', R M' → At C (slotsAt St l vs l.length) M' (Q .normal)) : At C St M ((Code.region id l.toArray true).wp C.P Q) := by
  intro a w ha hw
  have hok' := hok
  simp only [drawOk, Bool.and_eq_true, List.all_eq_true, List.mem_range] at hok'
  have hn := noTwice_spec _ hok'.1
  have hb : ∀ (L : Nat → Bool), Closed l L → ∀ i j, j ∈ (befs l []).getD i [] → L i = true → L j = true :=
    fun L hL => befs_closed hL l [] [] rfl rfl (by simp)
  have hpos : 0 < l.length := List.length_pos_iff.2 hnil
  refine wp_region_any hm ?_
  -- all that holds at a state
  have key : ∀ (fuel : Nat) (listed : Array Bool) (a : Act) (w : World), listed.size = l.length → listed.toList.count false ≤ fuel →
      Closed l (fun i => listed.getD i false) → Cons C.n St l vs (fun i => listed.getD i false) a →
      Iv C M R (listed.getD (l.length - 1) false) w → wpAny C.P .any l.toArray Q fuel listed a w := by
    have allL : ∀ (listed : Array Bool), listed.size = l.length → Region.ready .any l.toArray listed = [] → ∀ i, i < l.length → listed.getD i false = true := by
      intro listed hsz hr i
      induction i using Nat.strongRecOn with
      | _ i ih =>
        intro hi
        by_cases hLi : listed.getD i false = true
        · exact hLi
        · exfalso
          have : i ∈ Region.ready .any l.toArray listed := by
            simp only [Region.ready, List.mem_filter, List.mem_range, Bool.and_eq_true, List.size_toArray]
            refine ⟨hi, ?_, ?_⟩
            · have hsz' : i < listed.size := by omega
              simp only [Array.getD_eq_getD_getElem?, Array.getElem?_eq_getElem hsz', Option.getD_some] at hLi ⊢
              simpa using hLi
            · simp only [List.getElem?_toArray, List.getElem?_eq_getElem hi, Option.map_some, Option.getD_some, Array.all_eq_true']
              intro e he
              by_cases hbi : Region.binds .any e = true
              · have hmem : e.on ∈ aft l[i] := by
                  simp only [aft, List.mem_map, List.mem_filter]
                  exact ⟨e, ⟨by simpa using he, hbi⟩, rfl⟩
                have h1 := hok'.2 i hi
                rw [List.getElem?_eq_getElem hi] at h1
                simp only [opOk, Bool.and_eq_true, List.all_eq_true] at h1
                have hlt : e.on < i := by simpa [Nat.blt_eq] using h1.1.2 _ hmem
                have := ih e.on hlt (by omega)
                simp [this]
              · simp [hbi]
          rw [hr] at this
          simp at this
    have fin : ∀ (listed : Array Bool) (a : Act) (w : World), listed.size = l.length → Region.ready .any l.toArray listed = [] →
        Cons C.n St l vs (fun i => listed.getD i false) a → Iv C M R (listed.getD (l.length - 1) false) w → Q .normal a w := by
      intro listed a w hsz hr hc hi
      have hal := allL listed hsz hr
      rw [hal (l.length - 1) (by omega)] at hi
      obtain ⟨M', hR, hi⟩ := hi
      refine k M' hR a w ⟨hc.size, hc.defers, fun t v hv => ?_⟩ hi
      by_cases hex : ∃ k : Nat, (l[k]?).bind Oper.dst = some t
      · obtain ⟨k, hk⟩ := hex
        have hkl : k < l.length := by
          obtain ⟨o', ho', _⟩ := Option.bind_eq_some_iff.1 hk
          exact (List.getElem?_eq_some_iff.1 ho').1
        rw [look_slotsAt_some hn hk _ hkl] at hv
        rw [hc.new t k hk (hal k hkl)]
        exact hv
      · rw [look_slotsAt_none _ (fun j _ e => hex ⟨j, e⟩)] at hv
        exact hc.old t v (fun k hk => absurd ⟨k, hk⟩ hex) hv
    intro fuel
    induction fuel with
    | zero =>
      intro listed a w hsz hcnt hcl hc hi
      have hr : Region.ready .any l.toArray listed = [] := by
        rw [List.eq_nil_iff_forall_not_mem]
        intro i him
        simp only [Region.ready, List.mem_filter, List.mem_range, Bool.and_eq_true, List.size_toArray, Bool.not_eq_true'] at him
        have hsz' : i < listed.size := by omega
        have h0 := him.2.1
        simp only [Array.getD_eq_getD_getElem?, Array.getElem?_eq_getElem hsz', Option.getD_some] at h0
        have : false ∈ listed.toList := by rw [← h0]; simp
        have := List.count_pos_iff.2 this
        omega
      exact ⟨hr, fin listed a w hsz hr hc hi⟩
    | succ fuel ih =>
      intro listed a w hsz hcnt hcl hc hi
      refine ⟨fun hr => fin listed a w hsz hr hc hi, fun i him => ?_⟩
      simp only [Region.ready, List.mem_filter, List.mem_range, Bool.and_eq_true, List.size_toArray, Bool.not_eq_true'] at him
      obtain ⟨hil, hun, hall⟩ := him
      have hsz' : i < listed.size := by omega
      have hLi : listed.getD i false = false := by
        simp only [Array.getD_eq_getD_getElem?, Array.getElem?_eq_getElem hsz', Option.getD_some] at hun ⊢
        exact hun
      have hio : l[i]? = some l[i] := List.getElem?_eq_getElem hil
      have hr : ∀ j ∈ aft l[i], listed.getD j false = true := by
        intro j hj
        simp only [List.getElem?_toArray, hio, Option.map_some, Option.getD_some, Array.all_eq_true'] at hall
        simp only [aft, List.mem_map, List.mem_filter] at hj
        obtain ⟨e, ⟨he, hbi⟩, rfl⟩ := hj
        have := hall e (by simpa using he)
        simpa [hbi] using this
      obtain ⟨hf, hg⟩ := hop i l[i] hio
      have hread : ∀ t ∈ reads l l[i], ∀ v, look (slotsAt St l vs i) t = some v → a.tmps[t]? = some v :=
        fun t ht v hv => hc.reads hok hcl hio hLi hr ht hv
      have hgs : ∀ d ∈ guardSlot l l[i], ∀ v, look (slotsAt St l vs i) d = some v → a.tmps[d]? = some v :=
        fun d hd => hread d (List.mem_append_left _ hd)
      have hM : listed.getD (l.length - 1) false = false := by
        by_cases hi1 : i = l.length - 1
        · rw [← hi1, hLi]
        · have h := hlast
          simp only [lastOk, List.all_eq_true, List.mem_range, List.elem_eq_mem, decide_eq_true_eq] at h
          have h1 := h i (by omega)
          cases hl1 : listed.getD (l.length - 1) false
          · rfl
          · have := hb _ hcl _ _ h1 hl1
            rw [hLi] at this
            exact absurd this (by decide)
      have hL1 : ∀ j, (listed.setIfInBounds i true).getD j false = if j = i then true else listed.getD j false := by
        intro j
        simp only [Array.getD_eq_getD_getElem?]
        by_cases e : j = i
        · subst e; simp [hsz']
        · simp [e, Array.getElem?_setIfInBounds_ne (Ne.symm e)]
      have hM1 : ∀ M1 w', (if i + 1 = l.length then R M1 else M1 = M) → Inv C.w0 C.S M1 w' → Iv C M R ((listed.setIfInBounds i true).getD (l.length - 1) false) w' := by
        intro M1 w' hR hw'
        rw [hL1]
        by_cases e : l.length - 1 = i
        · have e' : i + 1 = l.length := by omega
          rw [if_pos e] 
          rw [if_pos e'] at hR
          exact ⟨M1, hR, hw'⟩
        · have e' : ¬ i + 1 = l.length := by omega
          rw [if_neg e, hM]
          rw [if_neg e'] at hR
          exact hR ▸ hw'
      have hcl1 : Closed l (fun j => (listed.setIfInBounds i true).getD j false) := by
        intro j o' hj hj' m hm
        simp only [hL1] at hj' ⊢
        by_cases e : j = i
        · subst e
          rw [hio] at hj
          cases hj
          simp [hr m hm]
        · simp only [e, if_false] at hj'
          simp [hcl j o' hj hj' m hm]
      have next : ∀ M1 w', (if i + 1 = l.length then R M1 else M1 = M) → Inv C.w0 C.S M1 w' → wpAny C.P .any l.toArray Q fuel (listed.setIfInBounds i true) (a.put l[i].dst (vs.getD i undef)) w' := by
        intro M1 w' hR hw'
        have hcount : (listed.setIfInBounds i true).toList.count false ≤ fuel := by
          have h0 : listed.toList[i]? = some false := by
            simp only [Array.getElem?_toList]
            simp only [Array.getD_eq_getD_getElem?, Array.getElem?_eq_getElem hsz', Option.getD_some] at hLi
            rw [Array.getElem?_eq_getElem hsz', hLi]
          have := countFalse_set _ _ h0
          simp only [Array.toList_setIfInBounds]
          omega
        refine ih _ _ _ (by simpa using hsz) hcount hcl1 ?_ (hM1 M1 w' hR hw')
        have := hc.put hn hio hf
        have e : (fun j => (listed.setIfInBounds i true).getD j false) = (fun k => if k = i then true else listed.getD k false) := funext hL1
        rw [e]; exact this
      rw [hM] at hi
      replace hi : Inv C.w0 C.S M w := hi
      unfold wpOp
      simp only [List.getElem?_toArray, hio]
      rcases hg with ⟨hwant, hopr⟩ | ⟨hwant, hv, hMM⟩
      · rw [if_pos (wanted_of' hgs hwant)]
        left
        let ρ : Operand → Value := fun x => (evalS (slotsAt St l vs i) x).getD (a.eval x)
        have hρ : ∀ x v, evalS (slotsAt St l vs i) x = some v → ρ x = v := by
          intro x v hx
          simp only [ρ, hx, Option.getD_some]
        have hsel : ∀ cs b, l[i].op ≠ .select cs b := by
          intro cs b e
          have h1 := hok'.2 i hil
          rw [hio] at h1
          simp only [opOk, Bool.and_eq_true] at h1
          rw [e] at h1
          simp [isSelect] at h1
        have hcongr : execOp a.eval l[i] = execOp ρ l[i] := by
          refine execOp_congr _ hsel fun x hx => ?_
          simp only [ρ]
          cases hx' : evalS (slotsAt St l vs i) x with
          | none => rfl
          | some v =>
            simp only [Option.getD_some]
            cases x with
            | tmp t =>
              have ht : t ∈ reads l l[i] := List.mem_append_right _ (mem_tmpsOf _ (by simpa using hx))
              have := hread t ht v hx'
              simp only [Act.eval, Array.getD_eq_getD_getElem?, this, Option.getD_some]
            | const u => exact Option.some.inj hx'
            | global g => exact Option.some.inj hx'
            | func f => exact Option.some.inj hx'
        unfold Oper.wp
        rw [hcongr]
        refine Yields.upon (hopr ρ C.w0 C.S w hρ hi) ?_
        rintro v M1 w' ⟨rfl, hR⟩ hw'
        exact next M1 w' hR hw'
      · rw [if_neg (by rw [wanted_of' hgs hwant]; decide)]
        rw [hv] at next
        exact next M w hMM hi
  refine key _ _ _ _ (by simp) ?_ ?_ ⟨ha.size, ha.defers, fun t v _ hv => ha.slot t v hv, fun t k hk hLk => ?_⟩ ?_
  · simp only [List.size_toArray]
    refine Nat.le_trans List.count_le_length ?_
    simp
  · intro i o _ hi
    simp only [Array.getD_eq_getD_getElem?, List.size_toArray, Array.getElem?_replicate] at hi
    split at hi <;> simp at hi
  · simp only [Array.getD_eq_getD_getElem?, List.size_toArray, Array.getElem?_replicate] at hLk
    split at hLk <;> simp at hLk
  · have : (Array.replicate l.toArray.size false).getD (l.length - 1) false = false := by
      simp only [Array.getD_eq_getD_getElem?, List.size_toArray, Array.getElem?_replicate]
      split <;> rfl
    rw [this]
    exact hw.drew

def DrawSeqR (C : Ctx) (ops : List Oper) (F : Slots → Mem → Prop) : List Oper → Slots → Mem → Prop
  | [], _, _ => False
  | [o], St, M => ∃ v, ∃ R : Mem → Prop, OpGR C ops St M o v R ∧ ∀ M', R M' → F (putS St o.dst v) M'
  | o :: o2 :: l, St, M => ∃ v, OpG C ops St M o v M ∧ DrawSeqR C ops F (o2 :: l) (putS St o.dst v) M
theorem drawSeqR_vs {F : Slots → Mem → Prop} : ∀ (r pre : List Oper) (us : List Value), l = pre ++ r → us.length = pre.length → r ≠ [] →
    DrawSeqR C l F r (slotsAt St l us pre.length) M →
    ∃ vs, ∃ R : Mem → Prop, vs.length = l.length ∧ (∀ i, i < pre.length → vs.getD i undef = us.getD i undef) ∧
      (∀ i o, pre.length ≤ i → l[i]? = some o → OpGR C l (slotsAt St l vs i) M o (vs.getD i undef) (fun M1 => if i + 1 = l.length then R M1 else M1 = M)) ∧ ∀ M', R M' → F (slotsAt St l vs l.length) M'
  | [], _, _, _, _, hn, _ => absurd rfl hn
  | [o], pre, us, hl, hlen, _, h => by
    obtain ⟨v, R, hop, hrest⟩ := h
    have hio : l[pre.length]? = some o := by rw [hl]; simp
    have hsl : ∀ (ws : List Value) k, k ≤ pre.length → (∀ i, i < pre.length → ws.getD i undef = us.getD i undef) → slotsAt St l ws k = slotsAt St l us k := by
      intro ws k
      induction k with
      | zero => intro _ _; rfl
      | succ k ih =>
        intro hk hw
        rw [slotsAt, slotsAt, ih (by omega) hw, hw k (by omega)]
    have hget : ∀ i, i < pre.length → (us ++ [v]).getD i undef = us.getD i undef := by
      intro i hi
      simp only [List.getD_eq_getElem?_getD, List.getElem?_append_left (by omega : i < us.length)]
    have hgetv : (us ++ [v]).getD pre.length undef = v := by
      simp only [List.getD_eq_getElem?_getD, ← hlen]
      simp
    have hs1 : putS (slotsAt St l us pre.length) o.dst v = slotsAt St l (us ++ [v]) (pre ++ [o]).length := by
      rw [List.length_append, List.length_singleton, slotsAt, hio, hgetv, hsl (us ++ [v]) _ (Nat.le_refl _) hget]
      rfl
    have hlen' : l.length = pre.length + 1 := by simp [hl]
    refine ⟨us ++ [v], R, by simp [hlen, hlen'], hget, fun i o' hi ho' => ?_, ?_⟩
    · have : i = pre.length := by
        have := (List.getElem?_eq_some_iff.1 ho').1
        omega
      subst this
      rw [hio] at ho'
      cases ho'
      have e : (fun M1 => if pre.length + 1 = l.length then R M1 else M1 = M) = R := by
        funext M1
        rw [if_pos (by omega)]
      rw [e, hgetv, hsl (us ++ [v]) _ (Nat.le_refl _) hget]
      exact hop
    · rw [hs1] at hrest
      have : (pre ++ [o]).length = l.length := by simp [hlen']
      rw [this] at hrest
      exact hrest
  | o :: o2 :: r, pre, us, hl, hlen, _, h => by
    obtain ⟨v, hop, hrest⟩ := h
    have hl' : l = (pre ++ [o]) ++ (o2 :: r) := by simp [hl]
    have hio : l[pre.length]? = some o := by rw [hl]; simp
    have hsl : ∀ (ws : List Value) k, k ≤ pre.length → (∀ i, i < pre.length → ws.getD i undef = us.getD i undef) → slotsAt St l ws k = slotsAt St l us k := by
      intro ws k
      induction k with
      | zero => intro _ _; rfl
      | succ k ih =>
        intro hk hw
        rw [slotsAt, slotsAt, ih (by omega) hw, hw k (by omega)]
    have hget : ∀ i, i < pre.length → (us ++ [v]).getD i undef = us.getD i undef := by
      intro i hi
      simp only [List.getD_eq_getElem?_getD, List.getElem?_append_left (by omega : i < us.length)]
    have hgetv : (us ++ [v]).getD pre.length undef = v := by
      simp only [List.getD_eq_getElem?_getD, ← hlen]
      simp
    have hs1 : putS (slotsAt St l us pre.length) o.dst v = slotsAt St l (us ++ [v]) (pre ++ [o]).length := by
      rw [List.length_append, List.length_singleton, slotsAt, hio, hgetv, hsl (us ++ [v]) _ (Nat.le_refl _) hget]
      rfl
    rw [hs1] at hrest
    obtain ⟨vs, R, hvl, hvs, hops, hF⟩ := drawSeqR_vs (o2 :: r) (pre ++ [o]) (us ++ [v]) hl' (by simp [hlen]) (List.cons_ne_nil _ _) hrest
    have hvs' : ∀ i, i < pre.length → vs.getD i undef = us.getD i undef := fun i hi => (hvs i (by simp; omega)).trans (hget i hi)
    refine ⟨vs, R, hvl, hvs', fun i o' hi ho' => ?_, hF⟩
    by_cases e : i = pre.length
    · subst e
      rw [hio] at ho'
      cases ho'
      have hne : ¬ pre.length + 1 = l.length := by
        rw [hl]
        simp
      have e : (fun M1 => if pre.length + 1 = l.length then R M1 else M1 = M) = (fun M1 => M1 = M) := by
        funext M1
        rw [if_neg hne]
      rw [e, hvs _ (by simp), hgetv, hsl vs _ (Nat.le_refl _) hvs']
      exact hop
    · exact hops i o' (by simp; omega) ho'
/-- A drawn region whose last operation makes one of several memories. -/
theorem at_drawR {id : Nat} (hm : C.P.follows .mixedOrders = true) (hok : drawOk l = true) (hlast : lastOk l = true) (hnil : l ≠ [])
    (h : DrawSeqR C l (fun St' M' => At C St' M' (Q .normal)) l St M) : At C St M ((Code.region id l.toArray true).wp C.P Q) := by
  obtain ⟨vs, R, _, _, hops, hF⟩ := drawSeqR_vs (St := St) l [] [] rfl rfl hnil h
  exact at_draw_vsR hm hok hlast (fun i o ho => hops i o (Nat.zero_le _) ho) hnil hF
theorem drR_op {ops : List Oper} {F : Slots → Mem → Prop} {o o2 : Oper} {r : List Oper} {v : Value} (hg : wantS ops St o = some true) (hd : fits C.n o.dst = true)
    (h : OpR C.P St M o (fun v' M'' => v' = v ∧ M'' = M)) (k : DrawSeqR C ops F (o2 :: r) (putS St o.dst v) M) : DrawSeqR C ops F (o :: o2 :: r) St M :=
  ⟨v, ⟨hd, .inl ⟨hg, h⟩⟩, k⟩
theorem drR_last {ops : List Oper} {F : Slots → Mem → Prop} {o : Oper} {v : Value} {R : Value → Mem → Prop} (hg : wantS ops St o = some true) (hd : fits C.n o.dst = true)
    (h : OpR C.P St M o R) (hv : ∀ v' M', R v' M' → v' = v) (k : ∀ v' M', R v' M' → F (putS St o.dst v') M') : DrawSeqR C ops F [o] St M :=
  ⟨v, R v, ⟨hd, .inl ⟨hg, h.mono fun v' M' hR => by obtain rfl := hv v' M' hR; exact ⟨rfl, hR⟩⟩⟩, fun M' hR => k v M' hR⟩
end
end Go.Proofs.YtjlhhcdefcofkaaGreatDoor
