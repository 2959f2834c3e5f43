/- An engine of our own over the library's rules: blocks of memory that are followed by name, slots that are known, one rule for each form of code. -/
import Derived.WalkKit
namespace Go.Proofs.Ytoagfplhcimghaa
open Go

/-! ### Memory: the blocks that are followed -/
structure Blk where
  g : Nat
  T : TypeId
  cs : List Value

abbrev Mem := List Blk
def ids (M : Mem) : List Nat := M.map Blk.g

structure Has (M : Mem) (w : World) : Prop where
  at_ : ∀ b ∈ M, w.heap[b.g]? = some (.cells b.cs.toArray b.T (0, 0))
  nodup : (ids M).Nodup

structure Stp (S : List Nat) (w w' : World) : Prop where
  os : w'.os = w.os
  tape : w'.tape = w.tape
  output : w'.output = w.output
  size : w.heap.size ≤ w'.heap.size
  block : ∀ k, k < w.heap.size → k ∉ S → w'.heap[k]? = w.heap[k]?

theorem Stp.refl (S : List Nat) (w : World) : Stp S w w := ⟨rfl, rfl, rfl, Nat.le_refl _, fun _ _ _ => rfl⟩

structure Inv (w0 : World) (S : List Nat) (M : Mem) (w : World) : Prop where
  has : Has M w
  stp : Stp S w0 w
  own : ∀ b ∈ M, b.g ∈ S ∨ w0.heap.size ≤ b.g

theorem Inv.start {M : Mem} {w : World} (h : Has M w) : Inv w (ids M) M w :=
  ⟨h, .refl _ _, fun _ hb => .inl (List.mem_map_of_mem hb)⟩

theorem Has.lt {M : Mem} {w : World} (h : Has M w) {b : Blk} (hb : b ∈ M) : b.g < w.heap.size := by
  have := h.at_ b hb
  exact (Array.getElem?_eq_some_iff.1 this).1

theorem Inv.trans {w0 w w' : World} {S : List Nat} {M M' : Mem} (h : Inv w0 S M w) (k : Inv w (ids M) M' w') : Inv w0 S M' w' := by
  refine ⟨k.has, ⟨k.stp.os.trans h.stp.os, k.stp.tape.trans h.stp.tape, k.stp.output.trans h.stp.output, Nat.le_trans h.stp.size k.stp.size, fun j hj hS => ?_⟩, fun b hb => ?_⟩
  · refine (k.stp.block j (Nat.lt_of_lt_of_le hj h.stp.size) fun hm => ?_).trans (h.stp.block j hj hS)
    obtain ⟨b, hb, rfl⟩ := List.mem_map.1 hm
    rcases h.own b hb with h' | h'
    · exact hS h'
    · omega
  · rcases k.own b hb with h' | h'
    · obtain ⟨c, hc, he⟩ := List.mem_map.1 h'
      rw [← he]; exact h.own c hc
    · exact .inr (Nat.le_trans h.stp.size h')

theorem Inv.alloc {w0 w : World} {S : List Nat} {M : Mem} (h : Inv w0 S M w) (T : TypeId) (cs : List Value) :
    Inv w0 S (⟨w.heap.size, T, cs⟩ :: M) (w.alloc (.cells cs.toArray T)) := by
  refine ⟨⟨fun b hb => ?_, ?_⟩, ⟨h.stp.os, h.stp.tape, h.stp.output, by have := h.stp.size; simp; omega, fun k hk hS => ?_⟩, fun b hb => ?_⟩
  · rcases List.mem_cons.1 hb with rfl | hb
    · exact heap_alloc_new _ _
    · rw [heap_alloc_old _ _ (h.has.lt hb)]; exact h.has.at_ b hb
  · refine List.nodup_cons.2 ⟨fun hm => ?_, h.has.nodup⟩
    obtain ⟨b, hb, he⟩ := List.mem_map.1 hm
    have h1 := h.has.lt hb
    rw [he] at h1
    exact Nat.lt_irrefl _ h1
  · have := h.stp.size
    rw [heap_alloc_old _ _ (by omega)]; exact h.stp.block k hk hS
  · rcases List.mem_cons.1 hb with rfl | hb
    · exact .inr h.stp.size
    · exact h.own b hb

theorem Inv.drew {w0 w : World} {S : List Nat} {M : Mem} (h : Inv w0 S M w) : Inv w0 S M { w with drawn := w.drawn + 1 } :=
  ⟨⟨h.has.at_, h.has.nodup⟩, ⟨h.stp.os, h.stp.tape, h.stp.output, h.stp.size, h.stp.block⟩, h.own⟩

theorem ids_set {M : Mem} {i : Nat} {b : Blk} (hi : M[i]? = some b) (c : Blk) (hc : c.g = b.g) : ids (M.set i c) = ids M := by
  unfold ids
  apply List.ext_getElem?
  intro j
  simp only [List.getElem?_map, List.getElem?_set]
  by_cases e : i = j
  · subst e
    obtain ⟨h1, h2⟩ := List.getElem?_eq_some_iff.1 hi
    simp [h1, h2, hc]
  · simp [e]

theorem Has.uniq {M : Mem} {w : World} (h : Has M w) {i j : Nat} {b c : Blk} (hi : M[i]? = some b) (hj : M[j]? = some c) (he : b.g = c.g) : i = j := by
  have hn := h.nodup
  unfold ids at hn
  obtain ⟨h1, h2⟩ := List.getElem?_eq_some_iff.1 hi
  obtain ⟨h3, h4⟩ := List.getElem?_eq_some_iff.1 hj
  refine (List.getElem_inj (h₀ := by simpa using h1) (h₁ := by simpa using h3) hn).1 ?_
  simp [h2, h4, he]

theorem Inv.setRow {w0 w : World} {S : List Nat} {M : Mem} (h : Inv w0 S M w) {i : Nat} {b : Blk} (hi : M[i]? = some b) (cs : List Value) :
    Inv w0 S (M.set i ⟨b.g, b.T, cs⟩) (w.setRow b.g cs.toArray) := by
  have hb : b ∈ M := List.mem_of_getElem? hi
  have hg := h.has.at_ b hb
  refine ⟨⟨fun c hc => ?_, ?_⟩, ⟨h.stp.os, h.stp.tape, h.stp.output, by simpa using h.stp.size, fun k hk hS => ?_⟩, fun c hc => ?_⟩
  · obtain ⟨j, hj⟩ := List.getElem?_of_mem hc
    rw [List.getElem?_set] at hj
    by_cases e : i = j
    · subst e
      have hlt := (List.getElem?_eq_some_iff.1 hi).1
      simp [hlt] at hj
      subst hj
      exact setRow_heap w b.g _ cs.toArray b.T (0, 0) hg
    · simp [e] at hj
      have hne : c.g ≠ b.g := fun he => e (h.has.uniq hj hi he).symm
      rw [setRow_other _ _ _ _ hne]
      exact h.has.at_ c (List.mem_of_getElem? hj)
  · rw [ids_set hi ⟨b.g, b.T, cs⟩ rfl]; exact h.has.nodup
  · by_cases e : k = b.g
    · subst e
      rcases h.own b hb with h' | h'
      · exact absurd h' hS
      · omega
    · rw [setRow_other _ _ _ _ e]; exact h.stp.block k hk hS
  · obtain ⟨j, hj⟩ := List.getElem?_of_mem hc
    rw [List.getElem?_set] at hj
    by_cases e : i = j
    · subst e
      have hlt := (List.getElem?_eq_some_iff.1 hi).1
      simp [hlt] at hj
      subst hj
      exact h.own b hb
    · simp [e] at hj
      exact h.own c (List.mem_of_getElem? hj)

theorem Inv.sub {w0 w : World} {S : List Nat} {M M' : Mem} (h : Inv w0 S M w) (hs : M'.Sublist M) : Inv w0 S M' w :=
  ⟨⟨fun b hb => h.has.at_ b (hs.subset hb), h.has.nodup.sublist (hs.map _)⟩, h.stp, fun b hb => h.own b (hs.subset hb)⟩

/-! ### Slots -/
abbrev Slots := List (Nat × Value)
def look : Slots → Nat → Option Value
  | [], _ => none
  | (k, v) :: r, t => match Nat.beq k t with
    | true => some v
    | false => look r t

theorem look_cons_self (k : Nat) (v : Value) (r : Slots) : look ((k, v) :: r) k = some v := by
  show (match Nat.beq k k with | true => some v | false => look r k) = some v
  rw [Nat.beq_refl]
theorem look_cons_ne {k t : Nat} (v : Value) (r : Slots) (h : k ≠ t) : look ((k, v) :: r) t = look r t := by
  have hb : Nat.beq k t = false := by
    cases hh : Nat.beq k t
    · rfl
    · exact absurd (Nat.eq_of_beq_eq_true hh) h
  show (match Nat.beq k t with | true => some v | false => look r t) = look r t
  rw [hb]

def evalS (St : Slots) : Operand → Option Value
  | .tmp t => look St t
  | .const v => some v
  | .global g => some (.pointer (some ⟨g, 0, none⟩))
  | .func f => some (.func (.func f) #[] #[])

structure Holds (n : Nat) (St : Slots) (a : Act) : Prop where
  size : a.tmps.size = n
  defers : a.defers = []
  slot : ∀ t v, look St t = some v → a.tmps[t]? = some v

theorem Holds.eval {n : Nat} {St : Slots} {a : Act} (h : Holds n St a) {x : Operand} {v : Value} (hx : evalS St x = some v) : a.eval x = v := by
  cases x with
  | tmp t =>
    have := h.slot t v hx
    simp only [Act.eval, Array.getD_eq_getD_getElem?, this, Option.getD_some]
  | const u => exact Option.some.inj hx
  | global g => exact Option.some.inj hx
  | func f => exact Option.some.inj hx

def putS (St : Slots) (d : Option Tmp) (v : Value) : Slots :=
  match d with
  | some t => (t, v) :: St
  | none => St

def fits (n : Nat) (d : Option Tmp) : Bool :=
  match d with
  | some t => Nat.blt t n
  | none => true

theorem Holds.put {n : Nat} {St : Slots} {a : Act} (h : Holds n St a) {d : Option Tmp} (hd : fits n d = true) (v : Value) : Holds n (putS St d v) (a.put d v) := by
  cases d with
  | none => exact h
  | some t =>
    have ht : t < n := by simpa [fits, Nat.blt_eq] using hd
    refine ⟨by simpa [Act.put] using h.size, h.defers, fun s u hs => ?_⟩
    by_cases e : t = s
    · subst e
      rw [putS, look_cons_self] at hs
      simp only [Option.some.injEq] at hs
      subst hs
      simp [Act.put, h.size, ht]
    · rw [putS, look_cons_ne _ _ e] at hs
      simp only [Act.put, Array.getElem?_setIfInBounds_ne e]
      exact h.slot s u hs

/-! ### A state that is known, and the rules of code -/
structure Ctx where
  P : Program
  n : Nat
  w0 : World
  S : List Nat

def At (C : Ctx) (St : Slots) (M : Mem) (F : Act → World → Prop) : Prop :=
  ∀ a w, Holds C.n St a → Inv C.w0 C.S M w → F a w

section
variable {C : Ctx} {St : Slots} {M : Mem} {Q : Exit → Act → World → Prop}

theorem at_seq {x y : Code} (h : At C St M (x.wp C.P (Exit.then (y.wp C.P Q) Q))) : At C St M ((Code.seq x y).wp C.P Q) :=
  fun a w ha hw => wp_seq (h a w ha hw)
theorem at_skip (h : At C St M (Q .normal)) : At C St M (Code.skip.wp C.P Q) := fun a w ha hw => wp_skip (h a w ha hw)
theorem at_ret (h : At C St M (Q .ret)) : At C St M (Code.ret.wp C.P Q) := fun a w ha hw => wp_ret (h a w ha hw)
theorem at_exit {id : Nat} (h : At C St M (Q (.exit id))) : At C St M ((Code.exit id).wp C.P Q) := fun a w ha hw => wp_exit (h a w ha hw)
theorem at_block {id : Nat} {c : Code} (h : At C St M (c.wp C.P (Exit.inBlock id Q))) : At C St M ((Code.block id c).wp C.P Q) := fun a w ha hw => wp_block (h a w ha hw)
theorem at_cond {c : Operand} {x y : Code} {t : Bool} (hc : evalS St c = some (.bool t)) (h1 : t = true → At C St M (x.wp C.P Q)) (h2 : t = false → At C St M (y.wp C.P Q)) :
    At C St M ((Code.cond c x y).wp C.P Q) :=
  fun a w ha hw => wp_cond_split (ha.eval hc) (fun e => h1 e a w ha hw) (fun e => h2 e a w ha hw)
theorem at_cond_true {c : Operand} {x y : Code} (hc : evalS St c = some (.bool true)) (h : At C St M (x.wp C.P Q)) : At C St M ((Code.cond c x y).wp C.P Q) :=
  fun a w ha hw => wp_cond_true (ha.eval hc) (h a w ha hw)
theorem at_cond_false {c : Operand} {x y : Code} (hc : evalS St c = some (.bool false)) (h : At C St M (y.wp C.P Q)) : At C St M ((Code.cond c x y).wp C.P Q) :=
  fun a w ha hw => wp_cond_false (ha.eval hc) (h a w ha hw)
theorem at_then {K : Act → World → Prop} (h : At C St M K) : At C St M (Exit.then K Q .normal) := h
theorem at_inBlock_same {id : Nat} (h : At C St M (Q .normal)) : At C St M (Exit.inBlock id Q (.exit id)) := by
  intro a w ha hw
  simpa [Exit.inBlock] using h a w ha hw
theorem at_inBlock_ne {id id' : Nat} (hne : Nat.beq id' id = false) (h : At C St M (Q (.exit id'))) : At C St M (Exit.inBlock id Q (.exit id')) := by
  intro a w ha hw
  have : id' ≠ id := fun e => by subst e; simp [Nat.beq_refl] at hne
  simpa [Exit.inBlock, this] using h a w ha hw

/-- Forget slots, or keep just what a relation says. -/
theorem At.weaken {St' : Slots} {M' : Mem} {F : Act → World → Prop} (h : At C St' M' F) (hs : ∀ t v, look St' t = some v → look St t = some v) (hm : M'.Sublist M) : At C St M F :=
  fun a w ha hw => h a w ⟨ha.size, ha.defers, fun t v hv => ha.slot t v (hs t v hv)⟩ (hw.sub hm)

theorem least_ex (p : Nat → Prop) : ∀ n, p n → ∃ k, p k ∧ ∀ j, p j → k ≤ j := by
  intro n
  induction n using Nat.strongRecOn with
  | _ n ih =>
    intro hn
    by_cases h : ∃ m, m < n ∧ p m
    · obtain ⟨m, hm, hp⟩ := h
      exact ih m hm hp
    · refine ⟨n, hn, fun j hj => ?_⟩
      by_cases hlt : j < n
      · exact absurd ⟨j, hlt, hj⟩ h
      · omega

open Classical in
noncomputable def least (p : Nat → Prop) : Nat := if h : ∃ k, p k ∧ ∀ j, p j → k ≤ j then h.choose else 0
theorem least_spec {p : Nat → Prop} {n : Nat} (hn : p n) : p (least p) ∧ ∀ j, p j → least p ≤ j := by
  have h := least_ex p n hn
  unfold least
  rw [dif_pos h]
  exact h.choose_spec

/-- A loop: σ names what the rounds run over. -/
theorem at_loop {σ : Type} (Sx : σ → Slots) (Mx : σ → Mem) (μ : σ → Nat) (I : σ → Prop) {c : Code} (x0 : σ) (h0 : I x0)
    (hSt : ∀ t v, look (Sx x0) t = some v → look St t = some v) (hM : (Mx x0).Sublist M)
    (round : ∀ x, I x → At C (Sx x) (Mx x) (c.wp C.P (Exit.then (fun a' w' => ∃ y, I y ∧ μ y < μ x ∧ Holds C.n (Sx y) a' ∧ Inv C.w0 C.S (Mx y) w') Q))) :
    At C St M ((Code.loop c).wp C.P Q) := by
  intro a w ha hw
  let p : Act → World → Nat → Prop := fun a w k => ∃ x, μ x = k ∧ I x ∧ Holds C.n (Sx x) a ∧ Inv C.w0 C.S (Mx x) w
  refine wp_loop (fun a w => ∃ k, p a w k) (fun a w => least (p a w))
    ⟨_, x0, rfl, h0, ⟨ha.size, ha.defers, fun t v hv => ha.slot t v (hSt t v hv)⟩, hw.sub hM⟩ ?_
  rintro a w ⟨k, hk⟩
  obtain ⟨⟨x, hx, hI, hH, hV⟩, _⟩ := least_spec hk
  refine wp_mono (round x hI a w hH hV) fun e a' w' he => ?_
  cases e <;> simp only [Exit.then] at he ⊢ <;> first | exact he | skip
  obtain ⟨y, hyI, hlt, hyH, hyV⟩ := he
  have hp : p a' w' (μ y) := ⟨y, rfl, hyI, hyH, hyV⟩
  refine ⟨⟨_, hp⟩, ?_⟩
  have := (least_spec hp).2 _ hp
  omega
theorem at_loop2 {σ τ : Type} (Sx : σ → τ → Slots) (Mx : σ → τ → Mem) (μ : σ → τ → Nat) (I : σ → τ → Prop) {c : Code} (x0 : σ) (y0 : τ) (h0 : I x0 y0)
    (hSt : ∀ t v, look (Sx x0 y0) t = some v → look St t = some v) (hM : (Mx x0 y0).Sublist M)
    (round : ∀ x y, I x y → At C (Sx x y) (Mx x y) (c.wp C.P (Exit.then (fun a' w' => ∃ x' y', I x' y' ∧ μ x' y' < μ x y ∧ Holds C.n (Sx x' y') a' ∧ Inv C.w0 C.S (Mx x' y') w') Q))) :
    At C St M ((Code.loop c).wp C.P Q) :=
  at_loop (σ := σ × τ) (fun p => Sx p.1 p.2) (fun p => Mx p.1 p.2) (fun p => μ p.1 p.2) (fun p => I p.1 p.2) (x0, y0) h0 hSt hM fun ⟨x, y⟩ hI a w ha hw =>
    wp_mono (round x y hI a w ha hw) fun e a' w' he => by
      cases e <;> simp only [Exit.then] at he ⊢ <;> first | exact he | (obtain ⟨x', y', h⟩ := he; exact ⟨(x', y'), h⟩)
theorem at_loop3 {σ τ υ : Type} (Sx : σ → τ → υ → Slots) (Mx : σ → τ → υ → Mem) (μ : σ → τ → υ → Nat) (I : σ → τ → υ → Prop) {c : Code} (x0 : σ) (y0 : τ) (z0 : υ) (h0 : I x0 y0 z0)
    (hSt : ∀ t v, look (Sx x0 y0 z0) t = some v → look St t = some v) (hM : (Mx x0 y0 z0).Sublist M)
    (round : ∀ x y z, I x y z → At C (Sx x y z) (Mx x y z) (c.wp C.P (Exit.then (fun a' w' => ∃ x' y' z', I x' y' z' ∧ μ x' y' z' < μ x y z ∧ Holds C.n (Sx x' y' z') a' ∧ Inv C.w0 C.S (Mx x' y' z') w') Q))) :
    At C St M ((Code.loop c).wp C.P Q) :=
  at_loop2 (σ := σ × τ) (fun p => Sx p.1 p.2) (fun p => Mx p.1 p.2) (fun p => μ p.1 p.2) (fun p => I p.1 p.2) (x0, y0) z0 h0 hSt hM fun ⟨x, y⟩ z hI a w ha hw =>
    wp_mono (round x y z hI a w ha hw) fun e a' w' he => by
      cases e <;> simp only [Exit.then] at he ⊢ <;> first | exact he | (obtain ⟨x', y', z', h⟩ := he; exact ⟨(x', y'), z', h⟩)
/-- The end of a round. -/
theorem at_round {σ : Type} {Sx : σ → Slots} {Mx : σ → Mem} {μ : σ → Nat} {I : σ → Prop} {m : Nat} (y : σ) (hI : I y) (hlt : μ y < m)
    (hSt : ∀ t v, look (Sx y) t = some v → look St t = some v) (hM : (Mx y).Sublist M) :
    At C St M (fun a' w' => ∃ y, I y ∧ μ y < m ∧ Holds C.n (Sx y) a' ∧ Inv C.w0 C.S (Mx y) w') :=
  fun _ _ ha hw => ⟨y, hI, hlt, ⟨ha.size, ha.defers, fun t v hv => ha.slot t v (hSt t v hv)⟩, hw.sub hM⟩
theorem at_round2 {σ τ : Type} {Sx : σ → τ → Slots} {Mx : σ → τ → Mem} {μ : σ → τ → Nat} {I : σ → τ → Prop} {m : Nat} (x : σ) (y : τ) (hI : I x y) (hlt : μ x y < m)
    (hSt : ∀ t v, look (Sx x y) t = some v → look St t = some v) (hM : (Mx x y).Sublist M) :
    At C St M (fun a' w' => ∃ x y, I x y ∧ μ x y < m ∧ Holds C.n (Sx x y) a' ∧ Inv C.w0 C.S (Mx x y) w') :=
  fun _ _ ha hw => ⟨x, y, hI, hlt, ⟨ha.size, ha.defers, fun t v hv => ha.slot t v (hSt t v hv)⟩, hw.sub hM⟩
theorem at_round3 {σ τ υ : Type} {Sx : σ → τ → υ → Slots} {Mx : σ → τ → υ → Mem} {μ : σ → τ → υ → Nat} {I : σ → τ → υ → Prop} {m : Nat} (x : σ) (y : τ) (z : υ) (hI : I x y z) (hlt : μ x y z < m)
    (hSt : ∀ t v, look (Sx x y z) t = some v → look St t = some v) (hM : (Mx x y z).Sublist M) :
    At C St M (fun a' w' => ∃ x y z, I x y z ∧ μ x y z < m ∧ Holds C.n (Sx x y z) a' ∧ Inv C.w0 C.S (Mx x y z) w') :=
  fun _ _ ha hw => ⟨x, y, z, hI, hlt, ⟨ha.size, ha.defers, fun t v hv => ha.slot t v (hSt t v hv)⟩, hw.sub hM⟩
end

/-! ### Operations: what one gives, in any world that fits -/
def Yields (P : Program) (w0 : World) (S : List Nat) (R : Value → Mem → Prop) : Result Next → Prop
  | .ok (.value v) w' => ∃ M', R v M' ∧ Inv w0 S M' w'
  | .ok .skip w' => ∃ M', R undef M' ∧ Inv w0 S M' w'
  | .ok (.enter f args) w' => Calls P f args w' fun e w'' => ∃ v M', R v M' ∧ e = .returned v ∧ Inv w0 S M' w''
  | _ => False

def OpR (P : Program) (St : Slots) (M : Mem) (o : Oper) (R : Value → Mem → Prop) : Prop :=
  ∀ (ρ : Operand → Value) (w0 : World) (S : List Nat) (w : World), (∀ x v, evalS St x = some v → ρ x = v) → Inv w0 S M w → Yields P w0 S R ((execOp ρ o).run P w)

theorem Yields.upon {P : Program} {w0 : World} {S : List Nat} {R : Value → Mem → Prop} {r : Result Next} (h : Yields P w0 S R r) {o : Oper} {a : Act} {K : Act → World → Prop} {Q : Exit → Act → World → Prop}
    (k : ∀ v M' w', R v M' → Inv w0 S M' w' → K (a.put o.dst v) w') : o.upon P a K Q r := by
  match r, h with
  | .ok (.value v) w', ⟨M', hR, hI⟩ => exact k v M' w' hR hI
  | .ok .skip w', ⟨M', hR, hI⟩ => exact k _ M' w' hR hI
  | .ok (.enter f args) w', h =>
    refine Calls.mono (R := fun e w'' => ∃ v M', R v M' ∧ e = .returned v ∧ Inv w0 S M' w'') h ?_
    rintro e w'' ⟨v, M', hR, rfl, hI⟩
    exact k v M' w'' hR hI

theorem OpR.mono {P : Program} {St : Slots} {M : Mem} {o : Oper} {R R' : Value → Mem → Prop} (h : OpR P St M o R) (hr : ∀ v M', R v M' → R' v M') : OpR P St M o R' := by
  intro ρ w0 S w hρ hw
  have := h ρ w0 S w hρ hw
  generalize (execOp ρ o).run P w = r at *
  match r, this with
  | .ok (.value v) w', ⟨M', hR, hI⟩ => exact ⟨M', hr _ _ hR, hI⟩
  | .ok .skip w', ⟨M', hR, hI⟩ => exact ⟨M', hr _ _ hR, hI⟩
  | .ok (.enter f args) w', h =>
    exact Calls.mono (R := fun e w'' => ∃ v M', R v M' ∧ e = .returned v ∧ Inv w0 S M' w'') h (by rintro e w'' ⟨v, M', hR, rfl, hI⟩; exact ⟨v, M', hr _ _ hR, rfl, hI⟩)

/-- Is the operation wanted? some b: the guard is known. -/
def wantS (ops : List Oper) (St : Slots) (o : Oper) : Option Bool :=
  match o.guard with
  | none => some true
  | some (j, want) =>
    match (ops[j]?).bind Oper.dst with
    | none => some false
    | some d =>
      match look St d with
      | some (.bool b) => some (b == want)
      | some (.tuple _) => some false
      | _ => none

theorem wanted_of {n : Nat} {ops : List Oper} {St : Slots} {a : Act} {o : Oper} {b : Bool} (ha : Holds n St a) (h : wantS ops St o = some b) :
    Region.wanted o (yielded ops.toArray a.tmps) = b := by
  unfold wantS at h
  unfold Region.wanted yielded
  split at h
  · rename_i hg; rw [hg]; simpa using h
  · rename_i j want hg
    rw [hg]
    simp only [List.getElem?_toArray]
    split at h
    · rename_i hd
      simp only [hd, Option.bind_none]
      simp only [Option.some.injEq] at h
      subst h; rfl
    · rename_i d hd
      simp only [hd, Option.bind_some]
      split at h
      · rename_i b' hl
        rw [ha.slot _ _ hl]
        simp only [Option.some.injEq] at h
        subst h
        cases b' <;> cases want <;> rfl
      · rename_i vs hl
        rw [ha.slot _ _ hl]
        simp only [Option.some.injEq] at h
        subst h; rfl
      · simp at h

section
variable {C : Ctx} {St : Slots} {M : Mem} {Q : Exit → Act → World → Prop}

theorem at_region {id : Nat} {l : List Oper} (h : At C St M (wpList C.P l.toArray Q l)) : At C St M ((Code.region id l.toArray false).wp C.P Q) :=
  fun a w ha hw => wp_region_lit (h a w ha hw)
theorem at_nil {ops : Array Oper} (h : At C St M (Q .normal)) : At C St M (wpList C.P ops Q []) := h
theorem at_op {ops : List Oper} {o : Oper} {l : List Oper} {R : Value → Mem → Prop} (hg : wantS ops St o = some true) (hd : fits C.n o.dst = true) (h : OpR C.P St M o R)
    (k : ∀ v M', R v M' → At C (putS St o.dst v) M' (wpList C.P ops.toArray Q l)) : At C St M (wpList C.P ops.toArray Q (o :: l)) := by
  intro a w ha hw
  refine wpList_step fun K hK => ?_
  rw [if_pos (wanted_of ha hg)]
  exact Yields.upon (h _ _ _ _ (fun x v hx => ha.eval hx) hw) fun v M' w' hR hI => hK _ _ (k v M' hR _ _ (ha.put hd v) hI)
theorem at_op_skip {ops : List Oper} {o : Oper} {l : List Oper} (hg : wantS ops St o = some false) (hd : fits C.n o.dst = true)
    (k : At C (putS St o.dst undef) M (wpList C.P ops.toArray Q l)) : At C St M (wpList C.P ops.toArray Q (o :: l)) := by
  intro a w ha hw
  refine wpList_step fun K hK => ?_
  rw [if_neg (by rw [wanted_of ha hg]; decide)]
  exact hK _ _ (k _ _ (ha.put hd _) hw)
end
end Go.Proofs.Ytoagfplhcimghaa
