/- Eng, Draw, Ops, Num, Int, in one text. -/
import Derived.WalkKit
import Derived.Orders
import Derived.Laws.Externs
/- An engine of our own over the library's rules: blocks of memory that are followed by name, slots that are known, one rule for each form of code. -/
namespace Go.Proofs.YtjlhhcdefcofkaaGreatDoor
open Go

/-! ### Memory: the blocks that are followed -/
structure Blk where
  g : Nat
  T : TypeId
  cs : List Value

abbrev Mem := List Blk
def ids (M : Mem) : List Nat := M.map Blk.g

structure Has (M : Mem) (w : World) : Prop where
  at_ : ∀ b ∈ M, w.heap[b.g]? = some (.cells b.cs.toArray b.T (0, 0))
  nodup : (ids M).Nodup

structure Stp (S : List Nat) (w w' : World) : Prop where
  os : w'.os = w.os
  tape : w'.tape = w.tape
  output : w'.output = w.output
  size : w.heap.size ≤ w'.heap.size
  block : ∀ k, k < w.heap.size → k ∉ S → w'.heap[k]? = w.heap[k]?

theorem Stp.refl (S : List Nat) (w : World) : Stp S w w := ⟨rfl, rfl, rfl, Nat.le_refl _, fun _ _ _ => rfl⟩

structure Inv (w0 : World) (S : List Nat) (M : Mem) (w : World) : Prop where
  has : Has M w
  stp : Stp S w0 w
  own : ∀ b ∈ M, b.g ∈ S ∨ w0.heap.size ≤ b.g

theorem Inv.start {M : Mem} {w : World} (h : Has M w) : Inv w (ids M) M w :=
  ⟨h, .refl _ _, fun _ hb => .inl (List.mem_map_of_mem hb)⟩

theorem Has.lt {M : Mem} {w : World} (h : Has M w) {b : Blk} (hb : b ∈ M) : b.g < w.heap.size := by
  have := h.at_ b hb
  exact (Array.getElem?_eq_some_iff.1 this).1

theorem Inv.trans {w0 w w' : World} {S : List Nat} {M M' : Mem} (h : Inv w0 S M w) (k : Inv w (ids M) M' w') : Inv w0 S M' w' := by
  refine ⟨k.has, ⟨k.stp.os.trans h.stp.os, k.stp.tape.trans h.stp.tape, k.stp.output.trans h.stp.output, Nat.le_trans h.stp.size k.stp.size, fun j hj hS => ?_⟩, fun b hb => ?_⟩
  · refine (k.stp.block j (Nat.lt_of_lt_of_le hj h.stp.size) fun hm => ?_).trans (h.stp.block j hj hS)
    obtain ⟨b, hb, rfl⟩ := List.mem_map.1 hm
    rcases h.own b hb with h' | h'
    · exact hS h'
    · omega
  · rcases k.own b hb with h' | h'
    · obtain ⟨c, hc, he⟩ := List.mem_map.1 h'
      rw [← he]; exact h.own c hc
    · exact .inr (Nat.le_trans h.stp.size h')

theorem Inv.alloc {w0 w : World} {S : List Nat} {M : Mem} (h : Inv w0 S M w) (T : TypeId) (cs : List Value) :
    Inv w0 S (⟨w.heap.size, T, cs⟩ :: M) (w.alloc (.cells cs.toArray T)) := by
  refine ⟨⟨fun b hb => ?_, ?_⟩, ⟨h.stp.os, h.stp.tape, h.stp.output, by have := h.stp.size; simp; omega, fun k hk hS => ?_⟩, fun b hb => ?_⟩
  · rcases List.mem_cons.1 hb with rfl | hb
    · exact heap_alloc_new _ _
    · rw [heap_alloc_old _ _ (h.has.lt hb)]; exact h.has.at_ b hb
  · refine List.nodup_cons.2 ⟨fun hm => ?_, h.has.nodup⟩
    obtain ⟨b, hb, he⟩ := List.mem_map.1 hm
    have h1 := h.has.lt hb
    rw [he] at h1
    exact Nat.lt_irrefl _ h1
  · have := h.stp.size
    rw [heap_alloc_old _ _ (by omega)]; exact h.stp.block k hk hS
  · rcases List.mem_cons.1 hb with rfl | hb
    · exact .inr h.stp.size
    · exact h.own b hb

theorem Inv.drew {w0 w : World} {S : List Nat} {M : Mem} (h : Inv w0 S M w) : Inv w0 S M { w with drawn := w.drawn + 1 } :=
  ⟨⟨h.has.at_, h.has.nodup⟩, ⟨h.stp.os, h.stp.tape, h.stp.output, h.stp.size, h.stp.block⟩, h.own⟩

theorem ids_set {M : Mem} {i : Nat} {b : Blk} (hi : M[i]? = some b) (c : Blk) (hc : c.g = b.g) : ids (M.set i c) = ids M := by
  unfold ids
  apply List.ext_getElem?
  intro j
  simp only [List.getElem?_map, List.getElem?_set]
  by_cases e : i = j
  · subst e
    obtain ⟨h1, h2⟩ := List.getElem?_eq_some_iff.1 hi
    simp [h1, h2, hc]
  · simp [e]

theorem Has.uniq {M : Mem} {w : World} (h : Has M w) {i j : Nat} {b c : Blk} (hi : M[i]? = some b) (hj : M[j]? = some c) (he : b.g = c.g) : i = j := by
  have hn := h.nodup
  unfold ids at hn
  obtain ⟨h1, h2⟩ := List.getElem?_eq_some_iff.1 hi
  obtain ⟨h3, h4⟩ := List.getElem?_eq_some_iff.1 hj
  refine (List.getElem_inj (h₀ := by simpa using h1) (h₁ := by simpa using h3) hn).1 ?_
  simp [h2, h4, he]

theorem Inv.setRow {w0 w : World} {S : List Nat} {M : Mem} (h : Inv w0 S M w) {i : Nat} {b : Blk} (hi : M[i]? = some b) (cs : List Value) :
    Inv w0 S (M.set i ⟨b.g, b.T, cs⟩) (w.setRow b.g cs.toArray) := by
  have hb : b ∈ M := List.mem_of_getElem? hi
  have hg := h.has.at_ b hb
  refine ⟨⟨fun c hc => ?_, ?_⟩, ⟨h.stp.os, h.stp.tape, h.stp.output, by simpa using h.stp.size, fun k hk hS => ?_⟩, fun c hc => ?_⟩
  · obtain ⟨j, hj⟩ := List.getElem?_of_mem hc
    rw [List.getElem?_set] at hj
    by_cases e : i = j
    · subst e
      have hlt := (List.getElem?_eq_some_iff.1 hi).1
      simp [hlt] at hj
      subst hj
      exact setRow_heap w b.g _ cs.toArray b.T (0, 0) hg
    · simp [e] at hj
      have hne : c.g ≠ b.g := fun he => e (h.has.uniq hj hi he).symm
      rw [setRow_other _ _ _ _ hne]
      exact h.has.at_ c (List.mem_of_getElem? hj)
  · rw [ids_set hi ⟨b.g, b.T, cs⟩ rfl]; exact h.has.nodup
  · by_cases e : k = b.g
    · subst e
      rcases h.own b hb with h' | h'
      · exact absurd h' hS
      · omega
    · rw [setRow_other _ _ _ _ e]; exact h.stp.block k hk hS
  · obtain ⟨j, hj⟩ := List.getElem?_of_mem hc
    rw [List.getElem?_set] at hj
    by_cases e : i = j
    · subst e
      have hlt := (List.getElem?_eq_some_iff.1 hi).1
      simp [hlt] at hj
      subst hj
      exact h.own b hb
    · simp [e] at hj
      exact h.own c (List.mem_of_getElem? hj)

theorem Inv.sub {w0 w : World} {S : List Nat} {M M' : Mem} (h : Inv w0 S M w) (hs : M'.Sublist M) : Inv w0 S M' w :=
  ⟨⟨fun b hb => h.has.at_ b (hs.subset hb), h.has.nodup.sublist (hs.map _)⟩, h.stp, fun b hb => h.own b (hs.subset hb)⟩

/-! ### Slots -/
abbrev Slots := List (Nat × Value)
def look : Slots → Nat → Option Value
  | [], _ => none
  | (k, v) :: r, t => match Nat.beq k t with
    | true => some v
    | false => look r t

theorem look_cons_self (k : Nat) (v : Value) (r : Slots) : look ((k, v) :: r) k = some v := by
  show (match Nat.beq k k with | true => some v | false => look r k) = some v
  rw [Nat.beq_refl]
theorem look_cons_ne {k t : Nat} (v : Value) (r : Slots) (h : k ≠ t) : look ((k, v) :: r) t = look r t := by
  have hb : Nat.beq k t = false := by
    cases hh : Nat.beq k t
    · rfl
    · exact absurd (Nat.eq_of_beq_eq_true hh) h
  show (match Nat.beq k t with | true => some v | false => look r t) = look r t
  rw [hb]

def evalS (St : Slots) : Operand → Option Value
  | .tmp t => look St t
  | .const v => some v
  | .global g => some (.pointer (some ⟨g, 0, none⟩))
  | .func f => some (.func (.func f) #[] #[])

structure Holds (n : Nat) (St : Slots) (a : Act) : Prop where
  size : a.tmps.size = n
  defers : a.defers = []
  slot : ∀ t v, look St t = some v → a.tmps[t]? = some v

theorem Holds.eval {n : Nat} {St : Slots} {a : Act} (h : Holds n St a) {x : Operand} {v : Value} (hx : evalS St x = some v) : a.eval x = v := by
  cases x with
  | tmp t =>
    have := h.slot t v hx
    simp only [Act.eval, Array.getD_eq_getD_getElem?, this, Option.getD_some]
  | const u => exact Option.some.inj hx
  | global g => exact Option.some.inj hx
  | func f => exact Option.some.inj hx

def putS (St : Slots) (d : Option Tmp) (v : Value) : Slots :=
  match d with
  | some t => (t, v) :: St
  | none => St

def fits (n : Nat) (d : Option Tmp) : Bool :=
  match d with
  | some t => Nat.blt t n
  | none => true

theorem Holds.put {n : Nat} {St : Slots} {a : Act} (h : Holds n St a) {d : Option Tmp} (hd : fits n d = true) (v : Value) : Holds n (putS St d v) (a.put d v) := by
  cases d with
  | none => exact h
  | some t =>
    have ht : t < n := by simpa [fits, Nat.blt_eq] using hd
    refine ⟨by simpa [Act.put] using h.size, h.defers, fun s u hs => ?_⟩
    by_cases e : t = s
    · subst e
      rw [putS, look_cons_self] at hs
      simp only [Option.some.injEq] at hs
      subst hs
      simp [Act.put, h.size, ht]
    · rw [putS, look_cons_ne _ _ e] at hs
      simp only [Act.put, Array.getElem?_setIfInBounds_ne e]
      exact h.slot s u hs

/-! ### A state that is known, and the rules of code -/
structure Ctx where
  P : Program
  n : Nat
  w0 : World
  S : List Nat

def At (C : Ctx) (St : Slots) (M : Mem) (F : Act → World → Prop) : Prop :=
  ∀ a w, Holds C.n St a → Inv C.w0 C.S M w → F a w

section
variable {C : Ctx} {St : Slots} {M : Mem} {Q : Exit → Act → World → Prop}

theorem at_seq {x y : Code} (h : At C St M (x.wp C.P (Exit.then (y.wp C.P Q) Q))) : At C St M ((Code.seq x y).wp C.P Q) :=
  fun a w ha hw => wp_seq (h a w ha hw)
theorem at_skip (h : At C St M (Q .normal)) : At C St M (Code.skip.wp C.P Q) := fun a w ha hw => wp_skip (h a w ha hw)
theorem at_ret (h : At C St M (Q .ret)) : At C St M (Code.ret.wp C.P Q) := fun a w ha hw => wp_ret (h a w ha hw)
theorem at_exit {id : Nat} (h : At C St M (Q (.exit id))) : At C St M ((Code.exit id).wp C.P Q) := fun a w ha hw => wp_exit (h a w ha hw)
theorem at_block {id : Nat} {c : Code} (h : At C St M (c.wp C.P (Exit.inBlock id Q))) : At C St M ((Code.block id c).wp C.P Q) := fun a w ha hw => wp_block (h a w ha hw)
theorem at_cond {c : Operand} {x y : Code} {t : Bool} (hc : evalS St c = some (.bool t)) (h1 : t = true → At C St M (x.wp C.P Q)) (h2 : t = false → At C St M (y.wp C.P Q)) :
    At C St M ((Code.cond c x y).wp C.P Q) :=
  fun a w ha hw => wp_cond_split (ha.eval hc) (fun e => h1 e a w ha hw) (fun e => h2 e a w ha hw)
theorem at_cond_true {c : Operand} {x y : Code} (hc : evalS St c = some (.bool true)) (h : At C St M (x.wp C.P Q)) : At C St M ((Code.cond c x y).wp C.P Q) :=
  fun a w ha hw => wp_cond_true (ha.eval hc) (h a w ha hw)
theorem at_cond_false {c : Operand} {x y : Code} (hc : evalS St c = some (.bool false)) (h : At C St M (y.wp C.P Q)) : At C St M ((Code.cond c x y).wp C.P Q) :=
  fun a w ha hw => wp_cond_false (ha.eval hc) (h a w ha hw)
theorem at_then {K : Act → World → Prop} (h : At C St M K) : At C St M (Exit.then K Q .normal) := h
theorem at_inBlock_same {id : Nat} (h : At C St M (Q .normal)) : At C St M (Exit.inBlock id Q (.exit id)) := by
  intro a w ha hw
  simpa [Exit.inBlock] using h a w ha hw
theorem at_inBlock_ne {id id' : Nat} (hne : Nat.beq id' id = false) (h : At C St M (Q (.exit id'))) : At C St M (Exit.inBlock id Q (.exit id')) := by
  intro a w ha hw
  have : id' ≠ id := fun e => by subst e; simp [Nat.beq_refl] at hne
  simpa [Exit.inBlock, this] using h a w ha hw

/-- Forget slots, or keep just what a relation says. -/
theorem At.weaken {St' : Slots} {M' : Mem} {F : Act → World → Prop} (h : At C St' M' F) (hs : ∀ t v, look St' t = some v → look St t = some v) (hm : M'.Sublist M) : At C St M F :=
  fun a w ha hw => h a w ⟨ha.size, ha.defers, fun t v hv => ha.slot t v (hs t v hv)⟩ (hw.sub hm)

theorem least_ex (p : Nat → Prop) : ∀ n, p n → ∃ k, p k ∧ ∀ j, p j → k ≤ j := by
  intro n
  induction n using Nat.strongRecOn with
  | _ n ih =>
    intro hn
    by_cases h : ∃ m, m < n ∧ p m
    · obtain ⟨m, hm, hp⟩ := h
      exact ih m hm hp
    · refine ⟨n, hn, fun j hj => ?_⟩
      by_cases hlt : j < n
      · exact absurd ⟨j, hlt, hj⟩ h
      · omega

open Classical in
noncomputable def least (p : Nat → Prop) : Nat := if h : ∃ k, p k ∧ ∀ j, p j → k ≤ j then h.choose else 0
theorem least_spec {p : Nat → Prop} {n : Nat} (hn : p n) : p (least p) ∧ ∀ j, p j → least p ≤ j := by
  have h := least_ex p n hn
  unfold least
  rw [dif_pos h]
  exact h.choose_spec

/-- A loop: σ names what the rounds run over. -/
theorem at_loop {σ : Type} (Sx : σ → Slots) (Mx : σ → Mem) (μ : σ → Nat) (I : σ → Prop) {c : Code} (x0 : σ) (h0 : I x0)
    (hSt : ∀ t v, look (Sx x0) t = some v → look St t = some v) (hM : (Mx x0).Sublist M)
    (round : ∀ x, I x → At C (Sx x) (Mx x) (c.wp C.P (Exit.then (fun a' w' => ∃ y, I y ∧ μ y < μ x ∧ Holds C.n (Sx y) a' ∧ Inv C.w0 C.S (Mx y) w') Q))) :
    At C St M ((Code.loop c).wp C.P Q) := by
  intro a w ha hw
  let p : Act → World → Nat → Prop := fun a w k => ∃ x, μ x = k ∧ I x ∧ Holds C.n (Sx x) a ∧ Inv C.w0 C.S (Mx x) w
  refine wp_loop (fun a w => ∃ k, p a w k) (fun a w => least (p a w))
    ⟨_, x0, rfl, h0, ⟨ha.size, ha.defers, fun t v hv => ha.slot t v (hSt t v hv)⟩, hw.sub hM⟩ ?_
  rintro a w ⟨k, hk⟩
  obtain ⟨⟨x, hx, hI, hH, hV⟩, _⟩ := least_spec hk
  refine wp_mono (round x hI a w hH hV) fun e a' w' he => ?_
  cases e <;> simp only [Exit.then] at he ⊢ <;> first | exact he | skip
  obtain ⟨y, hyI, hlt, hyH, hyV⟩ := he
  have hp : p a' w' (μ y) := ⟨y, rfl, hyI, hyH, hyV⟩
  refine ⟨⟨_, hp⟩, ?_⟩
  have := (least_spec hp).2 _ hp
  omega
theorem at_loop2 {σ τ : Type} (Sx : σ → τ → Slots) (Mx : σ → τ → Mem) (μ : σ → τ → Nat) (I : σ → τ → Prop) {c : Code} (x0 : σ) (y0 : τ) (h0 : I x0 y0)
    (hSt : ∀ t v, look (Sx x0 y0) t = some v → look St t = some v) (hM : (Mx x0 y0).Sublist M)
    (round : ∀ x y, I x y → At C (Sx x y) (Mx x y) (c.wp C.P (Exit.then (fun a' w' => ∃ x' y', I x' y' ∧ μ x' y' < μ x y ∧ Holds C.n (Sx x' y') a' ∧ Inv C.w0 C.S (Mx x' y') w') Q))) :
    At C St M ((Code.loop c).wp C.P Q) :=
  at_loop (σ := σ × τ) (fun p => Sx p.1 p.2) (fun p => Mx p.1 p.2) (fun p => μ p.1 p.2) (fun p => I p.1 p.2) (x0, y0) h0 hSt hM fun ⟨x, y⟩ hI a w ha hw =>
    wp_mono (round x y hI a w ha hw) fun e a' w' he => by
      cases e <;> simp only [Exit.then] at he ⊢ <;> first | exact he | (obtain ⟨x', y', h⟩ := he; exact ⟨(x', y'), h⟩)
theorem at_loop3 {σ τ υ : Type} (Sx : σ → τ → υ → Slots) (Mx : σ → τ → υ → Mem) (μ : σ → τ → υ → Nat) (I : σ → τ → υ → Prop) {c : Code} (x0 : σ) (y0 : τ) (z0 : υ) (h0 : I x0 y0 z0)
    (hSt : ∀ t v, look (Sx x0 y0 z0) t = some v → look St t = some v) (hM : (Mx x0 y0 z0).Sublist M)
    (round : ∀ x y z, I x y z → At C (Sx x y z) (Mx x y z) (c.wp C.P (Exit.then (fun a' w' => ∃ x' y' z', I x' y' z' ∧ μ x' y' z' < μ x y z ∧ Holds C.n (Sx x' y' z') a' ∧ Inv C.w0 C.S (Mx x' y' z') w') Q))) :
    At C St M ((Code.loop c).wp C.P Q) :=
  at_loop2 (σ := σ × τ) (fun p => Sx p.1 p.2) (fun p => Mx p.1 p.2) (fun p => μ p.1 p.2) (fun p => I p.1 p.2) (x0, y0) z0 h0 hSt hM fun ⟨x, y⟩ z hI a w ha hw =>
    wp_mono (round x y z hI a w ha hw) fun e a' w' he => by
      cases e <;> simp only [Exit.then] at he ⊢ <;> first | exact he | (obtain ⟨x', y', z', h⟩ := he; exact ⟨(x', y'), z', h⟩)
/-- The end of a round. -/
theorem at_round {σ : Type} {Sx : σ → Slots} {Mx : σ → Mem} {μ : σ → Nat} {I : σ → Prop} {m : Nat} (y : σ) (hI : I y) (hlt : μ y < m)
    (hSt : ∀ t v, look (Sx y) t = some v → look St t = some v) (hM : (Mx y).Sublist M) :
    At C St M (fun a' w' => ∃ y, I y ∧ μ y < m ∧ Holds C.n (Sx y) a' ∧ Inv C.w0 C.S (Mx y) w') :=
  fun _ _ ha hw => ⟨y, hI, hlt, ⟨ha.size, ha.defers, fun t v hv => ha.slot t v (hSt t v hv)⟩, hw.sub hM⟩
theorem at_round2 {σ τ : Type} {Sx : σ → τ → Slots} {Mx : σ → τ → Mem} {μ : σ → τ → Nat} {I : σ → τ → Prop} {m : Nat} (x : σ) (y : τ) (hI : I x y) (hlt : μ x y < m)
    (hSt : ∀ t v, look (Sx x y) t = some v → look St t = some v) (hM : (Mx x y).Sublist M) :
    At C St M (fun a' w' => ∃ x y, I x y ∧ μ x y < m ∧ Holds C.n (Sx x y) a' ∧ Inv C.w0 C.S (Mx x y) w') :=
  fun _ _ ha hw => ⟨x, y, hI, hlt, ⟨ha.size, ha.defers, fun t v hv => ha.slot t v (hSt t v hv)⟩, hw.sub hM⟩
theorem at_round3 {σ τ υ : Type} {Sx : σ → τ → υ → Slots} {Mx : σ → τ → υ → Mem} {μ : σ → τ → υ → Nat} {I : σ → τ → υ → Prop} {m : Nat} (x : σ) (y : τ) (z : υ) (hI : I x y z) (hlt : μ x y z < m)
    (hSt : ∀ t v, look (Sx x y z) t = some v → look St t = some v) (hM : (Mx x y z).Sublist M) :
    At C St M (fun a' w' => ∃ x y z, I x y z ∧ μ x y z < m ∧ Holds C.n (Sx x y z) a' ∧ Inv C.w0 C.S (Mx x y z) w') :=
  fun _ _ ha hw => ⟨x, y, z, hI, hlt, ⟨ha.size, ha.defers, fun t v hv => ha.slot t v (hSt t v hv)⟩, hw.sub hM⟩
end

/-! ### Operations: what one gives, in any world that fits -/
def Yields (P : Program) (w0 : World) (S : List Nat) (R : Value → Mem → Prop) : Result Next → Prop
  | .ok (.value v) w' => ∃ M', R v M' ∧ Inv w0 S M' w'
  | .ok .skip w' => ∃ M', R undef M' ∧ Inv w0 S M' w'
  | .ok (.enter f args) w' => Calls P f args w' fun e w'' => ∃ v M', R v M' ∧ e = .returned v ∧ Inv w0 S M' w''
  | _ => False

def OpR (P : Program) (St : Slots) (M : Mem) (o : Oper) (R : Value → Mem → Prop) : Prop :=
  ∀ (ρ : Operand → Value) (w0 : World) (S : List Nat) (w : World), (∀ x v, evalS St x = some v → ρ x = v) → Inv w0 S M w → Yields P w0 S R ((execOp ρ o).run P w)

theorem Yields.upon {P : Program} {w0 : World} {S : List Nat} {R : Value → Mem → Prop} {r : Result Next} (h : Yields P w0 S R r) {o : Oper} {a : Act} {K : Act → World → Prop} {Q : Exit → Act → World → Prop}
    (k : ∀ v M' w', R v M' → Inv w0 S M' w' → K (a.put o.dst v) w') : o.upon P a K Q r := by
  match r, h with
  | .ok (.value v) w', ⟨M', hR, hI⟩ => exact k v M' w' hR hI
  | .ok .skip w', ⟨M', hR, hI⟩ => exact k _ M' w' hR hI
  | .ok (.enter f args) w', h =>
    refine Calls.mono (R := fun e w'' => ∃ v M', R v M' ∧ e = .returned v ∧ Inv w0 S M' w'') h ?_
    rintro e w'' ⟨v, M', hR, rfl, hI⟩
    exact k v M' w'' hR hI

theorem OpR.mono {P : Program} {St : Slots} {M : Mem} {o : Oper} {R R' : Value → Mem → Prop} (h : OpR P St M o R) (hr : ∀ v M', R v M' → R' v M') : OpR P St M o R' := by
  intro ρ w0 S w hρ hw
  have := h ρ w0 S w hρ hw
  generalize (execOp ρ o).run P w = r at *
  match r, this with
  | .ok (.value v) w', ⟨M', hR, hI⟩ => exact ⟨M', hr _ _ hR, hI⟩
  | .ok .skip w', ⟨M', hR, hI⟩ => exact ⟨M', hr _ _ hR, hI⟩
  | .ok (.enter f args) w', h =>
    exact Calls.mono (R := fun e w'' => ∃ v M', R v M' ∧ e = .returned v ∧ Inv w0 S M' w'') h (by rintro e w'' ⟨v, M', hR, rfl, hI⟩; exact ⟨v, M', hr _ _ hR, rfl, hI⟩)

/-- Is the operation wanted? some b: the guard is known. -/
def wantS (ops : List Oper) (St : Slots) (o : Oper) : Option Bool :=
  match o.guard with
  | none => some true
  | some (j, want) =>
    match (ops[j]?).bind Oper.dst with
    | none => some false
    | some d =>
      match look St d with
      | some (.bool b) => some (b == want)
      | some (.tuple _) => some false
      | _ => none

theorem wanted_of {n : Nat} {ops : List Oper} {St : Slots} {a : Act} {o : Oper} {b : Bool} (ha : Holds n St a) (h : wantS ops St o = some b) :
    Region.wanted o (yielded ops.toArray a.tmps) = b := by
  unfold wantS at h
  unfold Region.wanted yielded
  split at h
  · rename_i hg; rw [hg]; simpa using h
  · rename_i j want hg
    rw [hg]
    simp only [List.getElem?_toArray]
    split at h
    · rename_i hd
      simp only [hd, Option.bind_none]
      simp only [Option.some.injEq] at h
      subst h; rfl
    · rename_i d hd
      simp only [hd, Option.bind_some]
      split at h
      · rename_i b' hl
        rw [ha.slot _ _ hl]
        simp only [Option.some.injEq] at h
        subst h
        cases b' <;> cases want <;> rfl
      · rename_i vs hl
        rw [ha.slot _ _ hl]
        simp only [Option.some.injEq] at h
        subst h; rfl
      · simp at h

section
variable {C : Ctx} {St : Slots} {M : Mem} {Q : Exit → Act → World → Prop}

theorem at_region {id : Nat} {l : List Oper} (h : At C St M (wpList C.P l.toArray Q l)) : At C St M ((Code.region id l.toArray false).wp C.P Q) :=
  fun a w ha hw => wp_region_lit (h a w ha hw)
theorem at_nil {ops : Array Oper} (h : At C St M (Q .normal)) : At C St M (wpList C.P ops Q []) := h
theorem at_op {ops : List Oper} {o : Oper} {l : List Oper} {R : Value → Mem → Prop} (hg : wantS ops St o = some true) (hd : fits C.n o.dst = true) (h : OpR C.P St M o R)
    (k : ∀ v M', R v M' → At C (putS St o.dst v) M' (wpList C.P ops.toArray Q l)) : At C St M (wpList C.P ops.toArray Q (o :: l)) := by
  intro a w ha hw
  refine wpList_step fun K hK => ?_
  rw [if_pos (wanted_of ha hg)]
  exact Yields.upon (h _ _ _ _ (fun x v hx => ha.eval hx) hw) fun v M' w' hR hI => hK _ _ (k v M' hR _ _ (ha.put hd v) hI)
theorem at_op_skip {ops : List Oper} {o : Oper} {l : List Oper} (hg : wantS ops St o = some false) (hd : fits C.n o.dst = true)
    (k : At C (putS St o.dst undef) M (wpList C.P ops.toArray Q l)) : At C St M (wpList C.P ops.toArray Q (o :: l)) := by
  intro a w ha hw
  refine wpList_step fun K hK => ?_
  rw [if_neg (by rw [wanted_of ha hg]; decide)]
  exact hK _ _ (k _ _ (ha.put hd _) hw)
end
end Go.Proofs.YtjlhhcdefcofkaaGreatDoor

/- A region whose order is drawn: where each operation gives one value in whatever order, the text's own order serves. -/
namespace Go.Proofs.YtjlhhcdefcofkaaGreatDoor
open Go

def aft (o : Oper) : List Nat := (o.after.toList.filter (Region.binds .any)).map (·.on)
def addAll : List Nat → List Nat → List Nat
  | [], acc => acc
  | j :: r, acc => if acc.elem j then addAll r acc else addAll r (j :: acc)
def allOf (acc : List (List Nat)) : List Nat → List Nat → List Nat
  | [], s => s
  | j :: r, s => allOf acc r (addAll (j :: acc.getD j []) s)
def befs : List Oper → List (List Nat) → List (List Nat)
  | [], acc => acc
  | o :: r, acc => befs r (acc ++ [allOf acc (aft o) []])
def guardSlot (l : List Oper) (o : Oper) : List Nat :=
  match o.guard with
  | none => []
  | some (j, _) => ((l[j]?).bind Oper.dst).toList
def tmpsOf : List Operand → List Nat
  | [] => []
  | .tmp t :: r => t :: tmpsOf r
  | _ :: r => tmpsOf r
def reads (l : List Oper) (o : Oper) : List Nat := guardSlot l o ++ tmpsOf o.op.operands.toList
def noTwice : List Nat → Bool
  | [] => true
  | x :: r => !r.elem x && noTwice r
def isSelect : Op → Bool
  | .select .. => true
  | _ => false
def opOk (l : List Oper) (B : List (List Nat)) (i : Nat) (o : Oper) : Bool :=
  !isSelect o.op && (aft o).all (fun j => Nat.blt j i) && (reads l o).all fun t => (List.range l.length).all fun k =>
    match (l[k]?).bind Oper.dst with
    | none => true
    | some d => if Nat.beq d t then (if Nat.blt k i then (B.getD i []).elem k else if Nat.blt i k then (B.getD k []).elem i else true) else true
def drawOk (l : List Oper) : Bool :=
  noTwice (l.filterMap Oper.dst) && (List.range l.length).all fun i => match l[i]? with | none => true | some o => opOk l (befs l []) i o
def lastOk (l : List Oper) : Bool := (List.range (l.length - 1)).all fun i => ((befs l []).getD (l.length - 1) []).elem i

theorem mem_addAll {j : Nat} : ∀ (r acc : List Nat), j ∈ addAll r acc → j ∈ r ∨ j ∈ acc
  | [], acc, h => .inr h
  | x :: r, acc, h => by
    unfold addAll at h
    split at h
    · rcases mem_addAll r acc h with h | h
      · exact .inl (List.mem_cons_of_mem _ h)
      · exact .inr h
    · rcases mem_addAll r (x :: acc) h with h | h
      · exact .inl (List.mem_cons_of_mem _ h)
      · rcases List.mem_cons.1 h with rfl | h
        · exact .inl (List.mem_cons_self ..)
        · exact .inr h
theorem mem_allOf {j : Nat} (acc : List (List Nat)) : ∀ (r s : List Nat), j ∈ allOf acc r s → (∃ k ∈ r, j = k ∨ j ∈ acc.getD k []) ∨ j ∈ s
  | [], s, h => .inr h
  | x :: r, s, h => by
    rcases mem_allOf acc r _ h with ⟨k, hk, h⟩ | h
    · exact .inl ⟨k, List.mem_cons_of_mem _ hk, h⟩
    · rcases mem_addAll _ _ h with h | h
      · rcases List.mem_cons.1 h with rfl | h
        · exact .inl ⟨_, List.mem_cons_self .., .inl rfl⟩
        · exact .inl ⟨x, List.mem_cons_self .., .inr h⟩
      · exact .inr h

def Closed (l : List Oper) (L : Nat → Bool) : Prop := ∀ i o, l[i]? = some o → L i = true → ∀ j ∈ aft o, L j = true

theorem befs_closed {l : List Oper} {L : Nat → Bool} (hL : Closed l L) : ∀ (r pre : List Oper) (acc : List (List Nat)), l = pre ++ r → acc.length = pre.length →
    (∀ i j, j ∈ acc.getD i [] → L i = true → L j = true) → ∀ i j, j ∈ (befs r acc).getD i [] → L i = true → L j = true
  | [], _, acc, _, _, h => h
  | o :: r, pre, acc, hl, hlen, h => by
    have hl' : l = (pre ++ [o]) ++ r := by simp [hl]
    refine befs_closed hL r (pre ++ [o]) _ hl' (by simp [hlen]) ?_
    intro i j hj hi
    rw [List.getD_eq_getElem?_getD, List.getElem?_append] at hj
    by_cases hlt : i < acc.length
    · rw [if_pos hlt] at hj
      exact h i j (by rw [List.getD_eq_getElem?_getD]; exact hj) hi
    · rw [if_neg hlt] at hj
      by_cases he : i - acc.length = 0
      · rw [he] at hj
        simp only [List.getElem?_cons_zero, Option.getD_some] at hj
        have hio : l[i]? = some o := by
          have : i = pre.length := by omega
          rw [hl, this]; simp
        rcases mem_allOf _ _ _ hj with ⟨k, hk, rfl | hm⟩ | hm
        · exact hL i o hio hi _ hk
        · exact h k j hm (hL i o hio hi _ hk)
        · simp at hm
      · obtain ⟨m, hm⟩ := Nat.exists_eq_succ_of_ne_zero he
        rw [hm] at hj
        simp at hj

theorem noTwice_spec : ∀ (r : List Nat), noTwice r = true → r.Nodup
  | [], _ => List.nodup_nil
  | x :: r, h => by
    simp only [noTwice, Bool.and_eq_true, Bool.not_eq_true'] at h
    exact List.nodup_cons.2 ⟨fun hm => by simp [hm] at h, noTwice_spec r h.2⟩

theorem dst_inj : ∀ (l : List Oper), (l.filterMap Oper.dst).Nodup → ∀ (i j : Nat) (d : Tmp), (l[i]?).bind Oper.dst = some d → (l[j]?).bind Oper.dst = some d → i = j
  | [], _, i, j, d, hi, _ => by simp at hi
  | o :: l, hn, i, j, d, hi, hj => by
    have hn' : (l.filterMap Oper.dst).Nodup := by
      rw [List.filterMap_cons] at hn
      split at hn
      · exact hn
      · exact (List.nodup_cons.1 hn).2
    have hmem : ∀ k : Nat, (l[k]?).bind Oper.dst = some d → d ∈ l.filterMap Oper.dst := by
      intro k hk
      obtain ⟨o', ho', hd⟩ := Option.bind_eq_some_iff.1 hk
      exact List.mem_filterMap.2 ⟨o', List.mem_of_getElem? ho', hd⟩
    have hhead : o.dst = some d → d ∉ l.filterMap Oper.dst := by
      intro ho
      rw [List.filterMap_cons, ho] at hn
      exact (List.nodup_cons.1 hn).1
    cases i with
    | zero =>
      cases j with
      | zero => rfl
      | succ j =>
        simp only [List.getElem?_cons_zero, Option.bind_some] at hi
        simp only [List.getElem?_cons_succ] at hj
        exact absurd (hmem j hj) (hhead hi)
    | succ i =>
      simp only [List.getElem?_cons_succ] at hi
      cases j with
      | zero =>
        simp only [List.getElem?_cons_zero, Option.bind_some] at hj
        exact absurd (hmem i hi) (hhead hj)
      | succ j =>
        simp only [List.getElem?_cons_succ] at hj
        rw [dst_inj l hn' i j d hi hj]

def slotsAt (St : Slots) (l : List Oper) (vs : List Value) : Nat → Slots
  | 0 => St
  | i + 1 => putS (slotsAt St l vs i) ((l[i]?).bind Oper.dst) (vs.getD i undef)

theorem look_putS_ne {St : Slots} {d : Option Tmp} {v : Value} {t : Nat} (h : d ≠ some t) : look (putS St d v) t = look St t := by
  cases d with
  | none => rfl
  | some k => exact look_cons_ne _ _ (fun e => h (by rw [e]))
theorem look_slotsAt_none {St : Slots} {l : List Oper} {vs : List Value} {t : Nat} : ∀ i, (∀ j, j < i → (l[j]?).bind Oper.dst ≠ some t) → look (slotsAt St l vs i) t = look St t
  | 0, _ => rfl
  | i + 1, h => by
    rw [slotsAt, look_putS_ne (h i (Nat.lt_succ_self _))]
    exact look_slotsAt_none i fun j hj => h j (Nat.lt_succ_of_lt hj)
theorem look_slotsAt_some {St : Slots} {l : List Oper} {vs : List Value} {t k : Nat} (hn : (l.filterMap Oper.dst).Nodup) (hk : (l[k]?).bind Oper.dst = some t) :
    ∀ i, k < i → look (slotsAt St l vs i) t = some (vs.getD k undef)
  | 0, h => absurd h (Nat.not_lt_zero _)
  | i + 1, h => by
    by_cases e : k = i
    · subst e
      rw [slotsAt, hk]
      exact look_cons_self _ _ _
    · rw [slotsAt, look_putS_ne (fun hd => e (dst_inj l hn _ _ _ hk hd))]
      exact look_slotsAt_some hn hk i (by omega)

structure Cons (n : Nat) (St : Slots) (l : List Oper) (vs : List Value) (L : Nat → Bool) (a : Act) : Prop where
  size : a.tmps.size = n
  defers : a.defers = []
  old : ∀ t v, (∀ k : Nat, (l[k]?).bind Oper.dst = some t → L k = false) → look St t = some v → a.tmps[t]? = some v
  new : ∀ t k, (l[k]?).bind Oper.dst = some t → L k = true → a.tmps[t]? = some (vs.getD k undef)

def OpG (C : Ctx) (ops : List Oper) (St : Slots) (M : Mem) (o : Oper) (v : Value) (M' : Mem) : Prop :=
  fits C.n o.dst = true ∧ ((wantS ops St o = some true ∧ OpR C.P St M o (fun v' M'' => v' = v ∧ M'' = M')) ∨ (wantS ops St o = some false ∧ v = undef ∧ M' = M))

theorem wanted_of' {ops : List Oper} {St : Slots} {a : Act} {o : Oper} {b : Bool} (ha : ∀ d ∈ guardSlot ops o, ∀ v, look St d = some v → a.tmps[d]? = some v) (h : wantS ops St o = some b) :
    Region.wanted o (yielded ops.toArray a.tmps) = b := by
  unfold wantS at h
  unfold Region.wanted yielded
  split at h
  · rename_i hg; rw [hg]; simpa using h
  · rename_i j want hg
    rw [hg]
    simp only [List.getElem?_toArray]
    split at h
    · rename_i hd
      simp only [hd, Option.bind_none]
      simp only [Option.some.injEq] at h
      subst h; rfl
    · rename_i d hd
      have hm : d ∈ guardSlot ops o := by simp [guardSlot, hg, hd]
      simp only [hd, Option.bind_some]
      split at h
      · rename_i b' hl
        rw [ha d hm _ hl]
        simp only [Option.some.injEq] at h
        subst h
        cases b' <;> cases want <;> rfl
      · rename_i vs hl
        rw [ha d hm _ hl]
        simp only [Option.some.injEq] at h
        subst h; rfl
      · simp at h

theorem mem_tmpsOf {t : Nat} : ∀ (r : List Operand), Operand.tmp t ∈ r → t ∈ tmpsOf r
  | [], h => by simp at h
  | x :: r, h => by
    rcases List.mem_cons.1 h with rfl | h
    · exact List.mem_cons_self ..
    · have := mem_tmpsOf r h
      cases x <;> simp [tmpsOf, this]

section
variable {C : Ctx} {Q : Exit → Act → World → Prop} {St : Slots} {M M' : Mem} {l : List Oper} {vs : List Value}

/-- What an operation that may come up now reads is what the text's order says. -/
theorem Cons.reads (hok : drawOk l = true) {L : Nat → Bool} {a : Act} (ha : Cons C.n St l vs L a) (hL : Closed l L) {i : Nat} {o : Oper} (hi : l[i]? = some o) (hLi : L i = false)
    (hr : ∀ j ∈ aft o, L j = true) {t : Nat} (ht : t ∈ reads l o) {v : Value} (hv : look (slotsAt St l vs i) t = some v) : a.tmps[t]? = some v := by
  simp only [drawOk, Bool.and_eq_true, List.all_eq_true, List.mem_range] at hok
  obtain ⟨hnd, hall⟩ := hok
  have hn := noTwice_spec _ hnd
  have hil : i < l.length := (List.getElem?_eq_some_iff.1 hi).1
  have h1 := hall i hil
  rw [hi] at h1
  simp only [opOk, Bool.and_eq_true, List.all_eq_true, List.mem_range] at h1
  have h2 := h1.2 t ht
  have hL' : Closed l (fun k => if k = i then true else L k) := by
    intro k o' hk hk' j hj
    by_cases e : k = i
    · subst e
      rw [hi] at hk
      cases hk
      have := hr j hj
      simp [this]
    · simp only [e, if_false] at hk'
      have := hL k o' hk hk' j hj
      simp [this]
  have hb : ∀ (L : Nat → Bool), Closed l L → ∀ i j, j ∈ (befs l []).getD i [] → L i = true → L j = true :=
    fun L hL => befs_closed hL l [] [] rfl rfl (by simp)
  by_cases hex : ∃ k : Nat, (l[k]?).bind Oper.dst = some t
  · obtain ⟨k, hk⟩ := hex
    have hkl : k < l.length := by
      obtain ⟨o', ho', _⟩ := Option.bind_eq_some_iff.1 hk
      exact (List.getElem?_eq_some_iff.1 ho').1
    have h3 := h2 k hkl
    rw [hk] at h3
    simp only [Nat.beq_refl, if_true] at h3
    by_cases hlt : k < i
    · have hb1 : Nat.blt k i = true := by simpa [Nat.blt_eq] using hlt
      rw [hb1] at h3
      simp only [if_true, List.elem_eq_mem, decide_eq_true_eq] at h3
      have := hb _ hL' i k h3 (by simp)
      simp only [Nat.ne_of_lt hlt, if_false] at this
      rw [ha.new t k hk this]
      rw [look_slotsAt_some hn hk i hlt] at hv
      exact hv
    · rw [look_slotsAt_none i (fun j hj e => by have := dst_inj l hn _ _ _ hk e; omega)] at hv
      refine ha.old t v (fun k' hk' => ?_) hv
      have hkk := dst_inj l hn _ _ _ hk hk'
      subst hkk
      by_cases e : k = i
      · subst e; exact hLi
      · have hb1 : Nat.blt k i = false := by
          cases hh : Nat.blt k i
          · rfl
          · simp [Nat.blt_eq] at hh; omega
        have hb2 : Nat.blt i k = true := by simp [Nat.blt_eq]; omega
        rw [hb1, hb2] at h3
        simp only [Bool.false_eq_true, if_false, if_true, List.elem_eq_mem, decide_eq_true_eq] at h3
        cases hLk : L k
        · rfl
        · have := hb L hL k i h3 hLk
          rw [hLi] at this
          exact absurd this (by decide)
  · rw [look_slotsAt_none i (fun j _ e => hex ⟨j, e⟩)] at hv
    exact ha.old t v (fun k hk => absurd ⟨k, hk⟩ hex) hv

theorem Cons.put {L : Nat → Bool} {a : Act} (hn : (l.filterMap Oper.dst).Nodup) (ha : Cons C.n St l vs L a) {i : Nat} {o : Oper} (hi : l[i]? = some o) (hf : fits C.n o.dst = true) :
    Cons C.n St l vs (fun k => if k = i then true else L k) (a.put o.dst (vs.getD i undef)) := by
  have hdi : (l[i]?).bind Oper.dst = o.dst := by rw [hi]; rfl
  cases hd : o.dst with
  | none =>
    refine ⟨ha.size, ha.defers, fun t v h => ha.old t v fun k hk => ?_, fun t k hk hLk => ?_⟩
    · have := h k hk
      by_cases e : k = i
      · subst e; simp at this
      · simpa [e] using this
    · by_cases e : k = i
      · subst e
        rw [hdi, hd] at hk
        simp at hk
      · simp only [e, if_false] at hLk
        exact ha.new t k hk hLk
  | some d =>
    have ht : d < C.n := by rw [hd] at hf; simpa [fits, Nat.blt_eq] using hf
    refine ⟨by simpa [Act.put] using ha.size, ha.defers, fun t v h hv => ?_, fun t k hk hLk => ?_⟩
    · have hne : d ≠ t := by
        intro e
        subst e
        have := h i (by rw [hdi, hd])
        simp at this
      simp only [Act.put, Array.getElem?_setIfInBounds_ne hne]
      refine ha.old t v (fun k hk => ?_) hv
      have := h k hk
      by_cases e : k = i
      · subst e; simp at this
      · simpa [e] using this
    · by_cases e : d = t
      · subst e
        have hki : k = i := dst_inj l hn _ _ _ hk (by rw [hdi, hd])
        subst hki
        simp [Act.put, ha.size, ht]
      · simp only [Act.put, Array.getElem?_setIfInBounds_ne e]
        refine ha.new t k hk ?_
        by_cases e' : k = i
        · subst e'
          rw [hdi, hd] at hk
          simp only [Option.some.injEq] at hk
          exact absurd hk e
        · simpa [e'] using hLk

theorem countFalse_set : ∀ (m : List Bool) (i : Nat), m[i]? = some false → (m.set i true).count false + 1 = m.count false
  | [], i, h => by simp at h
  | b :: m, 0, h => by
    simp only [List.getElem?_cons_zero, Option.some.injEq] at h
    subst h
    simp
  | b :: m, i + 1, h => by
    simp only [List.getElem?_cons_succ] at h
    have := countFalse_set m i h
    simp only [List.set_cons_succ, List.count_cons]
    omega

/-- In whatever order: the text's order serves. M' is what the last operation makes of M; where that is another memory, all others come ahead of it. -/
theorem at_draw_vs {id : Nat} (hm : C.P.follows .mixedOrders = true) (hok : drawOk l = true) (hlast : M' = M ∨ lastOk l = true)
    (hop : ∀ i o, l[i]? = some o → OpG C l (slotsAt St l vs i) M o (vs.getD i undef) (if i + 1 = l.length then M' else M))
    (hnil : l ≠ [])
    (k : At C (slotsAt St l vs l.length) M' (Q .normal)) : At C St M ((Code.region id l.toArray true).wp C.P Q) := by
  intro a w ha hw
  have hok' := hok
  simp only [drawOk, Bool.and_eq_true, List.all_eq_true, List.mem_range] at hok'
  have hn := noTwice_spec _ hok'.1
  have hb : ∀ (L : Nat → Bool), Closed l L → ∀ i j, j ∈ (befs l []).getD i [] → L i = true → L j = true :=
    fun L hL => befs_closed hL l [] [] rfl rfl (by simp)
  have hpos : 0 < l.length := List.length_pos_iff.2 hnil
  refine wp_region_any hm ?_
  -- all that holds at a state
  have key : ∀ (fuel : Nat) (listed : Array Bool) (a : Act) (w : World), listed.size = l.length → listed.toList.count false ≤ fuel →
      Closed l (fun i => listed.getD i false) → Cons C.n St l vs (fun i => listed.getD i false) a →
      Inv C.w0 C.S (if listed.getD (l.length - 1) false then M' else M) w → wpAny C.P .any l.toArray Q fuel listed a w := by
    have allL : ∀ (listed : Array Bool), listed.size = l.length → Region.ready .any l.toArray listed = [] → ∀ i, i < l.length → listed.getD i false = true := by
      intro listed hsz hr i
      induction i using Nat.strongRecOn with
      | _ i ih =>
        intro hi
        by_cases hLi : listed.getD i false = true
        · exact hLi
        · exfalso
          have : i ∈ Region.ready .any l.toArray listed := by
            simp only [Region.ready, List.mem_filter, List.mem_range, Bool.and_eq_true, List.size_toArray]
            refine ⟨hi, ?_, ?_⟩
            · have hsz' : i < listed.size := by omega
              simp only [Array.getD_eq_getD_getElem?, Array.getElem?_eq_getElem hsz', Option.getD_some] at hLi ⊢
              simpa using hLi
            · simp only [List.getElem?_toArray, List.getElem?_eq_getElem hi, Option.map_some, Option.getD_some, Array.all_eq_true']
              intro e he
              by_cases hbi : Region.binds .any e = true
              · have hmem : e.on ∈ aft l[i] := by
                  simp only [aft, List.mem_map, List.mem_filter]
                  exact ⟨e, ⟨by simpa using he, hbi⟩, rfl⟩
                have h1 := hok'.2 i hi
                rw [List.getElem?_eq_getElem hi] at h1
                simp only [opOk, Bool.and_eq_true, List.all_eq_true] at h1
                have hlt : e.on < i := by simpa [Nat.blt_eq] using h1.1.2 _ hmem
                have := ih e.on hlt (by omega)
                simp [this]
              · simp [hbi]
          rw [hr] at this
          simp at this
    have fin : ∀ (listed : Array Bool) (a : Act) (w : World), listed.size = l.length → Region.ready .any l.toArray listed = [] →
        Cons C.n St l vs (fun i => listed.getD i false) a → Inv C.w0 C.S (if listed.getD (l.length - 1) false then M' else M) w → Q .normal a w := by
      intro listed a w hsz hr hc hi
      have hal := allL listed hsz hr
      rw [hal (l.length - 1) (by omega)] at hi
      refine k a w ⟨hc.size, hc.defers, fun t v hv => ?_⟩ (by simpa using hi)
      by_cases hex : ∃ k : Nat, (l[k]?).bind Oper.dst = some t
      · obtain ⟨k, hk⟩ := hex
        have hkl : k < l.length := by
          obtain ⟨o', ho', _⟩ := Option.bind_eq_some_iff.1 hk
          exact (List.getElem?_eq_some_iff.1 ho').1
        rw [look_slotsAt_some hn hk _ hkl] at hv
        rw [hc.new t k hk (hal k hkl)]
        exact hv
      · rw [look_slotsAt_none _ (fun j _ e => hex ⟨j, e⟩)] at hv
        exact hc.old t v (fun k hk => absurd ⟨k, hk⟩ hex) hv
    intro fuel
    induction fuel with
    | zero =>
      intro listed a w hsz hcnt hcl hc hi
      have hr : Region.ready .any l.toArray listed = [] := by
        rw [List.eq_nil_iff_forall_not_mem]
        intro i him
        simp only [Region.ready, List.mem_filter, List.mem_range, Bool.and_eq_true, List.size_toArray, Bool.not_eq_true'] at him
        have hsz' : i < listed.size := by omega
        have h0 := him.2.1
        simp only [Array.getD_eq_getD_getElem?, Array.getElem?_eq_getElem hsz', Option.getD_some] at h0
        have : false ∈ listed.toList := by rw [← h0]; simp
        have := List.count_pos_iff.2 this
        omega
      exact ⟨hr, fin listed a w hsz hr hc hi⟩
    | succ fuel ih =>
      intro listed a w hsz hcnt hcl hc hi
      refine ⟨fun hr => fin listed a w hsz hr hc hi, fun i him => ?_⟩
      simp only [Region.ready, List.mem_filter, List.mem_range, Bool.and_eq_true, List.size_toArray, Bool.not_eq_true'] at him
      obtain ⟨hil, hun, hall⟩ := him
      have hsz' : i < listed.size := by omega
      have hLi : listed.getD i false = false := by
        simp only [Array.getD_eq_getD_getElem?, Array.getElem?_eq_getElem hsz', Option.getD_some] at hun ⊢
        exact hun
      have hio : l[i]? = some l[i] := List.getElem?_eq_getElem hil
      have hr : ∀ j ∈ aft l[i], listed.getD j false = true := by
        intro j hj
        simp only [List.getElem?_toArray, hio, Option.map_some, Option.getD_some, Array.all_eq_true'] at hall
        simp only [aft, List.mem_map, List.mem_filter] at hj
        obtain ⟨e, ⟨he, hbi⟩, rfl⟩ := hj
        have := hall e (by simpa using he)
        simpa [hbi] using this
      obtain ⟨hf, hg⟩ := hop i l[i] hio
      have hread : ∀ t ∈ reads l l[i], ∀ v, look (slotsAt St l vs i) t = some v → a.tmps[t]? = some v :=
        fun t ht v hv => hc.reads hok hcl hio hLi hr ht hv
      have hgs : ∀ d ∈ guardSlot l l[i], ∀ v, look (slotsAt St l vs i) d = some v → a.tmps[d]? = some v :=
        fun d hd => hread d (List.mem_append_left _ hd)
      have hM : (if listed.getD (l.length - 1) false then M' else M) = M := by
        rcases hlast with h | h
        · simp [h]
        · by_cases hi1 : i = l.length - 1
          · rw [← hi1, hLi]; simp
          · simp only [lastOk, List.all_eq_true, List.mem_range, List.elem_eq_mem, decide_eq_true_eq] at h
            have h1 := h i (by omega)
            cases hl1 : listed.getD (l.length - 1) false
            · simp
            · have := hb _ hcl _ _ h1 hl1
              rw [hLi] at this
              exact absurd this (by decide)
      have hL1 : ∀ j, (listed.setIfInBounds i true).getD j false = if j = i then true else listed.getD j false := by
        intro j
        simp only [Array.getD_eq_getD_getElem?]
        by_cases e : j = i
        · subst e; simp [hsz']
        · simp [e, Array.getElem?_setIfInBounds_ne (Ne.symm e)]
      have hM1 : (if (listed.setIfInBounds i true).getD (l.length - 1) false then M' else M) = (if i + 1 = l.length then M' else M) := by
        rw [hL1]
        by_cases e : l.length - 1 = i
        · have e' : i + 1 = l.length := by omega
          simp [e, e']
        · have e' : ¬ i + 1 = l.length := by omega
          simp only [e, e', if_false]
          exact hM
      have hcl1 : Closed l (fun j => (listed.setIfInBounds i true).getD j false) := by
        intro j o' hj hj' m hm
        simp only [hL1] at hj' ⊢
        by_cases e : j = i
        · subst e
          rw [hio] at hj
          cases hj
          simp [hr m hm]
        · simp only [e, if_false] at hj'
          simp [hcl j o' hj hj' m hm]
      have next : ∀ w', Inv C.w0 C.S (if i + 1 = l.length then M' else M) w' → wpAny C.P .any l.toArray Q fuel (listed.setIfInBounds i true) (a.put l[i].dst (vs.getD i undef)) w' := by
        intro w' hw'
        have hcount : (listed.setIfInBounds i true).toList.count false ≤ fuel := by
          have h0 : listed.toList[i]? = some false := by
            simp only [Array.getElem?_toList]
            simp only [Array.getD_eq_getD_getElem?, Array.getElem?_eq_getElem hsz', Option.getD_some] at hLi
            rw [Array.getElem?_eq_getElem hsz', hLi]
          have := countFalse_set _ _ h0
          simp only [Array.toList_setIfInBounds]
          omega
        refine ih _ _ _ (by simpa using hsz) hcount hcl1 ?_ (by rw [hM1]; exact hw')
        have := hc.put hn hio hf
        have e : (fun j => (listed.setIfInBounds i true).getD j false) = (fun k => if k = i then true else listed.getD k false) := funext hL1
        rw [e]; exact this
      rw [hM] at hi
      unfold wpOp
      simp only [List.getElem?_toArray, hio]
      rcases hg with ⟨hwant, hopr⟩ | ⟨hwant, hv, hMM⟩
      · rw [if_pos (wanted_of' hgs hwant)]
        left
        let ρ : Operand → Value := fun x => (evalS (slotsAt St l vs i) x).getD (a.eval x)
        have hρ : ∀ x v, evalS (slotsAt St l vs i) x = some v → ρ x = v := by
          intro x v hx
          simp only [ρ, hx, Option.getD_some]
        have hsel : ∀ cs b, l[i].op ≠ .select cs b := by
          intro cs b e
          have h1 := hok'.2 i hil
          rw [hio] at h1
          simp only [opOk, Bool.and_eq_true] at h1
          rw [e] at h1
          simp [isSelect] at h1
        have hcongr : execOp a.eval l[i] = execOp ρ l[i] := by
          refine execOp_congr _ hsel fun x hx => ?_
          simp only [ρ]
          cases hx' : evalS (slotsAt St l vs i) x with
          | none => rfl
          | some v =>
            simp only [Option.getD_some]
            cases x with
            | tmp t =>
              have ht : t ∈ reads l l[i] := List.mem_append_right _ (mem_tmpsOf _ (by simpa using hx))
              have := hread t ht v hx'
              simp only [Act.eval, Array.getD_eq_getD_getElem?, this, Option.getD_some]
            | const u => exact Option.some.inj hx'
            | global g => exact Option.some.inj hx'
            | func f => exact Option.some.inj hx'
        unfold Oper.wp
        rw [hcongr]
        refine Yields.upon (hopr ρ C.w0 C.S w hρ hi) ?_
        rintro v M1 w' ⟨rfl, rfl⟩ hw'
        exact next w' hw'
      · rw [if_neg (by rw [wanted_of' hgs hwant]; decide)]
        rw [hv] at next
        refine next w ?_
        rw [hMM]; exact hi
  refine key _ _ _ _ (by simp) ?_ ?_ ⟨ha.size, ha.defers, fun t v _ hv => ha.slot t v hv, fun t k hk hLk => ?_⟩ ?_
  · simp only [List.size_toArray]
    refine Nat.le_trans List.count_le_length ?_
    simp
  · intro i o _ hi
    simp only [Array.getD_eq_getD_getElem?, List.size_toArray, Array.getElem?_replicate] at hi
    split at hi <;> simp at hi
  · simp only [Array.getD_eq_getD_getElem?, List.size_toArray, Array.getElem?_replicate] at hLk
    split at hLk <;> simp at hLk
  · have : (Array.replicate l.toArray.size false).getD (l.length - 1) false = false := by
      simp only [Array.getD_eq_getD_getElem?, List.size_toArray, Array.getElem?_replicate]
      split <;> rfl
    rw [this]
    exact hw.drew

def DrawSeq (C : Ctx) (ops : List Oper) (F : Slots → Mem → Prop) : List Oper → Slots → Mem → Prop
  | [], St, M => F St M
  | o :: l, St, M => ∃ v M', OpG C ops St M o v M' ∧ (l = [] ∨ M' = M) ∧ DrawSeq C ops F l (putS St o.dst v) M'

theorem drawSeq_vs {F : Slots → Mem → Prop} : ∀ (r pre : List Oper) (us : List Value), l = pre ++ r → us.length = pre.length → r ≠ [] →
    DrawSeq C l F r (slotsAt St l us pre.length) M →
    ∃ vs M', vs.length = l.length ∧ (∀ i, i < pre.length → vs.getD i undef = us.getD i undef) ∧
      (∀ i o, pre.length ≤ i → l[i]? = some o → OpG C l (slotsAt St l vs i) M o (vs.getD i undef) (if i + 1 = l.length then M' else M)) ∧ F (slotsAt St l vs l.length) M'
  | [], _, _, _, _, hn, _ => absurd rfl hn
  | o :: r, pre, us, hl, hlen, _, h => by
    obtain ⟨v, M1, hop, hcase, hrest⟩ := h
    have hl' : l = (pre ++ [o]) ++ r := by simp [hl]
    have hio : l[pre.length]? = some o := by rw [hl]; simp
    have hsl : ∀ (ws : List Value) k, k ≤ pre.length → (∀ i, i < pre.length → ws.getD i undef = us.getD i undef) → slotsAt St l ws k = slotsAt St l us k := by
      intro ws k
      induction k with
      | zero => intro _ _; rfl
      | succ k ih =>
        intro hk hw
        rw [slotsAt, slotsAt, ih (by omega) hw, hw k (by omega)]
    have hget : ∀ i, i < pre.length → (us ++ [v]).getD i undef = us.getD i undef := by
      intro i hi
      simp only [List.getD_eq_getElem?_getD, List.getElem?_append_left (by omega : i < us.length)]
    have hgetv : (us ++ [v]).getD pre.length undef = v := by
      simp only [List.getD_eq_getElem?_getD, ← hlen]
      simp
    have hs1 : putS (slotsAt St l us pre.length) o.dst v = slotsAt St l (us ++ [v]) (pre ++ [o]).length := by
      rw [List.length_append, List.length_singleton, slotsAt, hio, hgetv, hsl (us ++ [v]) _ (Nat.le_refl _) hget]
      rfl
    by_cases hr : r = []
    · subst hr
      have hlen' : l.length = pre.length + 1 := by simp [hl]
      refine ⟨us ++ [v], M1, by simp [hlen, hlen'], hget, fun i o' hi ho' => ?_, ?_⟩
      · have : i = pre.length := by
          have := (List.getElem?_eq_some_iff.1 ho').1
          omega
        subst this
        rw [hio] at ho'
        cases ho'
        rw [if_pos (by omega), hgetv, hsl (us ++ [v]) _ (Nat.le_refl _) hget]
        exact hop
      · rw [hs1] at hrest
        have : (pre ++ [o]).length = l.length := by simp [hlen']
        rw [this] at hrest
        exact hrest
    · have hM : M1 = M := hcase.resolve_left hr
      rw [hM] at hop hrest
      rw [hs1] at hrest
      obtain ⟨vs, M', hvl, hvs, hops, hF⟩ := drawSeq_vs r (pre ++ [o]) (us ++ [v]) hl' (by simp [hlen]) hr hrest
      have hvs' : ∀ i, i < pre.length → vs.getD i undef = us.getD i undef := fun i hi => (hvs i (by simp; omega)).trans (hget i hi)
      refine ⟨vs, M', hvl, hvs', fun i o' hi ho' => ?_, hF⟩
      by_cases e : i = pre.length
      · subst e
        rw [hio] at ho'
        cases ho'
        have hne : ¬ pre.length + 1 = l.length := by
          rw [hl]
          have := List.length_pos_iff.2 hr
          simp; omega
        rw [if_neg hne, hvs _ (by simp), hgetv, hsl vs _ (Nat.le_refl _) hvs']
        exact hop
      · exact hops i o' (by simp; omega) ho'

/-- A drawn region, operation by operation in the text's order; the last one may turn the memory. -/
theorem at_draw {id : Nat} (hm : C.P.follows .mixedOrders = true) (hok : drawOk l = true) (hlast : lastOk l = true) (hnil : l ≠ [])
    (h : DrawSeq C l (fun St' M' => At C St' M' (Q .normal)) l St M) : At C St M ((Code.region id l.toArray true).wp C.P Q) := by
  obtain ⟨vs, M', _, _, hops, hF⟩ := drawSeq_vs (St := St) l [] [] rfl rfl hnil h
  exact at_draw_vs hm hok (.inr hlast) (fun i o ho => hops i o (Nat.zero_le _) ho) hnil hF

/-- The same where no operation turns the memory that is followed. -/
theorem at_drawQ {id : Nat} (hm : C.P.follows .mixedOrders = true) (hok : drawOk l = true) (hnil : l ≠ [])
    (h : DrawSeq C l (fun St' M' => M' = M ∧ At C St' M' (Q .normal)) l St M) : At C St M ((Code.region id l.toArray true).wp C.P Q) := by
  obtain ⟨vs, M', _, _, hops, rfl, hF⟩ := drawSeq_vs (St := St) l [] [] rfl rfl hnil h
  exact at_draw_vs hm hok (.inl rfl) (fun i o ho => hops i o (Nat.zero_le _) ho) hnil hF

theorem dr_nil {ops : List Oper} {F : Slots → Mem → Prop} (h : F St M) : DrawSeq C ops F [] St M := h
theorem dr_op {ops : List Oper} {F : Slots → Mem → Prop} {o o2 : Oper} {r : List Oper} {v : Value} (hg : wantS ops St o = some true) (hd : fits C.n o.dst = true)
    (h : OpR C.P St M o (fun v' M'' => v' = v ∧ M'' = M)) (k : DrawSeq C ops F (o2 :: r) (putS St o.dst v) M) : DrawSeq C ops F (o :: o2 :: r) St M :=
  ⟨v, M, ⟨hd, .inl ⟨hg, h⟩⟩, .inr rfl, k⟩
theorem dr_last {ops : List Oper} {F : Slots → Mem → Prop} {o : Oper} {v : Value} {M1 : Mem} (hg : wantS ops St o = some true) (hd : fits C.n o.dst = true)
    (h : OpR C.P St M o (fun v' M'' => v' = v ∧ M'' = M1)) (k : F (putS St o.dst v) M1) : DrawSeq C ops F [o] St M :=
  ⟨v, M1, ⟨hd, .inl ⟨hg, h⟩⟩, .inl rfl, k⟩
theorem dr_skip {ops : List Oper} {F : Slots → Mem → Prop} {o : Oper} {r : List Oper} (hg : wantS ops St o = some false) (hd : fits C.n o.dst = true)
    (k : DrawSeq C ops F r (putS St o.dst undef) M) : DrawSeq C ops F (o :: r) St M :=
  ⟨undef, M, ⟨hd, .inr ⟨hg, rfl, rfl⟩⟩, .inr rfl, k⟩
end
end Go.Proofs.YtjlhhcdefcofkaaGreatDoor

/- One law for each kind of operation, over the engine's memory. -/
namespace Go.Proofs.YtjlhhcdefcofkaaGreatDoor
open Go

abbrev Det (v : Value) (M : Mem) : Value → Mem → Prop := fun v' M' => v' = v ∧ M' = M
abbrev New (T : TypeId) (cs : List Value) (M : Mem) : Value → Mem → Prop := fun v' M' => ∃ g, v' = .pointer (some ⟨g, 0, none⟩) ∧ M' = ⟨g, T, cs⟩ :: M

def isAggD : TypeDesc → Bool
  | .struct _ | .array _ _ => true
  | _ => false

section
variable {P : Program} {St : Slots} {M : Mem} {o : Oper}

/-- An operation that runs to a value and leaves the world alone. -/
theorem opr_value {v : Value} (h : ∀ (ρ : Operand → Value) w0 S w, (∀ x v, evalS St x = some v → ρ x = v) → Inv w0 S M w → (execOp ρ o).run P w = .ok (.value v) w) : OpR P St M o (Det v M) := by
  intro ρ w0 S w hρ hw
  rw [h ρ w0 S w hρ hw]
  exact ⟨M, ⟨rfl, rfl⟩, hw⟩

theorem opr_move {x : Operand} {v : Value} (ho : o.op = .move x) (hx : evalS St x = some v) : OpR P St M o (Det v M) :=
  opr_value fun ρ w0 S w hρ _ => by simp only [execOp, ho, hρ _ _ hx, Sem.run_pure]
theorem opr_assign {x : Operand} {v : Value} (ho : o.op = .assign x) (hx : evalS St x = some v) : OpR P St M o (Det v M) :=
  opr_value fun ρ w0 S w hρ _ => by simp only [execOp, ho, hρ _ _ hx, Sem.run_pure]
theorem opr_nilCheck {x : Operand} {a : Addr} (ho : o.op = .nilCheck x) (hx : evalS St x = some (.pointer (some a))) : OpR P St M o (Det (.pointer (some a)) M) :=
  opr_value fun ρ w0 S w hρ _ => by simp only [execOp, ho, hρ _ _ hx, Sem.run_pure]

theorem opr_box {T : TypeId} {x : Operand} {v : Value} {cs : List Value} (ho : o.op = .box T x) (hx : evalS St x = some v) (hc : v.cells = cs.toArray) : OpR P St M o (New T cs M) := by
  intro ρ w0 S w hρ hw
  have : (execOp ρ o).run P w = .ok (.value (.pointer (some ⟨w.heap.size, 0, none⟩))) (w.alloc (.cells cs.toArray T)) := by
    simp only [execOp, ho, hρ _ _ hx, Instr.box, newVar, newRow, hc, Sem.run_bind, run_newObj, Result.andThen_ok, Sem.run_pure]
    rfl
  rw [this]
  exact ⟨_, ⟨_, rfl, rfl⟩, hw.alloc T cs⟩
theorem opr_alloc {T : TypeId} {z : Value} {cs : List Value} (ho : o.op = .alloc T) (hz' : (P.info? T).bind (·.zero) = some z) (hc : z.cells = cs.toArray) : OpR P St M o (New T cs M) := by
  obtain ⟨i, hi, hz⟩ := Option.bind_eq_some_iff.1 hz'
  intro ρ w0 S w hρ hw
  have : (execOp ρ o).run P w = .ok (.value (.pointer (some ⟨w.heap.size, 0, none⟩))) (w.alloc (.cells cs.toArray T)) := by
    simp only [execOp, ho, Instr.alloc, zeroValue, typeInfo, newVar, newRow, Sem.run_bind, run_newObj, Result.andThen_ok, Sem.run_pure, run_program, hi, hz, hc]
    rfl
  rw [this]
  exact ⟨_, ⟨_, rfl, rfl⟩, hw.alloc T cs⟩

theorem cell_at {w0 w : World} {S : List Nat} (hw : Inv w0 S M w) {i : Nat} {b : Blk} (hb : M[i]? = some b) (j : Nat) : w.cell? ⟨b.g, j, none⟩ = b.cs[j]? := by
  rw [cell_of_row w b.g j _ _ _ (hw.has.at_ b (List.mem_of_getElem? hb))]
  simp

theorem opr_load1 {T : TypeId} {x : Operand} {g off : Nat} {v : Value} {d : TypeDesc} {i : Nat} {T' : TypeId} {cs : List Value} (ho : o.op = .load T x) (hx : evalS St x = some (.pointer (some ⟨g, off, none⟩)))
    (hb : M[i]? = some ⟨g, T', cs⟩) (hu : P.underlying T = some d) (hd : isAggD d = false) (hc : cs[off]? = some v) : OpR P St M o (Det v M) :=
  opr_value fun ρ w0 S w hρ hw => by
    have h1 := cell_at hw hb off
    simp only at h1
    rw [hc] at h1
    have hagg : (isAgg T).run P w = .ok false w := by
      unfold isAgg
      rw [Sem.run_bind, run_underlying hu w]
      cases d <;> simp_all [isAggD]
    simp only [execOp, ho, hρ _ _ hx, Instr.loadAt, Instr.sureAddr, loadVar, Sem.run_bind, Sem.run_pure, Result.andThen_ok, hagg, Sem.run_ite, run_load, h1]
    rfl

theorem run_loadVar_at {w0 w : World} {S : List Nat} {T : TypeId} {g off n i : Nat} {d : TypeDesc} {T' : TypeId} {cs vs : List Value} (hw : Inv w0 S M w) (hb : M[i]? = some ⟨g, T', cs⟩) (hu : P.underlying T = some d)
    (hd : isAggD d = true) (hn : (P.info? T).map (·.size) = some n) (hl : vs.length = n) (hv : (cs.drop off).take n = vs) : (loadVar T ⟨g, off, none⟩).run P w = .ok (.agg vs.toArray) w := by
  have hcells : (loadCells ⟨g, off, none⟩ vs.length).run P w = .ok vs.toArray w :=
    run_loadCells_list (P := P) w ⟨g, off, none⟩ vs (fun j v hj => by
      have hadd : (⟨g, off, none⟩ : Addr).add j = ⟨g, off + j, none⟩ := by unfold Addr.add; split <;> simp_all
      rw [hadd]
      have h1 := cell_at hw hb (off + j)
      simp only at h1
      rw [h1, ← hj, ← hv]
      have hjn : j < n := by
        have := (List.getElem?_eq_some_iff.1 hj).1
        omega
      rw [List.getElem?_take_of_lt hjn, List.getElem?_drop])
  have hagg : (isAgg T).run P w = .ok true w := by
    unfold isAgg
    rw [Sem.run_bind, run_underlying hu w]
    cases d <;> simp_all [isAggD]
  cases hq : P.info? T with
  | none => simp [hq] at hn
  | some inf =>
    have hs : inf.size = n := by simpa [hq] using hn
    rw [hl] at hcells
    simp only [loadVar, Sem.run_bind, Sem.run_pure, Result.andThen_ok, hagg, Sem.run_ite, sizeOf, typeInfo, run_program, hq, hs, if_true, hcells]

theorem opr_load {T : TypeId} {x : Operand} {g off n : Nat} {d : TypeDesc} {i : Nat} {T' : TypeId} {cs : List Value} (ho : o.op = .load T x) (hx : evalS St x = some (.pointer (some ⟨g, off, none⟩)))
    (hb : M[i]? = some ⟨g, T', cs⟩) (hu : P.underlying T = some d) (hd : isAggD d = true) (hn : (P.info? T).map (·.size) = some n) {vs : List Value}
    (hl : vs.length = n) (hv : (cs.drop off).take n = vs) :
    OpR P St M o (Det (.agg vs.toArray) M) :=
  opr_value fun ρ w0 S w hρ hw => by
    simp only [execOp, ho, hρ _ _ hx, Instr.loadAt, Instr.sureAddr, Sem.run_bind, Sem.run_pure, Result.andThen_ok, run_loadVar_at hw hb hu hd hn hl hv]

/-- A variable of a type without cells. -/
theorem opr_load0 {T : TypeId} {x : Operand} {a : Addr} {d : TypeDesc} (ho : o.op = .load T x) (hx : evalS St x = some (.pointer (some a))) (hu : P.underlying T = some d) (hd : isAggD d = true) (hn : (P.info? T).map (·.size) = some 0) : OpR P St M o (Det (.agg #[]) M) :=
  opr_value fun ρ w0 S w hρ hw => by
    obtain ⟨inf, hq, hs⟩ := Option.map_eq_some_iff.1 hn
    have hagg : (isAgg T).run P w = .ok true w := by
      unfold isAgg
      rw [Sem.run_bind, run_underlying hu w]
      cases d <;> simp_all [isAggD]
    simp only [execOp, ho, hρ _ _ hx, Instr.loadAt, Instr.sureAddr, loadVar, Sem.run_bind, Sem.run_pure, Result.andThen_ok, hagg, Sem.run_ite, sizeOf, typeInfo, run_program, hq, hs, if_true, loadCells, loadCellsFrom]

/-- A literal without parts. -/
theorem opr_build0 {T E : TypeId} {n k : Nat} {z : Value} {cs : List Value} (ho : o.op = .build T #[]) (hz' : (P.info? T).bind (·.zero) = some z) (hc : z.cells = cs.toArray) (hu : P.underlying T = some (.array n E)) (hs : (P.info? E).map (·.size) = some k) : OpR P St M o (Det (.agg cs.toArray) M) :=
  opr_value fun ρ w0 S w hρ hw => by
    obtain ⟨i, hi, hz⟩ := Option.bind_eq_some_iff.1 hz'
    obtain ⟨j, hj, _⟩ := Option.map_eq_some_iff.1 hs
    simp only [execOp, ho, Array.map_empty, Instr.build, zeroValue, typeInfo, sizeOf, Sem.run_bind, Result.andThen_ok, Sem.run_pure, run_program, hi, hz, hc, run_underlying hu, hj, Instr.fill]
/-- A literal with parts: what it makes is reckoned apart. -/
theorem opr_build {T : TypeId} {ps : List (Nat × Operand)} {vs : List (Nat × Value)} {cs : List Value} (ho : o.op = .build T ps.toArray) (hps : ∀ ρ : Operand → Value, (∀ x v, evalS St x = some v → ρ x = v) → ps.map (fun p => (p.1, ρ p.2)) = vs)
    (hb : P.built T vs = some cs.toArray) : OpR P St M o (Det (.agg cs.toArray) M) :=
  opr_value fun ρ w0 S w hρ hw => by
    have e : (ps.toArray.map fun (i, x) => (i, ρ x)) = vs.toArray := by
      rw [List.map_toArray]; exact congrArg _ (hps ρ hρ)
    simp only [execOp, ho, e, Sem.run_bind, run_build w T vs.toArray cs.toArray (by simpa using hb), Result.andThen_ok, Sem.run_pure]

theorem get_set {i : Nat} {b c : Blk} (h : M[i]? = some b) : (M.set i c)[i]? = some c := by
  have := (List.getElem?_eq_some_iff.1 h).1
  simp [this]
theorem get_set_ne {i j : Nat} {b c : Blk} (h : M[j]? = some b) (hne : i ≠ j) : (M.set i c)[j]? = some b := by
  rw [List.getElem?_set_ne hne]; exact h

def splice (cs : List Value) (off : Nat) (vs : List Value) : List Value := cs.take off ++ vs ++ cs.drop (off + vs.length)

def flat : Value → Bool
  | .agg _ | .tuple _ => false
  | _ => true

theorem run_storeCells_at (g T : Nat) : ∀ (vs : List Value) (i off : Nat) (cs : List Value) (w : World), w.heap[g]? = some (.cells cs.toArray T (0, 0)) → off + i + vs.length ≤ cs.length → (∀ v ∈ vs, flat v = true) →
    (storeCells ⟨g, off, none⟩ vs i).run P w = .ok () (w.setRow g (splice cs (off + i) vs).toArray) := by
  intro vs
  induction vs with
  | nil =>
    intro i off cs w hg _ _
    have e : splice cs (off + i) [] = cs := by simp [splice]
    rw [e]
    simp only [storeCells, Sem.run_pure]
    congr 1
    have hw : w.heap.setIfInBounds g (.cells cs.toArray T (0, 0)) = w.heap := by
      apply Array.ext_getElem?
      intro k
      by_cases e : g = k
      · subst e
        obtain ⟨h1, h2⟩ := Array.getElem?_eq_some_iff.1 hg
        simp [h1, h2]
      · rw [Array.getElem?_setIfInBounds_ne e]
    have hm : (w.setRow g cs.toArray).heap = w.heap := by
      apply Array.ext_getElem?
      intro k
      by_cases e : k = g
      · subst e; rw [setRow_heap w _ _ _ _ _ hg, hg]
      · rw [setRow_other _ _ _ _ e]
    have hx : w.setRow g cs.toArray = { w with heap := (w.setRow g cs.toArray).heap } := rfl
    rw [hx, hm]
  | cons v vs ih =>
    intro i off cs w hg hl hf
    have hlt : off + i < cs.length := by simp only [List.length_cons] at hl; omega
    have hadd : (⟨g, off, none⟩ : Addr).add i = ⟨g, off + i, none⟩ := by unfold Addr.add; split <;> simp_all
    have hcell : w.cell? ⟨g, off + i, none⟩ = some cs[off + i] := by
      rw [cell_of_row w g _ _ _ _ hg]
      simp [hlt]
    have hfr : w.frozen? ⟨g, off + i, none⟩ = false := frozen_of_row w g _ _ _ hg
    have hone : v.oneCell' = true := by
      have := hf v (List.mem_cons_self ..)
      cases v <;> simp_all [flat, Value.oneCell']
    simp only [storeCells, Sem.run_bind]
    rw [hadd, run_store P w _ v _ hone]
    simp only [hcell, hfr, Bool.false_eq_true, if_false, Result.andThen_ok]
    rw [setCell_eq_setRow w g _ _ _ _ v hg]
    have hg' : (w.setRow g (cs.toArray.setIfInBounds (off + i) v)).heap[g]? = some (.cells (cs.set (off + i) v).toArray T (0, 0)) := by
      rw [setRow_heap w g _ _ _ _ hg]; simp
    have := ih (i + 1) off (cs.set (off + i) v) _ hg' (by simp only [List.length_set, List.length_cons] at hl ⊢; omega) (fun u hu => hf u (List.mem_cons_of_mem _ hu))
    rw [this, setRow_setRow]
    congr 2
    have e1 : off + (i + 1) = off + i + 1 := by omega
    simp only [splice, e1, List.length_cons]
    congr 1
    rw [List.take_succ_eq_append_getElem (by simpa using hlt), List.getElem_set_self, List.take_set_of_le (Nat.le_refl _), List.drop_set_of_lt (by omega)]
    have e2 : off + i + 1 + vs.length = off + i + (vs.length + 1) := by omega
    rw [e2]
    simp

theorem opr_store {T : TypeId} {x y : Operand} {g off n : Nat} {v : Value} {vs : List Value} {i : Nat} {T' : TypeId} {cs cs' : List Value} (ho : o.op = .store T x y) (hx : evalS St x = some (.pointer (some ⟨g, off, none⟩)))
    (hy : evalS St y = some v) (hc : v.cells = vs.toArray) (hb : M[i]? = some ⟨g, T', cs⟩) (hn : (P.info? T).map (·.size) = some n) (hl : vs.length = n) (hle : off + n ≤ cs.length) (hf : ∀ v ∈ vs, flat v = true)
    (hcs : splice cs off vs = cs') : OpR P St M o (Det undef (M.set i ⟨g, T', cs'⟩)) := by
  intro ρ w0 S w hρ hw
  have hg := hw.has.at_ _ (List.mem_of_getElem? hb)
  have hrun := run_storeCells_at (P := P) g T' vs 0 off cs w hg (by omega) hf
  cases hq : P.info? T with
  | none => simp [hq] at hn
  | some inf =>
    have hs : inf.size = n := by simpa [hq] using hn
    have : (execOp ρ o).run P w = .ok .skip (w.setRow g cs'.toArray) := by
      have hsz : v.cells.size = inf.size := by rw [hc, hs]; simpa using hl
      simp only [execOp, ho, hρ _ _ hx, hρ _ _ hy, Instr.storeAt, Instr.sureAddr, storeVar, Sem.run_bind, Sem.run_pure, Result.andThen_ok, sizeOf, typeInfo, run_program, hq, hsz, ne_eq, not_true_eq_false, if_false, Sem.run_ite]
      rw [hc]
      simp only [Nat.add_zero] at hrun
      rw [hrun, hcs]
      rfl
    rw [this]
    exact ⟨_, ⟨rfl, rfl⟩, hw.setRow hb cs'⟩

theorem opr_fieldAddr {T : TypeId} {x : Operand} {k g off : Nat} {fs : Array Field} {f : Field} {n : Nat} (ho : o.op = .fieldAddr T x k) (hx : evalS St x = some (.pointer (some ⟨g, off, none⟩)))
    (hu : P.underlying T = some (.struct fs)) (hf : fs[k]? = some f) (hi' : (P.info? f.type).map (·.size) = some n) (hz : Nat.beq n 0 = false) {off' : Nat} (hoff : off + f.offset = off') : OpR P St M o (Det (.pointer (some ⟨g, off', none⟩)) M) :=
  opr_value fun ρ w0 S w hρ hw => by
    obtain ⟨i, hi, rfl⟩ := Option.map_eq_some_iff.1 hi'
    have hz' : ¬ i.size = 0 := fun e => by rw [e] at hz; exact absurd hz (by decide)
    have hadd : (⟨g, off, none⟩ : Addr).add f.offset = ⟨g, off', none⟩ := by subst hoff; unfold Addr.add; split <;> simp_all
    simp only [execOp, ho, hρ _ _ hx, Instr.fieldAt, Instr.sureAddr, fieldPlace, sizeOf, typeInfo, Sem.run_bind, run_underlying hu, Sem.run_pure, Result.andThen_ok, hf, hi, run_program, hz', if_false, Sem.run_ite, hadd]

theorem opr_indexAddr {T E : TypeId} {x y : Operand} {g off n : Nat} {k : IntKind} {j m : Nat} (ho : o.op = .indexAddr T x y) (hx : evalS St x = some (.pointer (some ⟨g, off, none⟩)))
    (hy : evalS St y = some (.int k (j : Int))) (hu : P.underlying T = some (.array n E)) (hj : j < n) (hi' : (P.info? E).map (·.size) = some m) {off' : Nat} (hoff : off + j * m = off') : OpR P St M o (Det (.pointer (some ⟨g, off', none⟩)) M) :=
  opr_value fun ρ w0 S w hρ hw => by
    obtain ⟨i, hi, rfl⟩ := Option.map_eq_some_iff.1 hi'
    have hadd : (⟨g, off, none⟩ : Addr).add (j * i.size) = ⟨g, off', none⟩ := by subst hoff; unfold Addr.add; split <;> simp_all
    have h0 : (0 : Int) ≤ (j : Int) ∧ (j : Int) < (n : Int) := by omega
    simp only [execOp, ho, hρ _ _ hx, hρ _ _ hy, Instr.indexAt, Instr.sureAddr, asIntOf, sizeOf, typeInfo, Sem.run_bind, run_underlying hu, Sem.run_pure, Result.andThen_ok, hi, run_program, h0, and_self, if_true, Sem.run_ite, Int.toNat_natCast, hadd]
theorem opr_indexAddrS {T E : TypeId} {x y : Operand} {g off n c : Nat} {k : IntKind} {j m : Nat} (ho : o.op = .indexAddr T x y) (hx : evalS St x = some (.slice (some ⟨g, off, none⟩) n c))
    (hy : evalS St y = some (.int k (j : Int))) (hu : P.underlying T = some (.slice E)) (hj : j < n) (hi' : (P.info? E).map (·.size) = some m) {off' : Nat} (hoff : off + j * m = off') : OpR P St M o (Det (.pointer (some ⟨g, off', none⟩)) M) :=
  opr_value fun ρ w0 S w hρ hw => by
    obtain ⟨i, hi, rfl⟩ := Option.map_eq_some_iff.1 hi'
    have hadd : (⟨g, off, none⟩ : Addr).add (j * i.size) = ⟨g, off', none⟩ := by subst hoff; unfold Addr.add; split <;> simp_all
    have h0 : (0 : Int) ≤ (j : Int) ∧ (j : Int) < (n : Int) := by omega
    simp only [execOp, ho, hρ _ _ hx, hρ _ _ hy, Instr.indexAt, Instr.sureAddr, asIntOf, sizeOf, typeInfo, Sem.run_bind, run_underlying hu, Sem.run_pure, Result.andThen_ok, hi, run_program, h0, and_self, if_true, Sem.run_ite, Int.toNat_natCast, hadd]
theorem opr_index1 {T E : TypeId} {x y : Operand} {cs : List Value} {n : Nat} {k : IntKind} {j : Nat} {d : TypeDesc} {v : Value} (ho : o.op = .index T x y) (hx : evalS St x = some (.agg cs.toArray))
    (hy : evalS St y = some (.int k (j : Int))) (hu : P.underlying T = some (.array n E)) (hj : j < n) (hi' : (P.info? E).map (·.size) = some 1) (hue : P.underlying E = some d) (hd : isAggD d = false) (hv : cs[j]? = some v) : OpR P St M o (Det v M) :=
  opr_value fun ρ w0 S w hρ hw => by
    obtain ⟨i, hi, hs⟩ := Option.map_eq_some_iff.1 hi'
    have h0 : (0 : Int) ≤ (j : Int) ∧ (j : Int) < (n : Int) := by omega
    have hagg : (isAgg E).run P w = .ok false w := by
      unfold isAgg
      rw [Sem.run_bind, run_underlying hue w]
      cases d <;> simp_all [isAggD]
    simp only [execOp, ho, hρ _ _ hx, hρ _ _ hy, Instr.index, asIntOf, sizeOf, typeInfo, Sem.run_bind, run_underlying hu, Sem.run_pure, Result.andThen_ok, hi, hs, run_program, h0, and_self, if_true, Sem.run_ite, Int.toNat_natCast, part, hagg, Nat.mul_one, List.getElem?_toArray, hv]
    rfl
theorem opr_index {T E : TypeId} {x y : Operand} {cs : List Value} {n m : Nat} {k : IntKind} {j : Nat} {d : TypeDesc} (ho : o.op = .index T x y) (hx : evalS St x = some (.agg cs.toArray))
    (hy : evalS St y = some (.int k (j : Int))) (hu : P.underlying T = some (.array n E)) (hj : j < n) (hi' : (P.info? E).map (·.size) = some m) (hue : P.underlying E = some d) (hd : isAggD d = true) {vs : List Value} (hv : (cs.drop (j * m)).take m = vs) : OpR P St M o (Det (.agg vs.toArray) M) :=
  opr_value fun ρ w0 S w hρ hw => by
    obtain ⟨i, hi, hs⟩ := Option.map_eq_some_iff.1 hi'
    have h0 : (0 : Int) ≤ (j : Int) ∧ (j : Int) < (n : Int) := by omega
    have hagg : (isAgg E).run P w = .ok true w := by
      unfold isAgg
      rw [Sem.run_bind, run_underlying hue w]
      cases d <;> simp_all [isAggD]
    have hx' : cs.toArray.extract (j * m) (j * m + m) = vs.toArray := by
      rw [← hv]; simp
    simp only [execOp, ho, hρ _ _ hx, hρ _ _ hy, Instr.index, asIntOf, sizeOf, typeInfo, Sem.run_bind, run_underlying hu, Sem.run_pure, Result.andThen_ok, hi, hs, run_program, h0, and_self, if_true, Sem.run_ite, Int.toNat_natCast, part, hagg, hx']

/-- A slice of an array by its address; the bounds are numbers. -/
theorem opr_slice {T E : TypeId} {x lo hi : Operand} {g off n a b : Nat} {k k' : IntKind} (ho : o.op = .slice T x (some lo) (some hi) none) (hx : evalS St x = some (.pointer (some ⟨g, off, none⟩)))
    (hlo : evalS St lo = some (.int k (a : Int))) (hhi : evalS St hi = some (.int k' (b : Int))) (hu : P.underlying T = some (.array n E)) (hab : a ≤ b) (hbn : b ≤ n) (han : a < n) (hi'' : (P.info? E).map (·.size) = some 1) {off' : Nat} (hoff : off + a = off') :
    OpR P St M o (Det (.slice (some ⟨g, off', none⟩) (b - a) (n - a)) M) :=
  opr_value fun ρ w0 S w hρ hw => by
    obtain ⟨i, hi', hs⟩ := Option.map_eq_some_iff.1 hi''
    have hadd : (⟨g, off, none⟩ : Addr).add a = ⟨g, off', none⟩ := by subst hoff; unfold Addr.add; split <;> simp_all
    have h1 : (0 : Int) ≤ (b : Int) ∧ (b : Int) ≤ (n : Int) := by omega
    have h2 : (0 : Int) ≤ (a : Int) ∧ (a : Int) ≤ (b : Int) := by omega
    have h3 : ¬ n = a := by omega
    simp only [execOp, ho, Option.map_some, Option.map_none, hρ _ _ hx, hρ _ _ hlo, hρ _ _ hhi, Instr.sliceAt, Instr.sureAddr, Instr.sliceBounds, Instr.sliceBound, asIntOf, sizeOf, typeInfo, Sem.run_bind, run_underlying hu, Sem.run_pure, Result.andThen_ok, hi', hs, run_program, h1, h2, h3, and_self, if_true, if_false, Sem.run_ite, Int.toNat_natCast, Nat.mul_one, hadd]
theorem opr_sliceAll {T E : TypeId} {x : Operand} {g off n m : Nat} (ho : o.op = .slice T x none none none) (hx : evalS St x = some (.pointer (some ⟨g, off, none⟩)))
    (hu : P.underlying T = some (.array n E)) (hn : Nat.beq n 0 = false) (hi'' : (P.info? E).map (·.size) = some m) :
    OpR P St M o (Det (.slice (some ⟨g, off, none⟩) n n) M) :=
  opr_value fun ρ w0 S w hρ hw => by
    obtain ⟨i, hi', hs⟩ := Option.map_eq_some_iff.1 hi''
    have hadd : (⟨g, off, none⟩ : Addr).add (0 * i.size) = ⟨g, off, none⟩ := by simp [Addr.add]
    have h3 : ¬ n = 0 := fun e => by rw [e] at hn; exact absurd hn (by decide)
    simp only [execOp, ho, Option.map_none, hρ _ _ hx, Instr.sliceAt, Instr.sureAddr, Instr.sliceBounds, sizeOf, typeInfo, Sem.run_bind, run_underlying hu, Sem.run_pure, Result.andThen_ok, hi', run_program, h3, if_false, Nat.sub_zero, hadd]

theorem opr_binOp {op : BinOp} {T T' : TypeId} {x y : Operand} {k k' : IntKind} {a b : Int} {v : Value} (ho : o.op = .binOp op T x y T') (hx : evalS St x = some (.int k a)) (hy : evalS St y = some (.int k' b))
    (hb : ∀ w, (binOp op T (.int k a) (.int k' b)).run P w = .ok v w) : OpR P St M o (Det v M) :=
  opr_value fun ρ w0 S w hρ hw => by
    have hg : (eqGuard op T x y (.int k a) (.int k' b)).run P w = .ok () w := by
      unfold eqGuard
      cases op <;> rfl
    simp only [execOp, ho, hρ _ _ hx, hρ _ _ hy, Sem.run_bind, hg, hb, Result.andThen_ok, Sem.run_pure]

theorem opr_convert {S' D : TypeId} {x : Operand} {k k' : IntKind} {n : Int} {d : TypeDesc} (ho : o.op = .convert S' D x) (hx : evalS St x = some (.int k n)) (hs : P.underlying S' = some d) (hd : P.underlying D = some (.int k')) : OpR P St M o (Det (.int k' (k'.wrap n)) M) :=
  opr_value fun ρ w0 S w hρ hw => by
    have : (convert S' D (.int k n)).run P w = .ok (.int k' (k'.wrap n)) w := by
      simp only [convert, Sem.run_bind, run_underlying hs, run_underlying hd, Result.andThen_ok]
      rfl
    simp only [execOp, ho, hρ _ _ hx, Sem.run_bind, this, Result.andThen_ok, Sem.run_pure]

theorem opr_extract {x : Operand} {j : Nat} {vs : Array Value} {v : Value} (ho : o.op = .extract x j) (hx : evalS St x = some (.tuple vs)) (hv : vs[j]? = some v) : OpR P St M o (Det v M) :=
  opr_value fun ρ w0 S w hρ hw => by
    simp only [execOp, ho, hρ _ _ hx, Instr.extract, hv, Sem.run_bind, Sem.run_pure, Result.andThen_ok]

theorem opr_unOp {op : UnOp} {T : TypeId} {x : Operand} {v u : Value} (ho : o.op = .unOp op T x) (hx : evalS St x = some v) (hb : ∀ w, (Op.unary op v).run P w = .ok u w) : OpR P St M o (Det u M) :=
  opr_value fun ρ w0 S w hρ hw => by
    simp only [execOp, ho, hρ _ _ hx, Sem.run_bind, hb, Result.andThen_ok, Sem.run_pure]

/-! ### Calls -/
def Ct (P : Program) (f : FuncId) (args : Array Value) (M : Mem) (R : Value → Mem → Prop) : Prop :=
  ∀ w, Has M w → Calls P f args w fun e w' => ∃ v M', R v M' ∧ e = .returned v ∧ Inv w (ids M) M' w'

def evalL (St : Slots) : List Operand → Option (List Value)
  | [] => some []
  | x :: r => match evalS St x, evalL St r with
    | some v, some vs => some (v :: vs)
    | _, _ => none

theorem evalL_map {ρ : Operand → Value} (hρ : ∀ x v, evalS St x = some v → ρ x = v) : ∀ (xs : List Operand) (vs : List Value), evalL St xs = some vs → xs.map ρ = vs
  | [], vs, h => by simpa [evalL] using h
  | x :: r, vs, h => by
    unfold evalL at h
    split at h
    · rename_i v us h1 h2
      simp only [Option.some.injEq] at h
      subst h
      simp [hρ _ _ h1, evalL_map hρ r us h2]
    · simp at h

/-- A call of a function of the program's own, by its contract. -/
theorem opr_call {xs : List Operand} {ts : Array TypeId} {fo : Operand} {f : FuncId} {fn : Func} {vs : List Value} {R : Value → Mem → Prop} (ho : o.op = .call { callee := .value fo, args := xs.toArray, argTypes := ts })
    (hfo : evalS St fo = some (.func (.func f) #[] #[])) (hxs : evalL St xs = some vs) (hf : P.funcs[f]? = some fn) (hname : (fn.name == "runtime.NumGoroutine") = false) (hbody : fn.body.isNone = false)
    (h : Ct P f vs.toArray M R) : OpR P St M o R := by
  intro ρ w0 S w hρ hw
  have hrun : (execOp ρ o).run P w = .ok (.enter f vs.toArray) w := by
    have h1 : ¬ fn.name = "runtime.NumGoroutine" := by simpa using hname
    simp only [execOp, ho, resolve, hρ _ _ hfo, List.map_toArray, evalL_map hρ xs vs hxs, Deferred.ofValue, Sem.run_bind, Sem.run_pure, Result.andThen_ok, invoke, callFunc, run_program, hf, hname, hbody, Bool.false_eq_true, if_false, List.append_toArray, List.append_nil, List.nil_append]
  rw [hrun]
  refine (h w hw.has).mono ?_
  rintro e w' ⟨v, M', hR, rfl, hI⟩
  exact ⟨v, M', hR, rfl, hw.trans hI⟩

/-- A call that runs here and now (a function without a body). -/
theorem opr_extern {xs : List Operand} {ts : Array TypeId} {fo : Operand} {f : FuncId} {vs : List Value} {v : Value} (ho : o.op = .call { callee := .value fo, args := xs.toArray, argTypes := ts })
    (hfo : evalS St fo = some (.func (.func f) #[] #[])) (hxs : evalL St xs = some vs) (hrun : ∀ w, (callFunc f vs.toArray).run P w = .ok (.value v) w) : OpR P St M o (Det v M) :=
  opr_value fun ρ w0 S w hρ hw => by
    simp only [execOp, ho, resolve, hρ _ _ hfo, List.map_toArray, evalL_map hρ xs vs hxs, Deferred.ofValue, Sem.run_bind, Sem.run_pure, Result.andThen_ok, invoke, List.append_toArray, List.append_nil, List.nil_append, hrun]

theorem Ct.mono {f : FuncId} {args : Array Value} {R R' : Value → Mem → Prop} (h : Ct P f args M R) (hr : ∀ v M', R v M' → R' v M') : Ct P f args M R' :=
  fun w hw => (h w hw).mono (by rintro e w' ⟨v, M', hR, he, hI⟩; exact ⟨v, M', hr _ _ hR, he, hI⟩)
end

section
variable {C : Ctx} {St : Slots} {M M' : Mem} {Q : Exit → Act → World → Prop} {ops : List Oper} {o : Oper} {l : List Oper}
theorem at_d {v : Value} (hg : wantS ops St o = some true) (hd : fits C.n o.dst = true) (h : OpR C.P St M o (Det v M')) (k : At C (putS St o.dst v) M' (wpList C.P ops.toArray Q l)) :
    At C St M (wpList C.P ops.toArray Q (o :: l)) :=
  at_op hg hd h (by rintro _ _ ⟨rfl, rfl⟩; exact k)
theorem at_n {T : TypeId} {cs : List Value} (hg : wantS ops St o = some true) (hd : fits C.n o.dst = true) (h : OpR C.P St M o (New T cs M))
    (k : ∀ g, At C (putS St o.dst (.pointer (some ⟨g, 0, none⟩))) (⟨g, T, cs⟩ :: M) (wpList C.P ops.toArray Q l)) : At C St M (wpList C.P ops.toArray Q (o :: l)) :=
  at_op hg hd h (by rintro _ _ ⟨g, rfl, rfl⟩; exact k g)
def AllIn : Slots → Slots → Prop
  | [], _ => True
  | (k, v) :: r, St => look St k = some v ∧ AllIn r St
theorem allIn : ∀ {L St : Slots}, AllIn L St → ∀ t v, look L t = some v → look St t = some v
  | [], _, _, t, v, h => by simp [look] at h
  | (k, u) :: r, St, h, t, v, hv => by
    by_cases e : k = t
    · subst e
      rw [look_cons_self] at hv
      rw [← hv]; exact h.1
    · rw [look_cons_ne _ _ e] at hv
      exact allIn h.2 t v hv
theorem at_then_exit {K : Act → World → Prop} {id : Nat} (h : At C St M (Q (.exit id))) : At C St M (Exit.then K Q (.exit id)) := h
theorem at_then_ret {K : Act → World → Prop} (h : At C St M (Q .ret)) : At C St M (Exit.then K Q .ret) := h
theorem at_inBlock_ret {id : Nat} (h : At C St M (Q .ret)) : At C St M (Exit.inBlock id Q .ret) := h
theorem at_inBlock_normal {id : Nat} (h : At C St M (Q .normal)) : At C St M (Exit.inBlock id Q .normal) := h
theorem at_c {R : Value → Mem → Prop} (hg : wantS ops St o = some true) (hd : fits C.n o.dst = true) (h : OpR C.P St M o R)
    (k : ∀ v M', R v M' → At C (putS St o.dst v) M' (wpList C.P ops.toArray Q l)) : At C St M (wpList C.P ops.toArray Q (o :: l)) := at_op hg hd h k
end

/-! ### A function whole -/
def Done (C : Ctx) (fn : Func) (R : Value → Mem → Prop) : Exit → Act → World → Prop :=
  bodyPost C.P fn fun e w' => ∃ v M', R v M' ∧ e = .returned v ∧ Inv C.w0 C.S M' w'

def slotsOf : List Value → Nat → Slots
  | [], _ => []
  | v :: r, k => (k, v) :: slotsOf r (k + 1)

theorem look_slotsOf : ∀ (vs : List Value) (k t : Nat) (v : Value), look (slotsOf vs k) t = some v → k ≤ t ∧ vs[t - k]? = some v
  | [], k, t, v, h => by simp [slotsOf, look] at h
  | u :: r, k, t, v, h => by
    by_cases e : k = t
    · subst e
      rw [slotsOf, look_cons_self] at h
      simpa using h
    · rw [slotsOf, look_cons_ne _ _ e] at h
      obtain ⟨h1, h2⟩ := look_slotsOf r (k + 1) t v h
      refine ⟨by omega, ?_⟩
      have : t - k = (t - (k + 1)) + 1 := by omega
      rw [this]; simpa using h2

theorem ct_of {P : Program} {f : FuncId} {fn : Func} {c : Code} {vs : List Value} {n : Nat} {M : Mem} {R : Value → Mem → Prop} (hf : P.funcs[f]? = some fn) (hb : fn.body = some c) (hn : fn.ntmps = n) (hl : Nat.ble vs.length n = true)
    (h : ∀ w0, At ⟨P, n, w0, ids M⟩ (slotsOf vs 0) M (c.wp P (Done ⟨P, n, w0, ids M⟩ fn R))) : Ct P f vs.toArray M R := by
  intro w hw
  refine calls_of_wp hf hb ?_
  refine h w _ w ⟨?_, rfl, fun t v ht => ?_⟩ (Inv.start hw)
  · have : vs.length ≤ n := Nat.le_of_ble_eq_true hl
    simp [hn]; omega
  · obtain ⟨_, h2⟩ := look_slotsOf vs 0 t v ht
    have hlt : t < vs.length := by
      have := (List.getElem?_eq_some_iff.1 h2).1
      omega
    simp only [Array.getElem?_append, List.size_toArray, hlt, if_true, List.getElem?_toArray]
    simpa using h2

section
variable {C : Ctx} {St : Slots} {M : Mem} {fn : Func} {R : Value → Mem → Prop}

theorem done_of {v : Value} {M' : Mem} (hres : ∀ a w, Holds C.n St a → Inv C.w0 C.S M w → (results fn a.tmps).run C.P w = .ok v w) (hR : R v M') (hM : M'.Sublist M) :
    At C St M (Done C fn R .ret) :=
  fun a w ha hw => ⟨ha.defers, v, hres a w ha hw, v, M', hR, rfl, hw.sub hM⟩
theorem at_normal_ret (h : At C St M (Done C fn R .ret)) : At C St M (Done C fn R .normal) := h

def ResIs (P : Program) (St : Slots) (M : Mem) : ResultVar → Value → Prop
  | .tmp t, v => look St t = some v
  | .cell p T, v => ∃ (g off n i : Nat) (d : TypeDesc) (T' : TypeId) (cs vs : List Value), look St p = some (.pointer (some ⟨g, off, none⟩)) ∧ M[i]? = some ⟨g, T', cs⟩ ∧ P.underlying T = some d ∧
      isAggD d = true ∧ (P.info? T).map (·.size) = some n ∧ vs.length = n ∧ (cs.drop off).take n = vs ∧ v = .agg vs.toArray
theorem res_tmp {P : Program} {t : Nat} {v : Value} (h : look St t = some v) : ResIs P St M (.tmp t) v := h
theorem res_cell {P : Program} {p T : Nat} {g off n i : Nat} {d : TypeDesc} {T' : TypeId} {cs vs : List Value} (h1 : look St p = some (.pointer (some ⟨g, off, none⟩))) (h2 : M[i]? = some ⟨g, T', cs⟩) (h3 : P.underlying T = some d)
    (h4 : isAggD d = true) (h5 : (P.info? T).map (·.size) = some n) (h6 : vs.length = n) (h7 : (cs.drop off).take n = vs) : ResIs P St M (.cell p T) (.agg vs.toArray) :=
  ⟨g, off, n, i, d, T', cs, vs, h1, h2, h3, h4, h5, h6, h7, rfl⟩
def resV (tmps : Array Value) : ResultVar → Sem Value
  | .tmp t => pure (tmps.getD t undef)
  | .cell p t => do loadVar t (← asAddr (tmps.getD p undef))
theorem results_eq (fn : Func) (tmps : Array Value) : results fn tmps = (do let vs ← fn.results.mapM (resV tmps); pure (if h : vs.size = 1 then vs[0] else .tuple vs)) := by
  unfold results
  have : (fun x => match x with
    | ResultVar.tmp t => pure (tmps.getD t undef)
    | ResultVar.cell a t => do loadVar t (← asAddr (tmps.getD a undef)) : ResultVar → Sem Value) = resV tmps := by
    funext x; cases x <;> rfl
  rw [← this]
  rfl
theorem ResIs.run {P : Program} {r : ResultVar} {v : Value} (h : ResIs P St M r v) {n : Nat} {w0 : World} {S : List Nat} {a : Act} {w : World} (ha : Holds n St a) (hw : Inv w0 S M w) :
    (resV a.tmps r).run P w = .ok v w := by
  cases r with
  | tmp t =>
    have := ha.slot _ _ h
    simp [resV, this]
  | cell p T =>
    obtain ⟨g, off, n, i, d, T', cs, vs, h1, h2, h3, h4, h5, h6, h7, rfl⟩ := h
    have := ha.slot _ _ h1
    simp only [resV, Array.getD_eq_getD_getElem?, this, Option.getD_some, asAddr, Sem.run_bind, Sem.run_pure, Result.andThen_ok, run_loadVar_at hw h2 h3 h4 h5 h6 h7]
theorem res0 (hr : fn.results = #[]) : ∀ a w, Holds C.n St a → Inv C.w0 C.S M w → (results fn a.tmps).run C.P w = .ok (.tuple #[]) w := by
  intro a w _ _
  simp [results_eq, hr]
theorem res1 {r : ResultVar} {v : Value} (hr : fn.results = #[r]) (h : ResIs C.P St M r v) : ∀ a w, Holds C.n St a → Inv C.w0 C.S M w → (results fn a.tmps).run C.P w = .ok v w := by
  intro a w ha hw
  simp [results_eq, hr, h.run ha hw]
theorem res2 {r s : ResultVar} {v u : Value} (hr : fn.results = #[r, s]) (h : ResIs C.P St M r v) (h' : ResIs C.P St M s u) : ∀ a w, Holds C.n St a → Inv C.w0 C.S M w → (results fn a.tmps).run C.P w = .ok (.tuple #[v, u]) w := by
  intro a w ha hw
  simp [results_eq, hr, h.run ha hw, h'.run ha hw]
theorem res3 {r s t : ResultVar} {v u x : Value} (hr : fn.results = #[r, s, t]) (h : ResIs C.P St M r v) (h' : ResIs C.P St M s u) (h'' : ResIs C.P St M t x) : ∀ a w, Holds C.n St a → Inv C.w0 C.S M w → (results fn a.tmps).run C.P w = .ok (.tuple #[v, u, x]) w := by
  intro a w ha hw
  simp [results_eq, hr, h.run ha hw, h'.run ha hw, h''.run ha hw]
end
end Go.Proofs.YtjlhhcdefcofkaaGreatDoor

/- Plain: digits of numbers, and the cells that hold them. -/
namespace Go.Proofs.YtjlhhcdefcofkaaGreatDoor
open Go

def digs (b : Nat) : Nat → Nat → List Nat
  | 0, _ => []
  | k + 1, n => n % b :: digs b k (n / b)
def dval (b : Nat) : List Nat → Nat
  | [] => 0
  | d :: l => d + b * dval b l

theorem digs_length (b : Nat) : ∀ k n, (digs b k n).length = k
  | 0, _ => rfl
  | k + 1, n => by simp [digs, digs_length b k]
theorem digs_lt {b : Nat} (hb : 0 < b) : ∀ k n, ∀ d ∈ digs b k n, d < b
  | 0, _, d, h => by simp [digs] at h
  | k + 1, n, d, h => by
    rcases List.mem_cons.1 h with rfl | h
    · exact Nat.mod_lt _ hb
    · exact digs_lt hb k _ d h
theorem dval_digs (b : Nat) : ∀ k n, dval b (digs b k n) = n % b ^ k
  | 0, n => by simp [digs, dval, Nat.mod_one]
  | k + 1, n => by
    rw [digs, dval, dval_digs b k, Nat.pow_succ, Nat.mul_comm (b ^ k) b, Nat.mod_mul]
theorem digs_dval {b : Nat} : ∀ (l : List Nat), (∀ d ∈ l, d < b) → digs b l.length (dval b l) = l
  | [], _ => rfl
  | d :: l, h => by
    have hd := h d (List.mem_cons_self ..)
    have hb : 0 < b := by omega
    rw [List.length_cons, digs, dval, Nat.add_mul_mod_self_left, Nat.mod_eq_of_lt hd, Nat.add_mul_div_left _ _ hb, Nat.div_eq_of_lt hd, Nat.zero_add, digs_dval l fun x hx => h x (List.mem_cons_of_mem _ hx)]
theorem dval_lt {b : Nat} : ∀ (l : List Nat), (∀ d ∈ l, d < b) → dval b l < b ^ l.length
  | [], _ => by simp [dval]
  | d :: l, h => by
    have hd := h d (List.mem_cons_self ..)
    have ih := dval_lt l fun x hx => h x (List.mem_cons_of_mem _ hx)
    rw [dval, List.length_cons, Nat.pow_succ]
    have : b * (dval b l + 1) ≤ b * b ^ l.length := Nat.mul_le_mul_left _ ih
    rw [Nat.mul_add, Nat.mul_one] at this
    rw [Nat.mul_comm (b ^ l.length) b]
    omega
theorem dval_append (b : Nat) : ∀ (l m : List Nat), dval b (l ++ m) = dval b l + b ^ l.length * dval b m
  | [], m => by simp [dval]
  | d :: l, m => by
    rw [List.cons_append, dval, dval, dval_append b l m, List.length_cons, Nat.pow_succ, Nat.mul_add, Nat.mul_comm (b ^ l.length) b, Nat.mul_assoc, Nat.add_assoc]
theorem digs_add (b : Nat) : ∀ j k n, digs b (j + k) n = digs b j n ++ digs b k (n / b ^ j)
  | 0, k, n => by simp [digs]
  | j + 1, k, n => by
    rw [Nat.add_right_comm, digs, digs_add b j k, digs, List.cons_append, Nat.div_div_eq_div_mul, Nat.pow_succ, Nat.mul_comm b (b ^ j)]
theorem digs_take (b : Nat) {j k : Nat} (h : j ≤ k) (n : Nat) : (digs b k n).take j = digs b j n := by
  obtain ⟨m, rfl⟩ := Nat.exists_eq_add_of_le h
  rw [digs_add, List.take_append_of_le_length (by rw [digs_length]; exact Nat.le_refl _), List.take_of_length_le (by rw [digs_length]; exact Nat.le_refl _)]
theorem digs_drop (b : Nat) {j k : Nat} (h : j ≤ k) (n : Nat) : (digs b k n).drop j = digs b (k - j) (n / b ^ j) := by
  obtain ⟨m, rfl⟩ := Nat.exists_eq_add_of_le h
  rw [digs_add, List.drop_append_of_le_length (by rw [digs_length]; exact Nat.le_refl _), List.drop_of_length_le (by rw [digs_length]; exact Nat.le_refl _), Nat.add_sub_cancel_left]
  rfl
theorem digs_mod (b : Nat) : ∀ k n, digs b k (n % b ^ k) = digs b k n
  | 0, _ => rfl
  | k + 1, n => by
    rw [digs, digs, Nat.pow_succ, Nat.mul_comm (b ^ k) b, Nat.mod_mul_right_mod, Nat.mod_mul_right_div_self, digs_mod b k]
theorem digs_inj {b k n m : Nat} (h : digs b k n = digs b k m) (hn : n < b ^ k) (hm : m < b ^ k) : n = m := by
  have := congrArg (dval b) h
  rwa [dval_digs, dval_digs, Nat.mod_eq_of_lt hn, Nat.mod_eq_of_lt hm] at this
theorem digs_get {b : Nat} : ∀ (k n j : Nat), j < k → (digs b k n)[j]? = some (n / b ^ j % b)
  | 0, _, j, h => absurd h (Nat.not_lt_zero _)
  | k + 1, n, 0, _ => by simp [digs]
  | k + 1, n, j + 1, h => by
    rw [digs, List.getElem?_cons_succ, digs_get k _ j (by omega), Nat.div_div_eq_div_mul, Nat.pow_succ, Nat.mul_comm b (b ^ j)]

def u8V (d : Nat) : Value := .int .u8 (d : Int)
def u64V (d : Nat) : Value := .int .u64 (d : Int)

/-- An element's 56 bytes; eight bytes of a word; 28 digits of 16 bits; seven words. -/
def E (n : Nat) : List Value := (digs 256 56 n).map u8V
def B8 (x : Nat) : List Value := (digs 256 8 x).map u8V
def N (n : Nat) : List Value := (digs 65536 28 n).map u64V
def W7 (n : Nat) : List Value := (digs 18446744073709551616 7 n).map u64V
/-- Elements side by side. -/
def EE : List Nat → List Value
  | [] => []
  | a :: l => E a ++ EE l

theorem E_length (n : Nat) : (E n).length = 56 := by simp [E, digs_length]
theorem N_length (n : Nat) : (N n).length = 28 := by simp [N, digs_length]
theorem B8_length (n : Nat) : (B8 n).length = 8 := by simp [B8, digs_length]
theorem EE_length : ∀ l, (EE l).length = 56 * l.length
  | [] => rfl
  | a :: l => by rw [EE, List.length_append, E_length, EE_length l, List.length_cons]; omega
theorem E_flat (n : Nat) : ∀ v ∈ E n, flat v = true := by
  intro v hv
  obtain ⟨d, _, rfl⟩ := List.mem_map.1 hv
  rfl
theorem N_flat (n : Nat) : ∀ v ∈ N n, flat v = true := by
  intro v hv
  obtain ⟨d, _, rfl⟩ := List.mem_map.1 hv
  rfl
theorem EE_flat : ∀ l, ∀ v ∈ EE l, flat v = true
  | [], v, h => by simp [EE] at h
  | a :: l, v, h => by
    rcases List.mem_append.1 h with h | h
    · exact E_flat a v h
    · exact EE_flat l v h
theorem EE_one (n : Nat) : EE [n] = E n := by simp [EE]

theorem EE_drop : ∀ (l : List Nat) (k : Nat), (EE l).drop (56 * k) = EE (l.drop k)
  | [], k => by simp [EE]
  | a :: l, 0 => rfl
  | a :: l, k + 1 => by
    rw [EE, List.drop_append, E_length, List.drop_of_length_le (by rw [E_length]; omega), List.nil_append, List.drop_succ_cons]
    have : 56 * (k + 1) - 56 = 56 * k := by omega
    rw [this, EE_drop l k]
theorem EE_at {l : List Nat} {k off n : Nat} {a : Nat} (hk : l[k]? = some a) (ho : 56 * k = off) (hn : 56 = n) : ((EE l).drop off).take n = E a := by
  subst ho; subst hn
  rw [EE_drop]
  obtain ⟨h1, h2⟩ := List.getElem?_eq_some_iff.1 hk
  rw [List.drop_eq_getElem_cons h1, h2, EE, List.take_append_of_le_length (by rw [E_length]; exact Nat.le_refl _), List.take_of_length_le (by rw [E_length]; exact Nat.le_refl _)]
theorem EE_all {l : List Nat} {n : Nat} (hn : 56 * l.length = n) : ((EE l).drop 0).take n = EE l := by
  subst hn
  rw [List.drop_zero, List.take_of_length_le (by rw [EE_length]; exact Nat.le_refl _)]
theorem EE_over {l m : List Nat} (h : l.length = m.length) : splice (EE l) 0 (EE m) = EE m := by
  simp only [splice, List.take_zero, List.nil_append]
  rw [List.drop_of_length_le (by rw [EE_length, EE_length, h]; omega), List.append_nil]
def W (l : List Nat) : List Value := l.map u64V
theorem N_at (a : Nat) : ((N a).drop 0).take 28 = N a := by
  rw [List.drop_zero, List.take_of_length_le (by rw [N_length]; exact Nat.le_refl _)]
theorem N_over {a b : Nat} : splice (N a) 0 (N b) = N b := by
  simp only [splice, List.take_zero, List.nil_append]
  rw [List.drop_of_length_le (by rw [N_length, N_length]; omega), List.append_nil]
theorem E_box (a : Nat) : Value.cells (.agg (E a).toArray) = (EE [a]).toArray := by
  simp [Value.cells, EE]
theorem E_at (a : Nat) : ((E a).drop 0).take 56 = E a := by
  rw [List.drop_zero, List.take_of_length_le (by rw [E_length]; exact Nat.le_refl _)]
theorem EE_splice {b : Nat} : ∀ (l : List Nat) (k : Nat), k < l.length → splice (EE l) (56 * k) (E b) = EE (l.set k b)
  | [], k, h => absurd h (Nat.not_lt_zero _)
  | a :: l, 0, _ => by
    simp only [splice, E_length, Nat.mul_zero, List.take_zero, List.nil_append, List.set_cons_zero, EE, Nat.zero_add]
    rw [List.drop_append, E_length, List.drop_of_length_le (by rw [E_length]; omega), Nat.sub_self]
    simp
  | a :: l, k + 1, h => by
    have ih := EE_splice (b := b) l k (by simpa using h)
    simp only [splice, E_length] at ih ⊢
    rw [List.set_cons_succ, EE, EE, ← ih]
    have e1 : 56 * (k + 1) = 56 + 56 * k := by omega
    have e2 : 56 + 56 * k + 56 = 56 + (56 * k + 56) := by omega
    rw [e1, e2, List.take_append, List.drop_append, E_length, List.take_of_length_le (by rw [E_length]; omega), List.drop_of_length_le (by rw [E_length]; omega)]
    simp
theorem EE_set {l : List Nat} {k off b : Nat} (hk : k < l.length) (ho : 56 * k = off) : splice (EE l) off (E b) = EE (l.set k b) := by
  subst ho; exact EE_splice l k hk

theorem splice_splice {cs u v : List Value} {a : Nat} (h : a + u.length ≤ cs.length) : splice (splice cs a u) (a + u.length) v = splice cs a (u ++ v) := by
  have h1 : (cs.take a).length = a := by simp; omega
  simp only [splice]
  have e1 : (cs.take a ++ u ++ cs.drop (a + u.length)).take (a + u.length) = cs.take a ++ u := by
    rw [List.take_append_of_le_length (by simp; omega), List.take_of_length_le (by simp; omega)]
  have e2 : (cs.take a ++ u ++ cs.drop (a + u.length)).drop (a + u.length + v.length) = cs.drop (a + (u ++ v).length) := by
    rw [List.drop_append, List.drop_of_length_le (by simp; omega)]
    simp only [List.length_append, h1, List.nil_append, List.drop_drop]
    congr 1
    omega
  rw [e1, e2]
  simp
theorem splice_length {cs u : List Value} {a : Nat} (h : a + u.length ≤ cs.length) : (splice cs a u).length = cs.length := by
  simp [splice]; omega

/-- Eight bytes of an element: a word. -/
theorem E_word (a i : Nat) (hi : i < 7) : ((E a).drop (8 * i)).take 8 = B8 (a / 256 ^ (8 * i)) := by
  rw [E, ← List.map_drop, digs_drop 256 (by omega), ← List.map_take, digs_take 256 (by omega)]
  rfl
theorem EE_word {l : List Nat} {k a : Nat} (hk : l[k]? = some a) {i off : Nat} (hi : i < 7) (ho : 56 * k + 8 * i = off) : ((EE l).drop off).take 8 = B8 (a / 256 ^ (8 * i)) := by
  subst ho
  rw [← List.drop_drop, EE_drop]
  obtain ⟨h1, h2⟩ := List.getElem?_eq_some_iff.1 hk
  rw [List.drop_eq_getElem_cons h1, h2, EE, List.drop_append_of_le_length (by rw [E_length]; omega), List.take_append_of_le_length (by rw [List.length_drop, E_length]; omega)]
  exact E_word a i hi

theorem B8_mod (x : Nat) : B8 (x % 18446744073709551616) = B8 x := by
  have : (18446744073709551616 : Nat) = 256 ^ 8 := rfl
  rw [B8, B8, this, digs_mod]
/-- Seven words side by side are an element. -/
theorem B8_seven (n : Nat) : B8 n ++ B8 (n / 256 ^ 8) ++ B8 (n / 256 ^ 16) ++ B8 (n / 256 ^ 24) ++ B8 (n / 256 ^ 32) ++ B8 (n / 256 ^ 40) ++ B8 (n / 256 ^ 48) = E n := by
  have e : ∀ j, digs 256 (j + 8) n = digs 256 j n ++ digs 256 8 (n / 256 ^ j) := fun j => digs_add 256 j 8 n
  have h := e 48
  rw [e 40, e 32, e 24, e 16, e 8] at h
  unfold B8 E
  rw [h]
  simp only [List.map_append]
end Go.Proofs.YtjlhhcdefcofkaaGreatDoor

/- Laws of arithmetic on words: operands and results as natural numbers. -/
namespace Go.Proofs.YtjlhhcdefcofkaaGreatDoor
open Go

theorem wrap_u64 (n : Int) : IntKind.u64.wrap n = n % 18446744073709551616 := by simp [IntKind.wrap, IntKind.bits, IntKind.signed]
theorem wrap_u8 (n : Int) : IntKind.u8.wrap n = n % 256 := by simp [IntKind.wrap, IntKind.bits, IntKind.signed]
theorem wrap_u32 (n : Int) : IntKind.u32.wrap n = n % 4294967296 := by simp [IntKind.wrap, IntKind.bits, IntKind.signed]
theorem wrap_i64 (n : Int) (h0 : -9223372036854775808 ≤ n) (h : n < 9223372036854775808) : IntKind.i64.wrap n = n := by
  simp [IntKind.wrap, IntKind.bits, IntKind.signed]
  split <;> omega
theorem wrap_i32 (n : Int) (h0 : -2147483648 ≤ n) (h : n < 2147483648) : IntKind.i32.wrap n = n := by
  simp [IntKind.wrap, IntKind.bits, IntKind.signed]
  split <;> omega
theorem wrap_i8 (n : Int) (h0 : -128 ≤ n) (h : n < 128) : IntKind.i8.wrap n = n := by
  simp [IntKind.wrap, IntKind.bits, IntKind.signed]
  split <;> omega

theorem ofInt_nat (m x : Nat) : (BitVec.ofInt m (x : Int)).toNat = x % 2 ^ m := by simp

section
variable {P : Program} {St : Slots} {M : Mem} {o : Oper} {T T' : TypeId} {x y : Operand}

/-! ### uint64 -/
theorem opr_add64 {a b : Nat} (ho : o.op = .binOp .add T x y T') (hx : evalS St x = some (.int .u64 (a : Int))) (hy : evalS St y = some (.int .u64 (b : Int))) : OpR P St M o (Det (.int .u64 (((a + b) % 18446744073709551616 : Nat) : Int)) M) := by
  have h := opr_binOp (P := P) (M := M) (v := .int .u64 (IntKind.u64.wrap ((a : Int) + b))) ho hx hy (fun _ => rfl)
  rw [wrap_u64] at h
  have e : ((a : Int) + b) % 18446744073709551616 = (((a + b) % 18446744073709551616 : Nat) : Int) := by omega
  rw [e] at h; exact h
theorem opr_sub64 {a b : Nat} (ho : o.op = .binOp .sub T x y T') (hx : evalS St x = some (.int .u64 (a : Int))) (hy : evalS St y = some (.int .u64 (b : Int))) (hb : b ≤ 18446744073709551616) : OpR P St M o (Det (.int .u64 (((a + (18446744073709551616 - b)) % 18446744073709551616 : Nat) : Int)) M) := by
  have h := opr_binOp (P := P) (M := M) (v := .int .u64 (IntKind.u64.wrap ((a : Int) - b))) ho hx hy (fun _ => rfl)
  rw [wrap_u64] at h
  have e : ((a : Int) - b) % 18446744073709551616 = (((a + (18446744073709551616 - b)) % 18446744073709551616 : Nat) : Int) := by omega
  rw [e] at h; exact h
theorem opr_mul64 {a b : Nat} (ho : o.op = .binOp .mul T x y T') (hx : evalS St x = some (.int .u64 (a : Int))) (hy : evalS St y = some (.int .u64 (b : Int))) : OpR P St M o (Det (.int .u64 (((a * b) % 18446744073709551616 : Nat) : Int)) M) := by
  have h := opr_binOp (P := P) (M := M) (v := .int .u64 (IntKind.u64.wrap ((a : Int) * b))) ho hx hy (fun _ => rfl)
  rw [wrap_u64] at h
  have e : ((a : Int) * b) % 18446744073709551616 = (((a * b) % 18446744073709551616 : Nat) : Int) := by
    rw [← Int.natCast_mul]; omega
  rw [e] at h; exact h
theorem run_shl (k k' : IntKind) (a : Int) (n : Nat) (P : Program) (T : TypeId) (w : World) : (binOp .shl T (.int k a) (.int k' (n : Int))).run P w = .ok (.int k (k.wrap (a * 2 ^ (min n k.bits)))) w := by
  have h : ¬ (n : Int) < 0 := by omega
  simp only [binOp, Op.shift, h, if_false, Int.toNat_natCast, Sem.run_pure]
theorem run_shr (k k' : IntKind) (a : Int) (n : Nat) (P : Program) (T : TypeId) (w : World) : (binOp .shr T (.int k a) (.int k' (n : Int))).run P w = .ok (.int k (a.fdiv (2 ^ (min n k.bits)))) w := by
  have h : ¬ (n : Int) < 0 := by omega
  simp only [binOp, Op.shift, h, if_false, Int.toNat_natCast, Sem.run_pure]
theorem opr_shl64 {k' : IntKind} {a n : Nat} (ho : o.op = .binOp .shl T x y T') (hx : evalS St x = some (.int .u64 (a : Int))) (hy : evalS St y = some (.int k' (n : Int))) (hn : n ≤ 64) : OpR P St M o (Det (.int .u64 (((a * 2 ^ n) % 18446744073709551616 : Nat) : Int)) M) := by
  have h := opr_binOp (P := P) (M := M) ho hx hy (fun w => run_shl .u64 k' a n P T w)
  have e0 : min n (IntKind.u64.bits) = n := Nat.min_eq_left hn
  rw [wrap_u64, e0] at h
  have e : ((a : Int) * 2 ^ n) % 18446744073709551616 = (((a * 2 ^ n) % 18446744073709551616 : Nat) : Int) := by
    have e1 : (a : Int) * 2 ^ n = ((a * 2 ^ n : Nat) : Int) := by rw [Int.natCast_mul, Int.natCast_pow]; rfl
    rw [e1]; omega
  rw [e] at h; exact h
theorem fdiv_nat (a n : Nat) : (a : Int).fdiv (2 ^ n) = ((a / 2 ^ n : Nat) : Int) := by
  have h : (0 : Int) ≤ 2 ^ n := Int.pow_nonneg (by decide)
  rw [Int.fdiv_eq_ediv_of_nonneg _ h]
  push_cast
  rfl
theorem opr_shr64 {k' : IntKind} {a n : Nat} (ho : o.op = .binOp .shr T x y T') (hx : evalS St x = some (.int .u64 (a : Int))) (hy : evalS St y = some (.int k' (n : Int))) (hn : n ≤ 64) : OpR P St M o (Det (.int .u64 ((a / 2 ^ n : Nat) : Int)) M) := by
  have h := opr_binOp (P := P) (M := M) ho hx hy (fun w => run_shr .u64 k' a n P T w)
  have e0 : min n (IntKind.u64.bits) = n := Nat.min_eq_left hn
  rw [e0, fdiv_nat] at h; exact h
theorem opr_shr8 {k' : IntKind} {a n : Nat} (ho : o.op = .binOp .shr T x y T') (hx : evalS St x = some (.int .u8 (a : Int))) (hy : evalS St y = some (.int k' (n : Int))) (hn : n ≤ 8) : OpR P St M o (Det (.int .u8 ((a / 2 ^ n : Nat) : Int)) M) := by
  have h := opr_binOp (P := P) (M := M) ho hx hy (fun w => run_shr .u8 k' a n P T w)
  have e0 : min n (IntKind.u8.bits) = n := Nat.min_eq_left hn
  rw [e0, fdiv_nat] at h; exact h

theorem opr_or64 {a b : Nat} (ho : o.op = .binOp .or T x y T') (hx : evalS St x = some (.int .u64 (a : Int))) (hy : evalS St y = some (.int .u64 (b : Int))) (ha : a < 18446744073709551616) (hb : b < 18446744073709551616) : OpR P St M o (Det (.int .u64 ((a ||| b : Nat) : Int)) M) := by
  have h := opr_binOp (P := P) (M := M) (v := .int .u64 (bits .or .u64 (a : Int) (b : Int))) ho hx hy (fun _ => rfl)
  rw [u64_or_nat a b ha hb] at h; exact h
theorem opr_and64 {a b : Nat} (ho : o.op = .binOp .and T x y T') (hx : evalS St x = some (.int .u64 (a : Int))) (hy : evalS St y = some (.int .u64 (b : Int))) (ha : a < 18446744073709551616) (hb : b < 18446744073709551616) : OpR P St M o (Det (.int .u64 ((a &&& b : Nat) : Int)) M) := by
  have h := opr_binOp (P := P) (M := M) (v := .int .u64 (bits .and .u64 (a : Int) (b : Int))) ho hx hy (fun _ => rfl)
  rw [u64_and_nat a b ha hb] at h; exact h
theorem opr_xor64 {a b : Nat} (ho : o.op = .binOp .xor T x y T') (hx : evalS St x = some (.int .u64 (a : Int))) (hy : evalS St y = some (.int .u64 (b : Int))) (ha : a < 18446744073709551616) (hb : b < 18446744073709551616) : OpR P St M o (Det (.int .u64 ((a ^^^ b : Nat) : Int)) M) := by
  have h := opr_binOp (P := P) (M := M) (v := .int .u64 (bits .xor .u64 (a : Int) (b : Int))) ho hx hy (fun _ => rfl)
  rw [u64_xor_nat a b ha hb] at h; exact h
theorem opr_rem64 {a b : Nat} (ho : o.op = .binOp .rem T x y T') (hx : evalS St x = some (.int .u64 (a : Int))) (hy : evalS St y = some (.int .u64 (b : Int))) (hb : 0 < b) : OpR P St M o (Det (.int .u64 ((a % b : Nat) : Int)) M) := by
  have h0 : ¬ (b : Int) = 0 := by omega
  have h := opr_binOp (P := P) (M := M) (v := .int .u64 ((a : Int).tmod b)) ho hx hy (fun w => by simp only [binOp, Op.intDiv, h0, if_false, ne_eq, not_true_eq_false, Sem.run_pure])
  rw [Int.tmod_eq_emod_of_nonneg (by omega)] at h
  rw [← Int.natCast_emod] at h; exact h
theorem opr_quo64 {a b : Nat} (ho : o.op = .binOp .quo T x y T') (hx : evalS St x = some (.int .u64 (a : Int))) (hy : evalS St y = some (.int .u64 (b : Int))) (hb : 0 < b) (ha : a < 18446744073709551616) : OpR P St M o (Det (.int .u64 ((a / b : Nat) : Int)) M) := by
  have h0 : ¬ (b : Int) = 0 := by omega
  have h := opr_binOp (P := P) (M := M) (v := .int .u64 (IntKind.u64.wrap ((a : Int).tdiv b))) ho hx hy (fun w => by simp only [binOp, Op.intDiv, h0, if_false, ne_eq, not_true_eq_false, Sem.run_pure])
  rw [wrap_u64, Int.tdiv_eq_ediv_of_nonneg (by omega), ← Int.natCast_ediv] at h
  have : ((a / b : Nat) : Int) % 18446744073709551616 = ((a / b : Nat) : Int) := by
    have := Nat.div_le_self a b
    have := Int.natCast_nonneg (a / b)
    omega
  rw [this] at h; exact h

/-! ### comparisons of natural numbers, of whatever kind -/
theorem opr_lss {k : IntKind} {a b : Nat} (ho : o.op = .binOp .lss T x y T') (hx : evalS St x = some (.int k (a : Int))) (hy : evalS St y = some (.int k (b : Int))) : OpR P St M o (Det (.bool (decide (a < b))) M) := by
  have h := opr_binOp (P := P) (M := M) (v := .bool (decide ((a : Int) < b))) ho hx hy (fun w => by simp only [binOp, Op.intCmp, ne_eq, not_true_eq_false, if_false, Sem.run_pure])
  have e : decide ((a : Int) < b) = decide (a < b) := by congr 1; simp
  rw [e] at h; exact h
theorem opr_eql {k : IntKind} {a b : Nat} (ho : o.op = .binOp .eql T x y T') (hx : evalS St x = some (.int k (a : Int))) (hy : evalS St y = some (.int k (b : Int))) : OpR P St M o (Det (.bool (decide (a = b))) M) := by
  have h := opr_binOp (P := P) (M := M) (v := .bool ((a : Int) == b)) ho hx hy (fun w => by simp only [binOp, Op.intCmp, ne_eq, not_true_eq_false, if_false, Sem.run_pure])
  have e : ((a : Int) == b) = decide (a = b) := by rw [Bool.eq_iff_iff]; simp; omega
  rw [e] at h; exact h
theorem opr_neq {k : IntKind} {a b : Nat} (ho : o.op = .binOp .neq T x y T') (hx : evalS St x = some (.int k (a : Int))) (hy : evalS St y = some (.int k (b : Int))) : OpR P St M o (Det (.bool (decide (a ≠ b))) M) := by
  have h := opr_binOp (P := P) (M := M) (v := .bool ((a : Int) != b)) ho hx hy (fun w => by simp only [binOp, Op.intCmp, ne_eq, not_true_eq_false, if_false, Sem.run_pure])
  have e : ((a : Int) != b) = decide (a ≠ b) := by rw [Bool.eq_iff_iff]; simp; omega
  rw [e] at h; exact h
theorem opr_gtr {k : IntKind} {a b : Nat} (ho : o.op = .binOp .gtr T x y T') (hx : evalS St x = some (.int k (a : Int))) (hy : evalS St y = some (.int k (b : Int))) : OpR P St M o (Det (.bool (decide (b < a))) M) := by
  have h := opr_binOp (P := P) (M := M) (v := .bool (decide ((a : Int) > b))) ho hx hy (fun w => by simp only [binOp, Op.intCmp, ne_eq, not_true_eq_false, if_false, Sem.run_pure])
  have e : decide ((a : Int) > b) = decide (b < a) := by congr 1; simp
  rw [e] at h; exact h

/-! ### counters (int), as natural numbers; and where one goes below 0 -/
theorem opr_addI {a b : Nat} (ho : o.op = .binOp .add T x y T') (hx : evalS St x = some (.int .i64 (a : Int))) (hy : evalS St y = some (.int .i64 (b : Int))) (h : a + b < 9223372036854775808) : OpR P St M o (Det (.int .i64 ((a + b : Nat) : Int)) M) := by
  have h1 := opr_binOp (P := P) (M := M) (v := .int .i64 (IntKind.i64.wrap ((a : Int) + b))) ho hx hy (fun _ => rfl)
  rw [wrap_i64 _ (by omega) (by omega)] at h1
  exact h1
theorem opr_subI {a b : Nat} (ho : o.op = .binOp .sub T x y T') (hx : evalS St x = some (.int .i64 (a : Int))) (hy : evalS St y = some (.int .i64 (b : Int))) (h : b ≤ a) (ha : a < 9223372036854775808) : OpR P St M o (Det (.int .i64 ((a - b : Nat) : Int)) M) := by
  have h1 := opr_binOp (P := P) (M := M) (v := .int .i64 (IntKind.i64.wrap ((a : Int) - b))) ho hx hy (fun _ => rfl)
  rw [wrap_i64 _ (by omega) (by omega)] at h1
  have e : (a : Int) - b = ((a - b : Nat) : Int) := by omega
  rw [e] at h1; exact h1
theorem opr_subIZ {a b : Int} (ho : o.op = .binOp .sub T x y T') (hx : evalS St x = some (.int .i64 a)) (hy : evalS St y = some (.int .i64 b)) (h0 : -9223372036854775808 ≤ a - b) (h : a - b < 9223372036854775808) {c : Int} (hc : a - b = c) : OpR P St M o (Det (.int .i64 c) M) := by
  have h1 := opr_binOp (P := P) (M := M) (v := .int .i64 (IntKind.i64.wrap (a - b))) ho hx hy (fun _ => rfl)
  rw [wrap_i64 _ h0 h, hc] at h1
  exact h1
theorem opr_mulI {a b : Nat} (ho : o.op = .binOp .mul T x y T') (hx : evalS St x = some (.int .i64 (a : Int))) (hy : evalS St y = some (.int .i64 (b : Int))) (h : a * b < 9223372036854775808) : OpR P St M o (Det (.int .i64 ((a * b : Nat) : Int)) M) := by
  have h1 := opr_binOp (P := P) (M := M) (v := .int .i64 (IntKind.i64.wrap ((a : Int) * b))) ho hx hy (fun _ => rfl)
  have e : (a : Int) * b = ((a * b : Nat) : Int) := by push_cast; rfl
  rw [e, wrap_i64 _ (by omega) (by omega)] at h1
  exact h1
theorem opr_quoI {a b : Nat} (ho : o.op = .binOp .quo T x y T') (hx : evalS St x = some (.int .i64 (a : Int))) (hy : evalS St y = some (.int .i64 (b : Int))) (hb : 0 < b) (ha : a < 9223372036854775808) : OpR P St M o (Det (.int .i64 ((a / b : Nat) : Int)) M) := by
  have h0 : ¬ (b : Int) = 0 := by omega
  have h := opr_binOp (P := P) (M := M) (v := .int .i64 (IntKind.i64.wrap ((a : Int).tdiv b))) ho hx hy (fun w => by simp only [binOp, Op.intDiv, h0, if_false, ne_eq, not_true_eq_false, Sem.run_pure])
  have := Nat.div_le_self a b
  have := Int.natCast_nonneg (a / b)
  rw [Int.tdiv_eq_ediv_of_nonneg (by omega), ← Int.natCast_ediv, wrap_i64 _ (by omega) (by omega)] at h
  exact h
theorem opr_remI {a b : Nat} (ho : o.op = .binOp .rem T x y T') (hx : evalS St x = some (.int .i64 (a : Int))) (hy : evalS St y = some (.int .i64 (b : Int))) (hb : 0 < b) : OpR P St M o (Det (.int .i64 ((a % b : Nat) : Int)) M) := by
  have h0 : ¬ (b : Int) = 0 := by omega
  have h := opr_binOp (P := P) (M := M) (v := .int .i64 ((a : Int).tmod b)) ho hx hy (fun w => by simp only [binOp, Op.intDiv, h0, if_false, ne_eq, not_true_eq_false, Sem.run_pure])
  rw [Int.tmod_eq_emod_of_nonneg (by omega)] at h
  rw [← Int.natCast_emod] at h; exact h
theorem opr_geqZ {a : Int} (ho : o.op = .binOp .geq T x y T') (hx : evalS St x = some (.int .i64 a)) (hy : evalS St y = some (.int .i64 0)) : OpR P St M o (Det (.bool (decide (0 ≤ a))) M) := by
  have h := opr_binOp (P := P) (M := M) (v := .bool (decide (a ≥ 0))) ho hx hy (fun w => by simp only [binOp, Op.intCmp, ne_eq, not_true_eq_false, if_false, Sem.run_pure])
  exact h

/-! ### conversions -/
theorem opr_to64 {S' D : TypeId} {k : IntKind} {n : Nat} {d : TypeDesc} (ho : o.op = .convert S' D x) (hx : evalS St x = some (.int k (n : Int))) (hs : P.underlying S' = some d) (hd : P.underlying D = some (.int .u64)) (hn : n < 18446744073709551616) : OpR P St M o (Det (.int .u64 (n : Int)) M) := by
  have h := opr_convert (P := P) (M := M) ho hx hs hd
  have e : IntKind.u64.wrap (n : Int) = (n : Int) := by rw [wrap_u64]; omega
  rw [e] at h; exact h
theorem opr_to8 {S' D : TypeId} {k : IntKind} {n : Nat} {d : TypeDesc} (ho : o.op = .convert S' D x) (hx : evalS St x = some (.int k (n : Int))) (hs : P.underlying S' = some d) (hd : P.underlying D = some (.int .u8)) : OpR P St M o (Det (.int .u8 ((n % 256 : Nat) : Int)) M) := by
  have h := opr_convert (P := P) (M := M) ho hx hs hd
  have e : IntKind.u8.wrap (n : Int) = ((n % 256 : Nat) : Int) := by rw [wrap_u8]; omega
  rw [e] at h; exact h
theorem opr_toI {S' D : TypeId} {k : IntKind} {n : Nat} {d : TypeDesc} (ho : o.op = .convert S' D x) (hx : evalS St x = some (.int k (n : Int))) (hs : P.underlying S' = some d) (hd : P.underlying D = some (.int .i64)) (hn : n < 9223372036854775808) : OpR P St M o (Det (.int .i64 (n : Int)) M) := by
  have h := opr_convert (P := P) (M := M) ho hx hs hd
  have e : IntKind.i64.wrap (n : Int) = (n : Int) := by rw [wrap_i64 _ (by omega) (by omega)]
  rw [e] at h; exact h
end
end Go.Proofs.YtjlhhcdefcofkaaGreatDoor
