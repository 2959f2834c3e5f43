/- From a walk to a row: arguments that lie in no memory read the same in every world; a listed array of bytes is a block that is followed. -/
import Derived.Test.YtjlhhcdefcofkaaGreatDoorEq
import Derived.ProofKit
import Derived.LaidMore
import Derived.OpenShut
import Derived.Lib.LaidTab
import Derived.Stop.Joined
import Derived.Carry
import Derived.SevenTiedAt
namespace Go.Proofs.YtjlhhcdefcofkaaGreatDoor
open Go Go.ChangeShapes Go.WideShapes Go.ChangeAt Go.WideMaps Go.WideElems Go.RowKit

theorem mapM_keep {α β : Type} {f g : α → Option β} : ∀ {l : List α} {r : List β}, (∀ a ∈ l, ∀ b, f a = some b → g a = some b) → l.mapM f = some r → l.mapM g = some r
  | [], r, _, h => by simpa using h
  | x :: l, r, hfg, h => by
    simp only [List.mapM_cons, Option.bind_eq_bind, Option.bind_eq_some_iff, Option.pure_def, Option.some.injEq] at h ⊢
    obtain ⟨b, hb, r', hr', rfl⟩ := h
    exact ⟨b, hfg x (List.mem_cons_self ..) b hb, r', mapM_keep (fun a ha => hfg a (List.mem_cons_of_mem _ ha)) hr', rfl⟩
theorem mapM_all {α β : Type} {f : α → Option β} {p : β → Prop} : ∀ {l : List α} {r : List β}, (∀ a ∈ l, ∀ b, f a = some b → p b) → l.mapM f = some r → ∀ b ∈ r, p b
  | [], r, _, h => by simp at h; subst h; simp
  | x :: l, r, hf, h => by
    simp only [List.mapM_cons, Option.bind_eq_bind, Option.bind_eq_some_iff, Option.pure_def, Option.some.injEq] at h
    obtain ⟨b, hb, r', hr', rfl⟩ := h
    intro c hc
    rcases List.mem_cons.1 hc with rfl | hc
    · exact hf x (List.mem_cons_self ..) _ hb
    · exact mapM_all (fun a ha => hf a (List.mem_cons_of_mem _ ha)) hr' c hc

section
variable {H : Type} {enc : TypeId × Value → H} {P : Program}

/-- Values of type t lie in no memory but their own. -/
def Own (enc : TypeId × Value → H) (P : Program) (t : TypeId) : Prop :=
  ∀ fuel cs W b sp hd d ps, DataW.trod enc P W b sp hd fuel t cs = some (d, ps) → ps = [] ∧ ∀ W' b' sp' hd', DataW.trod enc P W' b' sp' hd' fuel t cs = some (d, [])

theorem own_int {t : TypeId} {k : IntKind} (ht : P.underlying t = some (.int k)) : Own enc P t := by
  intro fuel cs W b sp hd d ps h
  obtain ⟨x, rfl, hx, hw⟩ := DataW.trod_int ht h
  cases fuel with
  | zero => simp [DataW.trod] at h
  | succ m =>
    simp only [Prod.mk.injEq] at hx
    obtain ⟨rfl, rfl⟩ := hx
    exact ⟨rfl, fun W' b' sp' hd' => by simp [DataW.trod, ht, hw]⟩
theorem own_bool {t : TypeId} (ht : P.underlying t = some .bool) : Own enc P t := by
  intro fuel cs W b sp hd d ps h
  cases fuel with
  | zero => simp [DataW.trod] at h
  | succ m =>
    have key : ∀ (W' : World) b' sp' hd' d' ps', DataW.trod enc P W' b' sp' hd' (m + 1) t cs = some (d', ps') ↔ ∃ x, cs = [.bool x] ∧ d' = .lit (.bool x) ∧ ps' = [] := by
      intro W' b' sp' hd' d' ps'
      unfold DataW.trod
      rw [ht]
      constructor
      · intro h
        rcases cs with _ | ⟨v, _ | ⟨v2, r⟩⟩
        · simp at h
        · cases v <;> simp at h
          exact ⟨_, rfl, h.1.symm, h.2⟩
        · simp at h
      · rintro ⟨x, rfl, rfl, rfl⟩
        rfl
    obtain ⟨x, rfl, rfl, rfl⟩ := (key ..).1 h
    exact ⟨rfl, fun W' b' sp' hd' => (key ..).2 ⟨x, rfl, rfl, rfl⟩⟩
theorem flatMap_nil {α β : Type} {l : List (α × List β)} (h : ∀ x ∈ l, x.2 = []) : l.flatMap (·.2) = [] := by
  rw [List.flatMap_eq_nil_iff]; exact h
theorem own_array {t e : TypeId} {n : Nat} (ht : P.underlying t = some (.array n e)) (he : Own enc P e) : Own enc P t := by
  intro fuel cs W b sp hd d ps h
  cases fuel with
  | zero => simp [DataW.trod] at h
  | succ m =>
    have key : ∀ (W' : World) b' sp' hd', DataW.trod enc P W' b' sp' hd' (m + 1) t cs = if cs.length = P.cellsOf t then ((List.range n).mapM fun i => DataW.trod enc P W' b' sp' hd' m e ((cs.drop (i * P.cellsOf e)).take (P.cellsOf e))).map fun xs => (.agg (xs.map (·.1)), xs.flatMap (·.2)) else none := by
      intro W' b' sp' hd'
      conv => lhs; unfold DataW.trod
      rw [ht]
    rw [key] at h
    split at h
    · rename_i hlen
      simp only [Option.map_eq_some_iff, Prod.mk.injEq] at h
      obtain ⟨xs, hxs, rfl, rfl⟩ := h
      have h2 := mapM_all (p := fun x => x.2 = []) (fun a _ x hx => (he m _ W b sp hd x.1 x.2 hx).1) hxs
      refine ⟨flatMap_nil h2, fun W' b' sp' hd' => ?_⟩
      rw [key, if_pos hlen, mapM_keep (fun a _ x hx => by
        have h3 := he m _ W b sp hd x.1 x.2 hx
        have h4 := h3.2 W' b' sp' hd'
        rw [← h3.1] at h4
        exact h4) hxs]
      simp only [Option.map_some, flatMap_nil h2]
    · simp at h
theorem own_struct {t : TypeId} {fs : Array Field} (ht : P.underlying t = some (.struct fs)) (hf : ∀ f ∈ fs.toList, Own enc P f.type) : Own enc P t := by
  intro fuel cs W b sp hd d ps h
  cases fuel with
  | zero => simp [DataW.trod] at h
  | succ m =>
    have key : ∀ (W' : World) b' sp' hd', DataW.trod enc P W' b' sp' hd' (m + 1) t cs = if cs.length = P.cellsOf t then (fs.toList.mapM fun f => DataW.trod enc P W' b' sp' hd' m f.type ((cs.drop f.offset).take (P.cellsOf f.type))).map fun xs => (.agg (xs.map (·.1)), xs.flatMap (·.2)) else none := by
      intro W' b' sp' hd'
      conv => lhs; unfold DataW.trod
      rw [ht]
    rw [key] at h
    split at h
    · rename_i hlen
      simp only [Option.map_eq_some_iff, Prod.mk.injEq] at h
      obtain ⟨xs, hxs, rfl, rfl⟩ := h
      have h2 := mapM_all (p := fun x => x.2 = []) (fun a ha x hx => (hf a ha m _ W b sp hd x.1 x.2 hx).1) hxs
      refine ⟨flatMap_nil h2, fun W' b' sp' hd' => ?_⟩
      rw [key, if_pos hlen, mapM_keep (fun a ha x hx => by
        have h3 := hf a ha m _ W b sp hd x.1 x.2 hx
        have h4 := h3.2 W' b' sp' hd'
        rw [← h3.1] at h4
        exact h4) hxs]
      simp only [Option.map_some, flatMap_nil h2]
    · simp at h
theorem Own.trod {t : TypeId} (h : Own enc P t) {W : World} {b : Nat} {sp : Nat → Bool} {hd : Bool} {v : Value} {d : DataW H} {ps : List MemPlace} (ht : DataW.Trod enc P W b sp hd t v d ps) :
    ps = [] ∧ ∀ W' b' sp' hd', DataW.Trod enc P W' b' sp' hd' t v d [] := by
  obtain ⟨fuel, hf⟩ := ht
  obtain ⟨h1, h2⟩ := h _ _ _ _ _ _ _ _ hf
  exact ⟨h1, fun W' b' sp' hd' => ⟨fuel, h2 W' b' sp' hd'⟩⟩

/-- An array of bytes, by value: a number's bytes. -/
theorem open_elt {T e : TypeId} (ht : P.underlying T = some (.array 56 e)) (he : P.underlying e = some (.int .u8)) (hce : P.cellsOf e = 1) (hct : P.cellsOf T = 56) {W : World} {base b : Nat} {sp : Nat → Bool} {hd : Bool} {v : Value} {d : DataW H} {ps : List MemPlace}
    (hok : Value.okWide P W .any base T v) (h : DataW.Trod enc P W b sp hd T v d ps) : ∃ a, a < RR ∧ v = .agg (E a).toArray := by
  obtain ⟨cs, rfl, hsz, _⟩ : ∃ cs, v = .agg cs ∧ cs.size = P.cellsOf T ∧ Row.okWide P W .any base T cs := by
    simpa [Value.okWide, ht] using hok
  obtain ⟨fuel, hf⟩ := h
  obtain ⟨xs, m, rfl, _, hlen, hn, hel⟩ := DataW.trod_array ht hf
  have hlen' : cs.toList.length = 56 := hlen.trans hct
  have hcell : ∀ i, i < 56 → ∃ x : Nat, x < 256 ∧ cs.toList[i]? = some (u8V x) := by
    intro i hi
    have h1 := hel i hi
    rw [hce, Nat.mul_one] at h1
    have hix : i < xs.length := by omega
    rw [List.getElem?_eq_getElem hix] at h1
    obtain ⟨x, hx, _, hw⟩ := DataW.trod_int he h1
    have h2 : ((Value.agg cs).cells.toList.drop i).take 1 = (cs.toList.drop i).take 1 := rfl
    rw [h2] at hx
    have hi' : i < cs.toList.length := by omega
    rw [List.drop_eq_getElem_cons hi', List.take_succ_cons, List.take_zero] at hx
    simp only [List.cons.injEq, and_true] at hx
    simp [Lit.wf, IntKind.min, IntKind.max, IntKind.signed, IntKind.bits] at hw
    refine ⟨x.toNat, by omega, ?_⟩
    rw [List.getElem?_eq_getElem hi', hx, u8V]
    congr 2
    omega
  let g : Value → Nat := fun v => match v with | .int _ n => n.toNat | _ => 0
  have hg : ∀ x, g (u8V x) = x := fun x => by simp [g, u8V]
  let l := cs.toList.map g
  have hl : l.length = 56 := by simp [l]; simpa using hlen'
  have hlt : ∀ y ∈ l, y < 256 := by
    intro y hy
    obtain ⟨i, hi⟩ := List.getElem?_of_mem hy
    have hi' : i < 56 := by have := (List.getElem?_eq_some_iff.1 hi).1; omega
    obtain ⟨x, hx, hxc⟩ := hcell i hi'
    simp only [l, List.getElem?_map, hxc, Option.map_some, hg, Option.some.injEq] at hi
    omega
  have hcs : cs.toList = l.map u8V := by
    apply List.ext_getElem?
    intro i
    by_cases hi : i < 56
    · obtain ⟨x, hx, hxc⟩ := hcell i hi
      simp only [l, List.getElem?_map, hxc, Option.map_some, hg]
    · rw [List.getElem?_eq_none (by omega), List.getElem?_eq_none (by rw [List.length_map, hl]; omega)]
  have hdig := digs_dval l hlt
  rw [hl] at hdig
  have h56 : (256 : Nat) ^ 56 = RR := by decide +kernel
  refine ⟨dval 256 l, by rw [← h56, ← hl]; exact dval_lt l hlt, ?_⟩
  rw [E, hdig, ← hcs]

/-- A listed array of bytes is a block that is followed. -/
theorem laid_block {W : World} {name : String} {rest : List (String × DataW Unit)} {g T e : Nat} {zs : List Nat} {n : Nat} (hg : P.globalNamed name = some g) (hty : (P.globals[g]?).map (·.type) = some T) (ht : P.underlying T = some (.array n e)) (he : P.underlying e = some (.int .u8))
    (hce : P.cellsOf e = 1) (hct : P.cellsOf T = n) (hn : zs.length = n) (hn0 : 0 < n) (h : laidMet P ((name, Lib.tabData .u8 (zs.map fun d : Nat => (d : Int))) :: rest) W) :
    ∃ t, W.heap[g]? = some (.cells (U zs).toArray t (0, 0)) := by
  have hT := Lib.tabIs_of_head hg hty ht he hce hct h
  obtain ⟨ps, ⟨g', t', cs, fuel, p, q, hg', _, hvar, _, _, rfl⟩, _, hfr⟩ := h
  obtain rfl := Option.some.inj (hg.symm.trans hg')
  have hT' := hT
  unfold Lib.TabIs at hT'
  rw [hT'] at hvar
  have hcs := Option.some.inj hvar
  subst hcs
  have hU : (List.map (fun z => Value.int IntKind.u8 z) (zs.map fun d : Nat => (d : Int))).toArray = (U zs).toArray := by
    rw [List.map_map]; rfl
  have hcell := hT.cell hg 0 (by simpa [hn] using hn0)
  have hmem : MemPlace.cell g 0 ∈ MemPlace.row ⟨g, 0, none⟩ (List.map (fun z => Value.int IntKind.u8 z) (zs.map fun d : Nat => (d : Int))).toArray.size ++ p ++ q := by
    apply List.mem_append_left
    apply List.mem_append_left
    simp only [MemPlace.row, List.mem_map, List.mem_range]
    exact ⟨0, by simpa [hn] using hn0, rfl⟩
  obtain ⟨⟨c, t, hheap⟩, _⟩ := hfr g 0 hmem
  refine ⟨t, ?_⟩
  rw [hheap]
  unfold World.var? at hT'
  rw [hg] at hT'
  simp only [Option.bind_some, hheap, Option.some.injEq] at hT'
  rw [hT', hU]
end

/-- What was there is as it was, where the followed blocks hold what they held. -/
theorem below_of {M : Mem} {W W' : World} (h0 : Has M W) (h : Inv W (ids M) M W') : Below W.heap.size W W' :=
  ⟨h.stp.os, h.stp.tape, h.stp.output, h.stp.size, fun k hk => by
    by_cases hm : k ∈ ids M
    · obtain ⟨b, hb, rfl⟩ := List.mem_map.1 hm
      rw [h.has.at_ b hb, h0.at_ b hb]
    · exact h.stp.block k hk hm⟩

section
variable {H : Type} {enc : TypeId × Value → H} {P : Program}
theorem trodAll_below (hl : laidOutB P = true) {W W' : World} (hb : Below W.heap.size W W') : ∀ {ts : List TypeId} {vs : List Value} {ds : List (DataW H)} {ps : List MemPlace}, (ts.all fun t => P.readableRec t && decide (t < P.types.size)) = true →
    DataW.TrodAll enc P W 0 (fun _ => true) true ts vs ds ps → (∀ x ∈ ps, x.block < W.heap.size) → DataW.TrodAll enc P W' 0 (fun b => decide (b < W.heap.size)) true ts vs ds ps
  | [], _, _, _, _, h, _ => by
    obtain ⟨rfl, rfl, rfl⟩ := trodAll_nil h
    exact h
  | t :: ts, _, _, _, ha, h, hlt => by
    obtain ⟨v, vs1, d, ds1, a, b, rfl, rfl, rfl, h1, h2⟩ := trodAll_cons h
    simp only [List.all_cons, Bool.and_eq_true, decide_eq_true_eq] at ha
    refine ⟨a, b, Below.trod hl ha.1.1 ha.1.2 h1 hb (fun x hx => hlt x (List.mem_append_left _ hx)), trodAll_below hl hb ?_ h2 (fun x hx => hlt x (List.mem_append_right _ hx)), rfl⟩
    simpa [List.all_eq_true] using ha.2

def varsOk (P : Program) (ns : List String) : Bool := ns.all fun n => match (P.globalNamed n).bind (P.globals[·]?) with
  | some gl => P.readableRec gl.type && decide (gl.type < P.types.size)
  | none => true
theorem trodVars_below (hl : laidOutB P = true) {W W' : World} (hb : Below W.heap.size W W') : ∀ {ns : List String} {gs : List (DataW H)} {ps : List MemPlace}, varsOk P ns = true → DataW.TrodVars enc P W (fun _ => true) ns gs ps → (∀ x ∈ ps, x.block < W.heap.size) →
    DataW.TrodVars enc P W' (fun b => decide (b < W.heap.size)) ns gs ps
  | [], [], _, _, h, _ => h
  | [], _ :: _, _, _, h, _ => h.elim
  | _ :: _, [], _, _, h, _ => h.elim
  | n :: ns, d :: ds, ps, hv, h, hlt => by
    obtain ⟨g, t, cs, fuel, p, q, h1, h2, h3, h4, hs, rfl⟩ := h
    have hg : ∃ gl, P.globals[g]? = some gl ∧ gl.type = t := by simpa using h2
    obtain ⟨gl, hgl, rfl⟩ := hg
    simp only [varsOk, List.all_cons, Bool.and_eq_true] at hv
    have ht := hv.1
    rw [h1, Option.bind_some, hgl] at ht
    simp only [Bool.and_eq_true, decide_eq_true_eq] at ht
    have h5 := Below.trod (v := .agg cs) hl ht.1 ht.2 ⟨fuel, h4⟩ hb (fun x hx => hlt x (by simp [hx]))
    obtain ⟨fuel', h6⟩ := h5
    have h3' : W'.var? P n = some cs := by
      unfold World.var? at h3 ⊢
      rw [h1, Option.bind_some] at h3 ⊢
      have hg : g < W.heap.size := by
        cases hh : W.heap[g]? with
        | none => rw [hh] at h3; cases h3
        | some o => exact (Array.getElem?_eq_some_iff.1 hh).1
      rw [hb.block g hg]; exact h3
    exact ⟨g, gl.type, cs, fuel', p, q, h1, h2, h3', h6, trodVars_below hl hb hv.2 hs (fun x hx => hlt x (by simp [hx])), rfl⟩

/-- The law returned true and left what was there as it was. -/
theorem post_true {f : Func} {s : ChangeSpec} {W W' : World} {args : Array Value} {ds gs : List (DataW H)} {before : List MemPlace} {tb : TypeId} (hl : laidOutB P = true) (hpar : (f.params.toList.all fun t => P.readableRec t && decide (t < P.types.size)) = true)
    (hvars : varsOk P s.vars = true) (hW : DataW.Whole enc P f.params.toList s.vars false W args.toList ds gs before) (hb : Below W.heap.size W W')
    (hfn : s.fn H (ds ++ gs) = { results := [.lit (.bool true)], args := ds, vars := gs }) (hres : f.resultTypes = #[tb]) (htb : P.underlying tb = some .bool) : s.post enc P f false true false false W args (.bool true) W' := by
  have hlt := hW.lt
  have hW0 := hW
  obtain ⟨p, q, hA, hV, rfl, _, _⟩ := hW
  refine ⟨ds, gs, p ++ q, [], p, q, hW0, ?_, ?_, ?_, Below.frame hb _, fun h => by cases h⟩
  · rw [hfn, hres]
    exact trodAll_mk1 (shut_bool htb true)
  · rw [hfn]
    exact trodAll_below hl hb hpar hA (fun x hx => hlt x (List.mem_append_left _ hx))
  · rw [hfn]
    exact trodVars_below hl hb hvars hV (fun x hx => hlt x (List.mem_append_right _ hx))
end

/-- From a function's walk to its call. -/
theorem calls_true {P : Program} {f : FuncId} {args : Array Value} {M : Mem} {W : World} (h : Ct P f args M (Det (.bool true) M)) (hM : Has M W) : Calls P f args W fun e W' => e = .returned (.bool true) ∧ Below W.heap.size W W' :=
  (h W hM).mono fun e W' he => by
    obtain ⟨v, M', ⟨rfl, rfl⟩, rfl, hI⟩ := he
    exact ⟨rfl, below_of hM hI⟩
theorem has_one {W : World} {g T : Nat} {cs : List Value} (h : W.heap[g]? = some (.cells cs.toArray T (0, 0))) : Has [⟨g, T, cs⟩] W :=
  ⟨fun b hb => by rw [List.mem_singleton.1 hb]; exact h, List.nodup_cons.2 ⟨by simp, List.nodup_nil⟩⟩
end Go.Proofs.YtjlhhcdefcofkaaGreatDoor
