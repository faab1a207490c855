import PyProof.Rows.All
import Wide.All
import OpenK.AllK
import Wide.FinOn
import Lean
import PySem.Challenge.RW_ny0147_01
set_option Elab.async false
section
open PySem PySem.W PyProof.Rows
set_option maxRecDepth 100000
namespace Mine
section
variable {p : Program} {w : World} {n₀ : Nat} {ann : Option Value}
/-- a stack of two frames or more -/
noncomputable def Deep (stk : List Frame) : Prop := ∃ f g r, stk = f :: g :: r
/-- a part of a tree runs to its end, wherever it stands -/
noncomputable def Runs (p : Program) (w : World) (n₀ : Nat) (ann : Option Value) {α : Type} (t : Sem α) (s : Shared) (n : Nat) (Q : α → Shared → Prop) : Prop :=
  ∃ a s', Q a s' ∧ ∃ k, k ≤ n ∧ ∀ (vs : List Value) (K : α → Sem Fin) (c : Code) (pos : Pos) (stk : List Frame), Deep stk → segGo treeTable p w n₀ ann 1 k s ⟨(t.keep vs).bind K, c, pos, stk⟩ = some (s', ⟨K a, c, pos, stk⟩)
variable {α β : Type} {s : Shared} {n m : Nat} {Q : α → Shared → Prop}
theorem segGo_add {b : Nat} : ∀ {k j : Nat} {s s' s'' : Shared} {t t' t'' : Thread}, segGo treeTable p w n₀ ann b k s t = some (s', t') → segGo treeTable p w n₀ ann b j s' t' = some (s'', t'') → segGo treeTable p w n₀ ann b (k + j) s t = some (s'', t'')
  | 0, j, s, s', s'', t, t', t'', h, h' => by
    obtain ⟨rfl, rfl⟩ : s = s' ∧ t = t' := by simpa [segGo] using h
    rw [Nat.zero_add]; exact h'
  | k + 1, j, s, s', s'', t, t', t'', h, h' => by
    rw [show k + 1 + j = k + j + 1 by omega]
    unfold segGo at h ⊢
    cases he : endAt b t with
    | some f => rw [he] at h; cases h
    | none =>
      rw [he] at h
      cases hk : stepOk n₀ ann t with
      | false => rw [hk] at h; cases h
      | true =>
        rw [hk] at h
        cases hs : step (denote treeTable) p w s t with
        | halt o s₂ => rw [hs] at h; cases h
        | go s₂ t₂ => rw [hs] at h; exact segGo_add h h'
theorem segGo_one {b : Nat} {s s' : Shared} {t t' : Thread} (h1 : endAt b t = none) (h2 : stepOk n₀ ann t = true) (h3 : step (denote treeTable) p w s t = .go s' t') : segGo treeTable p w n₀ ann b 1 s t = some (s', t') := by
  show (match endAt b t with | some _ => none | none => match stepOk n₀ ann t with | false => none | true => match step (denote treeTable) p w s t with | .go s' t' => segGo treeTable p w n₀ ann b 0 s' t' | .halt _ _ => none) = _
  rw [h1, h2, h3]; rfl
theorem endAt_none {b : Nat} {cur : Sem Fin} {c : Code} {pos : Pos} {stk : List Frame} (h : ∀ f, cur ≠ .pure (.done f)) : endAt b ⟨cur, c, pos, stk⟩ = none := by
  unfold endAt
  dsimp only
  split
  · exact absurd rfl (h _)
  · rfl
theorem runs_mono (h : Runs p w n₀ ann t s n Q) (hn : n ≤ m) {R : α → Shared → Prop} (hR : ∀ a s', Q a s' → R a s') : Runs p w n₀ ann t s m R :=
  let ⟨a, s', q, k, hk, g⟩ := h; ⟨a, s', hR _ _ q, k, Nat.le_trans hk hn, g⟩
theorem runs_pure {a : α} (h : Q a s) : Runs p w n₀ ann (Sem.pure a) s n Q := ⟨a, s, h, 0, Nat.zero_le _, fun _ _ _ _ _ _ => rfl⟩
theorem runs_bind {t : Sem β} {f : β → Sem α} (h : Runs p w n₀ ann t s n fun b s' => Runs p w n₀ ann (f b) s' m Q) : Runs p w n₀ ann (t.bind f) s (n + m) Q := by
  obtain ⟨b, s', ⟨a, s'', q, j, hj, g'⟩, k, hk, g⟩ := h
  refine ⟨a, s'', q, k + j, by omega, fun vs K c pos stk hD => ?_⟩
  rw [Sem.keep_bind, Sem.bind_assoc]
  exact segGo_add (g vs _ c pos stk hD) (g' vs K c pos stk hD)
theorem runs_keep {t : Sem α} {us : List Value} (h : Runs p w n₀ ann t s n Q) : Runs p w n₀ ann (t.keep us) s n Q := by
  obtain ⟨a, s', q, k, hk, g⟩ := h
  exact ⟨a, s', q, k, hk, fun vs K c pos stk hD => by rw [Sem.keep_keep]; exact g _ K c pos stk hD⟩
theorem runs_holding {t : Sem α} {us : List Value} (h : Runs p w n₀ ann t s n Q) : Runs p w n₀ ann (holding us t) s n Q := by
  rw [holding_eq_keep]; exact runs_keep h
theorem runs_step {t : Sem α} {t' : Sem α} {s₁ : Shared} (h : Runs p w n₀ ann t' s₁ n Q)
    (g : ∀ (vs : List Value) (K : α → Sem Fin) (c : Code) (pos : Pos) (stk : List Frame), Deep stk → segGo treeTable p w n₀ ann 1 1 s ⟨(t.keep vs).bind K, c, pos, stk⟩ = some (s₁, ⟨(t'.keep vs).bind K, c, pos, stk⟩)) : Runs p w n₀ ann t s (n + 1) Q := by
  obtain ⟨a, s', q, k, hk, g'⟩ := h
  refine ⟨a, s', q, 1 + k, by omega, fun vs K c pos stk hD => segGo_add (g vs K c pos stk hD) (g' vs K c pos stk hD)⟩
theorem runs_load {a : Addr} {part : Option Value} {k : Obj → Sem α} {o : Obj} (ho : s.heap.get? a = some o) (h : Runs p w n₀ ann (k o) s n Q) : Runs p w n₀ ann (.load a part k) s (n + 1) Q :=
  runs_step h fun vs K c pos stk hD => segGo_one (endAt_none (fun f => nofun)) rfl (by
    obtain ⟨heap, gens, drawn, toks, os⟩ := s
    show (match heap.get? a with | some o => Step.go _ _ | none => _) = _
    rw [show heap.get? a = some o from ho])
theorem runs_update {a : Addr} {part : Option Value} {f : Obj → Obj} {k : Unit → Sem α} {o : Obj} (hn : n₀ ≤ a) (ho : s.heap.get? a = some o) (h : Runs p w n₀ ann (k ()) { s with heap := s.heap.update a f } n Q) : Runs p w n₀ ann (.update a part f k) s (n + 1) Q :=
  runs_step h fun vs K c pos stk hD => segGo_one (endAt_none (fun f => nofun)) (by
      show (_ && (Nat.ble n₀ a || _ || _ || _)) = true
      rw [Nat.ble_eq_true_of_le hn]; rfl) (by
    obtain ⟨heap, gens, drawn, toks, os⟩ := s
    show (if (heap.get? a).isSome then Step.go _ _ else _) = _
    rw [show heap.get? a = some o from ho]; rfl)
theorem runs_rule {tag : String} {k : Unit → Sem α} (h : Runs p w n₀ ann (k ()) s n Q) : Runs p w n₀ ann (.rule tag k) s (n + 1) Q :=
  runs_step h fun vs K c pos stk hD => segGo_one (endAt_none (fun f => nofun)) rfl (by cases s; rfl)
theorem runs_ask {k : Setting → Sem α} (h : Runs p w n₀ ann (k ⟨p, w.params⟩) s n Q) : Runs p w n₀ ann (.ask k) s (n + 1) Q :=
  runs_step h fun vs K c pos stk hD => segGo_one (endAt_none (fun f => nofun)) rfl (by cases s; rfl)
theorem runs_point {l : List Value} {k : Unit → Sem α} (h : Runs p w n₀ ann (k ()) s n Q) : Runs p w n₀ ann (.point l k) s (n + 1) Q :=
  runs_step h fun vs K c pos stk hD => segGo_one (endAt_none (fun f => nofun)) rfl (by cases s; rfl)
theorem runs_alloc {o : Obj} {k : Addr → Sem α} (h : Runs p w n₀ ann (k s.heap.objs.size) { s with heap := s.heap.push o } n Q) : Runs p w n₀ ann (.alloc o k) s (n + 1) Q :=
  runs_step h fun vs K c pos stk hD => segGo_one (endAt_none (fun f => nofun)) rfl (by cases s; rfl)
end
end Mine
end
section
open PySem PySem.W PyProof.Rows
set_option maxRecDepth 100000
namespace Mine
section
noncomputable def put (h : Heap) (a : Addr) (o : Obj) : Heap := h.update a fun _ => o
noncomputable def setObj (es : Array (Int × Value)) (n : Nat) (t : SetTable) : Obj := ⟨.type "frozenset", none, .set es n t, #[]⟩
theorem get_put {h : Heap} {a : Addr} {o o' : Obj} (ho : h.get? a = some o) (ha : ∀ c d s, o' ≠ ⟨c, d, .freed, s⟩) : (put h a o').get? a = some o' := by
  have hs := Heap.lt_size ho
  unfold put Heap.update Heap.get?
  dsimp only
  have : (h.objs.modify a fun _ => o')[a]? = some o' := by
    rw [Array.getElem?_modify]; simp [hs]
  rw [this]
  obtain ⟨c, d, dt, sl⟩ := o'
  cases dt <;> first | rfl | exact absurd rfl (ha c d sl)
theorem get_put_set {h : Heap} {a : Addr} {o : Obj} {es : Array (Int × Value)} {n : Nat} {t : SetTable} (ho : h.get? a = some o) : (put h a (setObj es n t)).get? a = some (setObj es n t) :=
  get_put ho (fun c d s => by unfold setObj; intro z; injection z with _ _ z _; cases z)
theorem get_put_ne {h : Heap} {a b : Addr} {o : Obj} (hb : b ≠ a) : (put h a o).get? b = h.get? b := Heap.get?_update_ne h b a _ hb
theorem put_put {h : Heap} {a : Addr} {o o' : Obj} : put (put h a o) a o' = put h a o' := by
  unfold put Heap.update
  simp only [Heap.mk.injEq, and_true]
  apply Array.ext_getElem?
  intro i
  simp only [Array.getElem?_modify]
  by_cases e : a = i
  · subst e; simp; cases h.objs[a]? <;> rfl
  · simp [e]
theorem objs_of_get {h : Heap} {a : Addr} {o : Obj} (ho : h.get? a = some o) : h.objs[a]? = some o := by
  unfold Heap.get? at ho
  split at ho
  · cases ho
  · exact ho
theorem update_put {h : Heap} {a : Addr} {o : Obj} {f : Obj → Obj} (ho : h.get? a = some o) : h.update a f = put h a (f o) := by
  have hx := objs_of_get ho
  unfold put Heap.update
  simp only [Heap.mk.injEq, and_true]
  apply Array.ext_getElem?
  intro i
  simp only [Array.getElem?_modify]
  by_cases e : a = i
  · subst e; simp [hx]
  · simp [e]
variable {p : Program} {w : World} {n₀ : Nat} {ann : Option Value} {α β : Type} {s : Shared} {n m : Nat} {Q : α → Shared → Prop} {a : Addr} {es : Array (Int × Value)} {ep : Nat} {t : SetTable}
theorem fits_test (hf : t.fits es.size = true) : (t.place.size != es.size || decide (t.fill > t.mask)) = false := by
  unfold SetTable.fits at hf
  simp only [Bool.and_eq_true, beq_iff_eq, decide_eq_true_eq] at hf
  simp [hf.1, hf.2]
theorem runs_setState {f : Array (Int × Value) × Nat × SetTable → Sem α} (ho : s.heap.get? a = some (setObj es ep t)) (hf : t.fits es.size = true) (h : Runs p w n₀ ann (f (es, ep, t)) s n Q) : Runs p w n₀ ann ((setState a).bind f) s (n + 1) Q := by
  refine runs_load (o := setObj es ep t) (k := fun x => ((match x.data with
    | .set es n t => (do
      if t.place.size != es.size || t.fill > t.mask then PySem.unsupported "internal:set-table-does-not-fit-its-elements"
      pure (es, n, t) : Sem _)
    | _ => PySem.unsupported "internal:not-a-set") : Sem _).bind f) ho ?_
  show Runs p w n₀ ann (((do
      if t.place.size != es.size || t.fill > t.mask then PySem.unsupported "internal:set-table-does-not-fit-its-elements"
      pure (es, ep, t) : Sem _)).bind f) s n Q
  rw [fits_test hf]
  exact h
theorem runs_storeSet {es' : Array (Int × Value)} {t' : SetTable} {f : Unit → Sem α} (hn : n₀ ≤ a) (ho : s.heap.get? a = some (setObj es ep t)) (hz : es'.size ≤ sizeLine) (h : Runs p w n₀ ann (f ()) { s with heap := put s.heap a (setObj es' (ep + 1) t') } n Q) : Runs p w n₀ ann ((storeSet a es' t').bind f) s (n + 2) Q := by
  refine runs_load (o := setObj es ep t) (k := fun x => ((match x.data with
    | .set .. => (do
      if es'.size > sizeLine then PySem.unsupported "set:memory"
      PySem.update a (Obj.putSet es' t') : Sem _)
    | _ => PySem.unsupported "internal:write-to-non-set") : Sem _).bind f) ho ?_
  show Runs p w n₀ ann ((do
      if es'.size > sizeLine then PySem.unsupported "set:memory"
      PySem.update a (Obj.putSet es' t') : Sem _).bind f) s (n + 1) Q
  rw [if_neg (by omega)]
  refine runs_update (o := setObj es ep t) hn ho ?_
  rw [update_put ho]
  exact h
theorem byScan_ok {x : Str} {u : Tok} (hel : ∀ e ∈ es.toList, isExactStrKey e.2 = true) (hb : es.size < scanBound) : byScan (.str x u) es = true := by
  have hsc : es.all (fun e => e.2.scannable) = true := by
    rw [← Array.all_toList, List.all_eq_true]
    intro e he
    have := hel e he
    revert this
    cases e.2 <;> simp [isExactStrKey, Value.scannable]
  simp only [byScan, Value.scannable, Bool.true_and, Bool.and_eq_true, decide_eq_true_eq]
  exact ⟨hb, hsc⟩
theorem scan_absent {x : Str} {u : Tok} {hh : Int} {add : Bool} (hel : ∀ e ∈ es.toList, isExactStrKey e.2 = true) (hno : ∀ e ∈ es.toList, e.2.isStr x = false) : setScan a (.str x u) hh add es = .pure .absent := by
  unfold setScan
  dsimp only
  have hall : es.all (fun e => isExactStrKey e.2) = true := by
    rw [← Array.all_toList, List.all_eq_true]; exact hel
  rw [if_pos hall]
  unfold setScanStrs
  have hidx : es.findIdx? (fun e => e.2.isStr x) = none := by
    rw [Array.findIdx?_eq_none_iff]
    intro e he
    exact hno e (Array.mem_toList_iff.mpr he)
  rw [hidx]
  rfl
theorem standIn_fits (t : SetTable) (n : Nat) : (t.standIn n).fits n = true := by
  unfold SetTable.fits SetTable.standIn SetTable.fill
  simp
  omega
theorem orStandIn_fits (t : SetTable) (n : Nat) : (t.orStandIn n).fits n = true := by
  unfold SetTable.orStandIn
  split
  · assumption
  · exact standIn_fits _ _
theorem insertAt_perm {α : Type} (xs : Array α) (p : Nat) (x : α) : (SetTable.insertAt xs p x).toList.Perm (x :: xs.toList) := by
  unfold SetTable.insertAt
  simp only [Array.toList_append, Array.toList_push, Array.toList_extract, List.extract_eq_take_drop, List.drop_zero, Nat.sub_zero]
  have : (xs.toList.drop p).take (xs.size - p) = xs.toList.drop p := List.take_of_length_le (by simp)
  rw [this, List.append_assoc, List.singleton_append]
  refine List.perm_middle.trans ?_
  rw [List.take_append_drop]
theorem eraseAt_perm {α : Type} (xs : Array α) (p : Nat) (x : α) (h : xs.toList[p]? = some x) : (x :: (SetTable.eraseAt xs p).toList).Perm xs.toList := by
  unfold SetTable.eraseAt
  simp only [Array.toList_append, Array.toList_extract, List.extract_eq_take_drop, List.drop_zero, Nat.sub_zero]
  have : (xs.toList.drop (p + 1)).take (xs.size - (p + 1)) = xs.toList.drop (p + 1) := List.take_of_length_le (by simp)
  rw [this]
  refine List.perm_middle.symm.trans ?_
  obtain ⟨hp, hx⟩ := List.getElem?_eq_some_iff.mp h
  rw [← hx, ← List.drop_eq_getElem_cons hp, List.take_append_drop]
theorem layNew_ok (t : SetTable) (es : Array (Int × Value)) (h : Int) (x : Value) : (layNew t es h x).1.toList.Perm ((h, x) :: es.toList) ∧ (layNew t es h x).2.1.fits (layNew t es h x).1.size = true := by
  unfold layNew
  split
  · exact ⟨insertAt_perm _ _ _, orStandIn_fits _ _⟩
  · refine ⟨?_, ?_⟩
    · simp only [Array.toList_push]
      exact (List.perm_append_comm (l₁ := es.toList) (l₂ := [(h, x)]))
    · simp only [Array.size_push]
      exact standIn_fits _ _
theorem filterMap_all {α β : Type} {f : α → Option β} {g : α → β} : ∀ (l : List α), (∀ a ∈ l, f a = some (g a)) → l.filterMap f = l.map g
  | [], _ => rfl
  | a :: l, h => by
    rw [List.filterMap_cons_some (h a (.head _)), List.map_cons, filterMap_all l fun b hb => h b (.tail _ hb)]
theorem filterMap_range (es : Array (Int × Value)) : (List.range es.size).filterMap (es[·]?) = es.toList := by
  apply List.ext_getElem?
  intro i
  have : (List.range es.size).filterMap (fun i => es[i]?) = (List.range es.size).map (fun i => es.getD i (0, .none)) := by
    apply filterMap_all
    intro j hj
    have hj := List.mem_range.mp hj
    simp [Array.getElem?_eq_getElem hj, Array.getD_eq_getD_getElem?]
  rw [this, List.getElem?_map]
  by_cases hi : i < es.size
  · rw [List.getElem?_range hi]; simp [Array.getElem?_eq_getElem hi, Array.getD_eq_getD_getElem?, hi]
  · rw [List.getElem?_eq_none (by simpa using hi), List.getElem?_eq_none (by simpa using hi)]; rfl
theorem order_perm {order : Array Nat} {es : Array (Int × Value)} (h : coversAll order es.size = true) : (order.filterMap (es[·]?)).toList.Perm es.toList := by
  unfold coversAll at h
  have h := List.isPerm_iff.mp h
  rw [Array.toList_filterMap]
  refine (h.filterMap _).trans ?_
  rw [filterMap_range]
theorem relayAll_ok (t : SetTable) (es : Array (Int × Value)) (k : Nat) : (relayAll t es k).1.toList.Perm es.toList ∧ (relayAll t es k).2.1.fits (relayAll t es k).1.size = true := by
  unfold relayAll
  split
  · dsimp only
    split
    · rename_i hc
      rw [Bool.and_eq_true] at hc
      exact ⟨order_perm hc.1, hc.2⟩
    · exact ⟨.refl _, standIn_fits _ _⟩
  · exact ⟨.refl _, standIn_fits _ _⟩
/-- a set object that bears the entries L, in any order -/
noncomputable def SetOf (o : Obj) (L : List (Int × Value)) : Prop := ∃ es n t, o = setObj es n t ∧ t.fits es.size = true ∧ es.toList.Perm L
theorem strs_of {L : List (Int × Value)} (hp : es.toList.Perm L) (hL : ∀ e ∈ L, isExactStrKey e.2 = true) : ∀ e ∈ es.toList, isExactStrKey e.2 = true := fun e he => hL e (hp.mem_iff.mp he)
theorem add_tail {gw : Bool → Sem Unit} {es1 : Array (Int × Value)} {t2 : SetTable} {wd : Bool} {cont : Option Bool → Sem Bool} {L : List (Int × Value)} {Q : Bool → Shared → Prop} (hg : ∀ (b : Bool) (f : Unit → Sem Bool) (s : Shared) (n : Nat), Runs p w n₀ ann (f ()) s n Q → Runs p w n₀ ann ((gw b).bind f) s (n + 1) Q)
    (hn : n₀ ≤ a) (ho : s.heap.get? a = some (setObj es ep t)) (hf : t2.fits es1.size = true) (hp : es1.toList.Perm L) (hz : L.length < 1001)
    (h : ∀ o', SetOf o' L → Runs p w n₀ ann (cont (some true)) { s with heap := put s.heap a o' } n Q) :
    Runs p w n₀ ann ((do
      storeSet a es1 t2
      if (!wd && t2.tooFull) = true then do
        gw (relayAll t2 es1 (SetTable.grown es1.size)).2.2
        storeSet a (relayAll t2 es1 (SetTable.grown es1.size)).1 (relayAll t2 es1 (SetTable.grown es1.size)).2.1
        pure (some true)
      else pure (some true) : Sem (Option Bool)).bind cont) s (n + 5) Q := by
  have hl : es1.size = L.length := by rw [← Array.length_toList]; exact hp.length_eq
  show Runs p w n₀ ann (((storeSet a es1 t2).bind fun _ => _).bind cont) s (n + 5) Q
  rw [Sem.bind_assoc]
  refine runs_storeSet (n := n + 3) hn ho (by rw [hl]; unfold sizeLine; omega) ?_
  obtain ⟨hp2, hf2⟩ := relayAll_ok t2 es1 (SetTable.grown es1.size)
  split
  · show Runs p w n₀ ann (((gw _).bind fun _ => _).bind cont) _ (n + 3) Q
    rw [Sem.bind_assoc]
    refine hg _ _ _ (n + 2) ?_
    show Runs p w n₀ ann (((storeSet a _ _).bind fun _ => _).bind cont) _ (n + 2) Q
    rw [Sem.bind_assoc]
    refine runs_storeSet (n := n) hn (get_put_set ho) ?_ ?_
    · rw [← Array.length_toList, hp2.length_eq, hp.length_eq]; unfold sizeLine; omega
    · show Runs p w n₀ ann (cont (some true)) _ n Q
      rw [put_put]
      exact h _ ⟨_, _, _, rfl, hf2, hp2.trans hp⟩
  · exact runs_mono (h _ ⟨_, _, _, rfl, hf, hp⟩) (by omega) fun _ _ z => z
theorem runs_setAdd {L : List (Int × Value)} {o : Obj} {x : Str} {u : Tok} {hh : Int} (hn : n₀ ≤ a) (ho : s.heap.get? a = some o) (hS : SetOf o L) (hL : ∀ e ∈ L, isExactStrKey e.2 = true) (hno : ∀ e ∈ L, e.2.isStr x = false) (hz : L.length < 1000) {Q : Bool → Shared → Prop}
    (h : ∀ o', SetOf o' ((hh, .str x u) :: L) → Q true { s with heap := put s.heap a o' }) : Runs p w n₀ ann (setAddHashed a (.str x u) hh) s 20 Q := by
  obtain ⟨es, n, t, rfl, hf, hp⟩ := hS
  have hel := strs_of hp hL
  have hsz : es.size = L.length := by rw [← Array.length_toList]; exact hp.length_eq
  show Runs p w n₀ ann (setAddHashedIn a (.str x u) hh 100000) s 20 Q
  refine runs_setState (n := 19) (f := fun r => _) ho hf ?_
  dsimp only
  rw [byScan_ok hel (by rw [hsz]; unfold scanBound; omega)]
  show Runs p w n₀ ann ((setAddByScan a (.str x u) hh es t).bind _) s 19 Q
  refine runs_rule (n := 18) ?_
  show Runs p w n₀ ann (((setScan a (.str x u) hh true es).bind _).bind _) s 18 Q
  rw [scan_absent hel (fun e he => hno e (hp.mem_iff.mp he))]
  obtain ⟨hp1, hf1⟩ := layNew_ok t es hh (.str x u)
  generalize hlay : layNew t es hh (.str x u) = r at hp1 hf1
  obtain ⟨es1, t1, wd, gave⟩ := r
  dsimp only at hp1 hf1
  show Runs p w n₀ ann ((do
    let (es, t, wasDummy, gave) := layNew t es hh (.str x u)
    _ : Sem _).bind _) s 18 Q
  rw [hlay]
  dsimp only
  have hf2 : ({ t1 with plain := false } : SetTable).fits es1.size = true := hf1
  have hg : ∀ (b : Bool) (f : Unit → Sem Bool) (s : Shared) (n : Nat), Runs p w n₀ ann (f ()) s n Q → Runs p w n₀ ann (((match b with | true => PySem.rule "set.scan.the-table-gave-way" | false => Sem.pure ()) : Sem Unit).bind f) s (n + 1) Q := fun b f s n h => by
    cases b
    · exact runs_mono h (by omega) fun _ _ z => z
    · exact runs_rule h
  have hpL := hp1.trans (hp.cons (hh, Value.str x u))
  have hfin : ∀ o', SetOf o' ((hh, Value.str x u) :: L) → Runs p w n₀ ann (Sem.pure true) { s with heap := put s.heap a o' } 0 Q := fun o' ho' => runs_pure (h o' ho')
  have key : ∀ b : Bool, Runs p w n₀ ann ((do
      if t1.plain = true then do
        let byValue ← hashByValue 8 (Value.str x u)
        let t := if byValue = true then t1 else { t1 with plain := false }
        storeSet a es1 t
        if (!wd && t.tooFull) = true then do
          (match (relayAll t es1 (SetTable.grown es1.size)).2.2 with | true => PySem.rule "set.scan.the-table-gave-way" | false => Sem.pure ())
          storeSet a (relayAll t es1 (SetTable.grown es1.size)).1 (relayAll t es1 (SetTable.grown es1.size)).2.1
          pure (some true)
        else pure (some true)
      else do
        let byValue ← pure true
        let t := if byValue = true then t1 else { t1 with plain := false }
        storeSet a es1 t
        if (!wd && t.tooFull) = true then do
          (match (relayAll t es1 (SetTable.grown es1.size)).2.2 with | true => PySem.rule "set.scan.the-table-gave-way" | false => Sem.pure ())
          storeSet a (relayAll t es1 (SetTable.grown es1.size)).1 (relayAll t es1 (SetTable.grown es1.size)).2.1
          pure (some true)
        else pure (some true) : Sem (Option Bool)).bind (fun r => match r with | some added => pure added | none => setAddHashedIn a (.str x u) hh 99999)) s 5 Q := by
    intro b
    cases hpl : t1.plain
    · exact add_tail (gw := fun b => match b with | true => PySem.rule "set.scan.the-table-gave-way" | false => Sem.pure ()) (n := 0) hg hn ho hf1 hpL (by simp; omega) hfin
    · exact add_tail (gw := fun b => match b with | true => PySem.rule "set.scan.the-table-gave-way" | false => Sem.pure ()) (n := 0) hg hn ho hf2 hpL (by simp; omega) hfin
  cases gave
  · exact runs_mono (key false) (by omega) fun _ _ z => z
  · exact runs_rule (n := 17) (runs_mono (key false) (by omega) fun _ _ z => z)
end
end Mine
end
section
open PySem PySem.W PyProof.Rows
set_option maxRecDepth 100000
namespace Mine
section
noncomputable def orb (M : Nat) : Nat → Nat → Nat → Nat × Nat
  | 0, i, q => (i, q)
  | m + 1, i, q => orb M m (SetTable.leap M i q).1 (SetTable.leap M i q).2
noncomputable def gg (M i : Nat) : Nat := (i * 5 + 1) % (M + 1)
noncomputable def git (M : Nat) : Nat → Nat → Nat
  | 0, i => i
  | m + 1, i => git M m (gg M i)
theorem git_add {M : Nat} : ∀ (a b i : Nat), git M (a + b) i = git M b (git M a i)
  | 0, b, i => by rw [Nat.zero_add]; rfl
  | a + 1, b, i => by rw [show a + 1 + b = (a + b) + 1 by omega]; exact git_add a b _
theorem orb_add {M : Nat} : ∀ (a b i q : Nat), orb M (a + b) i q = orb M b (orb M a i q).1 (orb M a i q).2
  | 0, b, i, q => by rw [Nat.zero_add]; rfl
  | a + 1, b, i, q => by rw [show a + 1 + b = (a + b) + 1 by omega]; exact orb_add a b _ _
theorem orb_zero {M : Nat} : ∀ (m i : Nat), orb M m i 0 = (git M m i, 0)
  | 0, i => rfl
  | m + 1, i => by
    show orb M m ((i * 5 + 1 + 0 / 32) % (M + 1)) (0 / 32) = _
    rw [Nat.zero_div, Nat.add_zero]
    exact orb_zero m _
theorem orb_snd {M : Nat} : ∀ (m i q : Nat), (orb M m i q).2 = q / 32 ^ m
  | 0, i, q => by show q = _; rw [Nat.pow_zero, Nat.div_one]
  | m + 1, i, q => by
    show (orb M m _ (q / 32)).2 = _
    rw [orb_snd m, Nat.div_div_eq_div_mul, Nat.pow_succ, Nat.mul_comm]
theorem orb_fst_lt {M : Nat} (m i q : Nat) (hi : i < M + 1) : (orb M m i q).1 < M + 1 := by
  induction m generalizing i q with
  | zero => exact hi
  | succ m ih => exact ih _ _ (Nat.mod_lt _ (Nat.succ_pos _))
/-- the leaps reach every place -/
noncomputable def Goes (M : Nat) : Prop := ((List.range (M + 1)).all fun j => (List.range (M + 1)).any fun m => git M m 0 == j) = true ∧ git M (M + 1) 0 = 0
theorem goes7 : Goes 7 := ⟨by decide +kernel, by decide +kernel⟩
theorem goes127 : Goes 127 := ⟨by decide +kernel, by decide +kernel⟩
theorem git_reach {M : Nat} (hG : Goes M) (i j : Nat) (hi : i < M + 1) (hj : j < M + 1) : ∃ m, m < M + 1 ∧ git M m i = j := by
  have key : ∀ x < M + 1, ∃ m < M + 1, git M m 0 = x := fun x hx => by
    have := List.all_eq_true.mp hG.1 x (List.mem_range.mpr hx)
    obtain ⟨m, hm, e⟩ := List.any_eq_true.mp this
    exact ⟨m, List.mem_range.mp hm, by simpa using e⟩
  obtain ⟨a, ha, ea⟩ := key i hi
  obtain ⟨b, hb, eb⟩ := key j hj
  by_cases h : a ≤ b
  · refine ⟨b - a, by omega, ?_⟩
    rw [← ea, ← git_add, show a + (b - a) = b by omega, eb]
  · refine ⟨b + (M + 1) - a, by omega, ?_⟩
    rw [← ea, ← git_add, show a + (b + (M + 1) - a) = (M + 1) + b by omega, git_add, hG.2, eb]
theorem orb_reach {M : Nat} (hG : Goes M) (i q j : Nat) (hi : i < M + 1) (hq : q < 2 ^ 64) (hj : j < M + 1) : ∃ m, m < M + 15 ∧ (orb M m i q).1 = j := by
  have h0 : (orb M 13 i q).2 = 0 := by rw [orb_snd]; exact Nat.div_eq_of_lt (Nat.lt_of_lt_of_le hq (by decide))
  obtain ⟨m, hm, e⟩ := git_reach hG (orb M 13 i q).1 j (orb_fst_lt _ _ _ hi) hj
  refine ⟨13 + m, by omega, ?_⟩
  rw [orb_add, h0, orb_zero]
  exact e
theorem free_spec {M : Nat} {owner : Array (Option Nat)} : ∀ (f i q : Nat), (∀ m, m < f → (owner.getD (orb M m i q).1 (some 0)).isNone = false) ∨ ∃ j, SetTable.layClean.free M owner f i q = some j ∧ (owner.getD j (some 0)).isNone = true
  | 0, i, q => .inl fun m hm => absurd hm (Nat.not_lt_zero _)
  | f + 1, i, q => by
    unfold SetTable.layClean.free
    cases hfi : (List.range (SetTable.runEnd M i + 1 - i)).find? fun k => (owner.getD (i + k) (some 0)).isNone with
    | some k =>
      exact .inr ⟨i + k, rfl, by simpa using List.find?_some hfi⟩
    | none =>
      rcases free_spec f (SetTable.leap M i q).1 (SetTable.leap M i q).2 with h | ⟨j, hj, hn⟩
      · refine .inl fun m hm => ?_
        cases m with
        | zero =>
          have := List.find?_eq_none.mp hfi 0 (List.mem_range.mpr (by unfold SetTable.runEnd; split <;> omega))
          rw [Nat.add_zero] at this
          exact Bool.eq_false_iff.mpr this
        | succ m => exact h m (by omega)
      · exact .inr ⟨j, hj, hn⟩
theorem free_ok {M : Nat} (hG : Goes M) {owner : Array (Option Nat)} (hs : owner.size = M + 1) (hx : none ∈ owner.toList) (i q : Nat) (hi : i < M + 1) (hq : q < 2 ^ 64) :
    ∃ j, SetTable.layClean.free M owner (SetTable.turns M) i q = some j ∧ owner.toList[j]? = some none := by
  rcases free_spec (owner := owner) (SetTable.turns M) i q with h | ⟨j, hj, hn⟩
  · exfalso
    obtain ⟨j, hjl, hj⟩ := List.getElem_of_mem hx
    rw [Array.length_toList, hs] at hjl
    obtain ⟨m, hm, e⟩ := orb_reach hG i q j hi hq hjl
    have := h m hm
    rw [e, Array.getD_eq_getD_getElem?, Array.getElem?_eq_getElem (by omega)] at this
    rw [Array.getElem_toList] at hj
    rw [hj] at this
    cases this
  · refine ⟨j, hj, ?_⟩
    rw [Array.getD_eq_getD_getElem?] at hn
    rw [Array.getElem?_toList]
    cases ho : owner[j]? with
    | none => rw [ho] at hn; cases hn
    | some v => rw [ho] at hn; cases v with
      | none => rfl
      | some v => cases hn
theorem fm_set : ∀ (l : List (Option Nat)) (j k : Nat), l[j]? = some none → ((l.set j (some k)).filterMap id).Perm (k :: l.filterMap id)
  | [], j, k, h => by simp at h
  | x :: l, 0, k, h => by
    obtain rfl : x = none := by simpa using h
    exact .refl _
  | x :: l, j + 1, k, h => by
    have ih := fm_set l j k (by simpa using h)
    cases x with
    | none => exact ih
    | some y => exact (ih.cons y).trans (.swap _ _ _)
noncomputable def Own (M : Nat) (owner : Array (Option Nat)) (k : Nat) : Prop := owner.size = M + 1 ∧ (owner.toList.filterMap id).Perm (List.range k)
theorem own_none {M : Nat} {owner : Array (Option Nat)} {k : Nat} (h : Own M owner k) (hk : k < M + 1) : none ∈ owner.toList := by
  by_cases hn : none ∈ owner.toList
  · exact hn
  · have : ∀ (l : List (Option Nat)), none ∉ l → (l.filterMap id).length = l.length := by
      intro l
      induction l with
      | nil => intro _; rfl
      | cons x l ih =>
        intro hx
        cases x with
        | none => exact absurd (.head _) hx
        | some y => simp [ih (fun z => hx (.tail _ z))]
    have h1 := this _ hn
    rw [h.2.length_eq, List.length_range, Array.length_toList, h.1] at h1
    omega
noncomputable def hLayStep (M : Nat) (acc : Option (Array (Option Nat) × Nat)) (h : Int) : Option (Array (Option Nat) × Nat) := do
  let (owner, k) ← acc
  let j ← SetTable.layClean.free M owner (SetTable.turns M) (SetTable.bits h % (M + 1)) (SetTable.bits h)
  pure (owner.setIfInBounds j (some k), k + 1)
theorem hLayStep_ok {M : Nat} (hG : Goes M) {owner : Array (Option Nat)} {k : Nat} (h : Own M owner k) (hk : k < M + 1) (x : Int) : ∃ owner', hLayStep M (some (owner, k)) x = some (owner', k + 1) ∧ Own M owner' (k + 1) := by
  have hb : SetTable.bits x < 2 ^ 64 := by
    unfold SetTable.bits
    have := Int.emod_lt_of_pos x (b := 2 ^ 64) (by decide)
    have := Int.emod_nonneg x (b := 2 ^ 64) (by decide)
    omega
  obtain ⟨j, hj, hn⟩ := free_ok hG h.1 (own_none h hk) (SetTable.bits x % (M + 1)) (SetTable.bits x) (Nat.mod_lt _ (Nat.succ_pos _)) hb
  refine ⟨owner.setIfInBounds j (some k), ?_, ?_, ?_⟩
  · unfold hLayStep
    show (Option.bind (SetTable.layClean.free M owner (SetTable.turns M) (SetTable.bits x % (M + 1)) (SetTable.bits x)) _) = _
    rw [hj]; rfl
  · simp [h.1]
  · rw [Array.toList_setIfInBounds]
    refine (fm_set _ _ _ hn).trans ((h.2.cons k).trans ?_)
    rw [List.range_succ]
    exact List.perm_append_comm (l₁ := [k])
theorem lay_fold {M : Nat} (hG : Goes M) : ∀ (l : List Int) (owner : Array (Option Nat)) (k : Nat), Own M owner k → k + l.length ≤ M + 1 → ∃ owner', l.foldl (hLayStep M) (some (owner, k)) = some (owner', k + l.length) ∧ Own M owner' (k + l.length)
  | [], owner, k, h, _ => ⟨owner, rfl, h⟩
  | x :: l, owner, k, h, hl => by
    simp only [List.length_cons] at hl
    obtain ⟨o1, e1, h1⟩ := hLayStep_ok hG h (by omega) x
    obtain ⟨o2, e2, h2⟩ := lay_fold hG l o1 (k + 1) h1 (by omega)
    refine ⟨o2, ?_, ?_⟩
    · rw [List.foldl_cons, e1, e2, List.length_cons]; congr 2; omega
    · rw [List.length_cons, show k + (l.length + 1) = k + 1 + l.length by omega]; exact h2
theorem layClean_ok {M : Nat} (hG : Goes M) (hs : Array Int) (hl : hs.size ≤ M + 1) : ∃ owner, SetTable.layClean M hs = some owner ∧ Own M owner hs.size := by
  have h0 : Own M (Array.replicate (M + 1) none) 0 := by
    refine ⟨by simp, ?_⟩
    rw [Array.toList_replicate]
    exact .of_eq (by simp)
  obtain ⟨o, e, h⟩ := lay_fold hG hs.toList _ 0 h0 (by simpa using hl)
  rw [Array.length_toList, Nat.zero_add] at e h
  refine ⟨o, ?_, h⟩
  show (Array.foldl (hLayStep M) (some (Array.replicate (M + 1) none, 0)) hs).map (·.1) = some o
  rw [← Array.foldl_toList, e]; rfl
theorem laid_ok {M : Nat} (hG : Goes M) (hs : Array Int) (hl : hs.size ≤ M) (finger moves : Nat) (led plain : Bool) : ∃ t order, SetTable.laid M finger moves led plain hs = some (t, order) ∧ order.toList.Perm (List.range hs.size) ∧ t.place.size = hs.size ∧ t.mask = M ∧ t.dummies = #[] := by
  obtain ⟨owner, e, ho⟩ := layClean_ok hG hs (by omega)
  unfold SetTable.laid
  rw [e]
  have key : ∀ (l : List Nat), ((l.filterMap fun j => (owner.getD j none).map (fun x => (j, x))).map (·.2)) = l.filterMap (fun j => owner.getD j none) := by
    intro l
    induction l with
    | nil => rfl
    | cons j l ih =>
      cases hj : owner.getD j none with
      | none => rw [List.filterMap_cons_none (by rw [hj]; rfl), List.filterMap_cons_none (f := fun j => owner.getD j none) hj, ih]
      | some v => rw [List.filterMap_cons_some (b := (j, v)) (by rw [hj]; rfl), List.filterMap_cons_some (f := fun j => owner.getD j none) hj, List.map_cons, ih]
  have key2 : (List.range (M + 1)).filterMap (fun j => owner.getD j none) = owner.toList.filterMap id := by
    have : owner.toList = (List.range (M + 1)).map (fun j => owner.getD j none) := by
      apply List.ext_getElem?
      intro i
      rw [List.getElem?_map]
      by_cases hi : i < M + 1
      · rw [List.getElem?_range hi, Array.getElem?_toList]
        simp [Array.getD_eq_getD_getElem?, ho.1, hi]
      · rw [List.getElem?_eq_none (by simp [ho.1]; omega), List.getElem?_eq_none (by simp; omega)]; rfl
    rw [this, List.filterMap_map]
    rfl
  refine ⟨_, _, rfl, ?_, ?_, rfl, rfl⟩
  · show List.Perm ((((List.range (M + 1)).filterMap fun j => (owner.getD j none).map (fun x => (j, x))).map (·.2))) _
    rw [key, key2]
    exact ho.2
  · show (((List.range (M + 1)).filterMap fun j => (owner.getD j none).map (fun x => (j, x))).map (·.1)).toArray.size = _
    have h1 := congrArg List.length (key (List.range (M + 1)))
    rw [key2, ho.2.length_eq, List.length_range, List.length_map] at h1
    rw [List.size_toArray, List.length_map, h1]
end
end Mine
end
section
open PySem PySem.W PyProof.Rows
set_option maxRecDepth 100000
namespace Mine
section
variable {p : Program} {w : World} {n₀ : Nat} {ann : Option Value} {α β : Type} {s : Shared} {n m : Nat} {Q : α → Shared → Prop} {a : Addr} {es : Array (Int × Value)} {ep : Nat} {t : SetTable} {L : List (Int × Value)}
/-- a set that was copied: its table is clean -/
noncomputable def Copied (o : Obj) (L : List (Int × Value)) (M : Nat) : Prop := ∃ es n t, o = setObj es n t ∧ t.fits es.size = true ∧ es.toList.Perm L ∧ t.mask = M ∧ t.dummies = #[]
theorem Copied.setOf {o : Obj} {M : Nat} (h : Copied o L M) : SetOf o L := let ⟨es, n, t, a, b, c, _⟩ := h; ⟨es, n, t, a, b, c⟩
theorem coversAll_of {order : Array Nat} {k : Nat} (h : order.toList.Perm (List.range k)) : coversAll order k = true := List.isPerm_iff.mpr h
theorem runs_end {t : Sem α} (h : Runs p w n₀ ann (t.bind Sem.pure) s n Q) : Runs p w n₀ ann t s n Q := by rw [Sem.bind_pure] at h; exact h
/-- the copy's last part: the table is empty and has room -/
theorem copy_tail {r : Addr} {ts : SetTable} {M : Nat} {f : Unit → Sem α} (hG : Goes M) (hn : n₀ ≤ r) (hr : s.heap.get? r = some (setObj #[] ep ts)) (hts : ts.mask = M) (hpl : ts.place = #[]) (hd : ts.dummies = #[])
    (hf : t.fits es.size = true) (hp : es.toList.Perm L) (hL : L.length ≤ M) (hz : L.length < 1000) (h : ∀ o', Copied o' L M → Runs p w n₀ ann (f ()) { s with heap := put s.heap r o' } n Q) (more : Sem Unit) :
    Runs p w n₀ ann ((match ts.road t with
      | .slotForSlot => storeSet r es { t with finger := ts.finger, led := ts.led && t.led, moves := ts.moves, plain := ts.plain && t.plain }
      | .clean => (do
        let (es, t) ← (do
          let some (t, order) := SetTable.laid ts.mask ts.finger ts.moves (ts.led && t.led) (ts.plain && t.plain) (es.map (·.1)) | PySem.unsupported "internal:set-table-without-room"
          let es' := order.filterMap (es[·]?)
          if es'.size != es.size then PySem.unsupported "internal:set-table-lost-an-element"
          pure (es', t) : Sem (Array (Int × Value) × SetTable))
        storeSet r es t)
      | .oneByOne => more : Sem Unit).bind f) s (n + 2) Q := by
  have hl : es.size = L.length := by rw [← Array.length_toList]; exact hp.length_eq
  have hroad : ts.road t = if t.mask = M ∧ t.dummies = #[] then .slotForSlot else .clean := by
    unfold SetTable.road SetTable.fill
    rw [hpl, hd, hts]
    by_cases h1 : t.mask = M
    · by_cases h2 : t.dummies = #[]
      · simp [h1, h2]
      · have : t.dummies.isEmpty = false := by simpa using h2
        simp [h1, h2, this]
    · have : (M == t.mask) = false := by simpa using fun z => h1 z.symm
      simp [h1, this]
  by_cases hc : t.mask = M ∧ t.dummies = #[]
  · rw [hroad, if_pos hc]
    refine runs_storeSet (n := n) hn hr (by rw [hl]; unfold sizeLine; omega) (h _ ⟨es, ep + 1, _, rfl, ?_, hp, hc.1, hc.2⟩)
    exact hf
  · rw [hroad, if_neg hc]
    obtain ⟨t', order, e, hperm, hps, hm', hd'⟩ := laid_ok hG (es.map (·.1)) (by simp; omega) ts.finger ts.moves (ts.led && t.led) (ts.plain && t.plain)
    rw [Array.size_map] at hperm hps
    have hpe := order_perm (es := es) (coversAll_of hperm)
    have hsz : (order.filterMap (es[·]?)).size = es.size := by rw [← Array.length_toList, hpe.length_eq, Array.length_toList]
    dsimp only
    rw [hts, e]
    have hcond : ((order.filterMap (es[·]?)).size != es.size) = false := by simp [hsz]
    show Runs p w n₀ ann ((((do
          if (order.filterMap (es[·]?)).size != es.size then PySem.unsupported "internal:set-table-lost-an-element"
          pure (order.filterMap (es[·]?), t') : Sem (Array (Int × Value) × SetTable))).bind (fun q => storeSet r q.1 q.2)).bind f) s (n + 2) Q
    rw [hcond]
    show Runs p w n₀ ann ((storeSet r (order.filterMap (es[·]?)) t').bind f) s (n + 2) Q
    refine runs_storeSet (n := n) hn hr (by rw [hsz, hl]; unfold sizeLine; omega) (h _ ⟨_, ep + 1, _, rfl, ?_, hpe.trans hp, hm', hd'⟩)
    unfold SetTable.fits SetTable.fill
    rw [hsz, hps, hd', hm']
    simp
    omega
theorem runs_copy {r o : Addr} {ob : Obj} {M : Nat} {led : Bool} {Q : Unit → Shared → Prop} (hM : M = 7 ∧ L.length = 2 ∨ M = 127 ∧ (L.length = 32 ∨ L.length = 33)) (hn : n₀ ≤ r) (hne : o ≠ r) (hr : s.heap.get? r = some (setObj #[] 0 (.fresh 0 0 led)))
    (ho : s.heap.get? o = some ob) (hS : SetOf ob L) (h : ∀ o', Copied o' L M → Q () { s with heap := put s.heap r o' }) : Runs p w n₀ ann (setMerge r o) s 20 Q := by
  obtain ⟨es, ep', t, rfl, hf, hp⟩ := hS
  have hl : es.size = L.length := by rw [← Array.length_toList]; exact hp.length_eq
  unfold setMerge
  rw [if_neg (by simpa using hne.symm)]
  refine runs_setState (n := 19) (f := fun r => _) ho hf ?_
  dsimp only
  rw [if_neg (by
    rw [Array.isEmpty_iff_size_eq_zero, hl]
    omega)]
  show Runs p w n₀ ann ((setRoomFor r es.size).bind _) s 19 Q
  unfold setRoomFor
  show Runs p w n₀ ann (((setState r).bind _).bind _) s 19 Q
  rw [Sem.bind_assoc]
  refine runs_setState (n := 18) (f := fun r => _) hr rfl ?_
  dsimp only
  rcases hM with ⟨rfl, h2⟩ | ⟨rfl, h32⟩
  · rw [hl, h2]
    refine runs_setState (n := 17) (f := fun r => _) hr rfl ?_
    dsimp only
    refine runs_end ?_
    refine runs_mono (copy_tail (n := 0) (f := Sem.pure) goes7 hn hr rfl rfl rfl hf hp (by omega) (by omega) (fun o' ho' => runs_pure (h o' ho')) _) (by omega) fun _ _ z => z
  · let T : SetTable := { mask := 127, place := #[], dummies := #[], finger := 0, led := led, moves := 1, plain := true }
    have e : ∀ k, k = 64 ∨ k = 66 → (SetTable.fresh 0 0 led).relaid #[] k = some (T, #[]) := by
      rintro k (rfl | rfl) <;> cases led <;> kernel_rfl
    have key : ∀ k, k = 64 ∨ k = 66 → ∀ F : Unit → Sem Unit, Runs p w n₀ ann (F ()) { s with heap := put s.heap r (setObj #[] 1 T) } 15 Q → Runs p w n₀ ann ((setRelay r k).bind F) s 18 Q := by
      intro k hk F hF
      unfold setRelay
      show Runs p w n₀ ann (((setState r).bind _).bind _) s 18 Q
      rw [Sem.bind_assoc]
      refine runs_setState (n := 17) (f := fun r => _) hr rfl ?_
      dsimp only
      rw [if_neg (by rcases hk with rfl | rfl <;> decide)]
      rw [show (Array.map (fun x => x.fst) (#[] : Array (Int × Value))) = #[] from by simp, e k hk]
      show Runs p w n₀ ann ((storeSet r #[] T).bind _) s 17 Q
      exact runs_storeSet (n := 15) hn hr (by decide) hF
    rcases h32 with h32 | h32
    · rw [hl, h32]
      refine key 64 (.inl rfl) _ ?_
      refine runs_setState (n := 14) (f := fun r => _) (get_put_set hr) rfl ?_
      dsimp only
      refine runs_end ?_
      refine runs_mono (copy_tail (n := 0) (f := Sem.pure) goes127 hn (get_put_set hr) rfl rfl rfl hf hp (by omega) (by omega) (fun o' ho' => runs_pure ?_) _) (by omega) fun _ _ z => z
      rw [put_put]
      exact h o' ho'
    · rw [hl, h32]
      refine key 66 (.inr rfl) _ ?_
      refine runs_setState (n := 14) (f := fun r => _) (get_put_set hr) rfl ?_
      dsimp only
      refine runs_end ?_
      refine runs_mono (copy_tail (n := 0) (f := Sem.pure) goes127 hn (get_put_set hr) rfl rfl rfl hf hp (by omega) (by omega) (fun o' ho' => runs_pure ?_) _) (by omega) fun _ _ z => z
      rw [put_put]
      exact h o' ho'
open PySem.Builtin.Frozenset in
theorem runs_unchanged {id : String} {f : Unit → Sem α} (ho : s.heap.get? a = some (setObj es ep t)) (hf : t.fits es.size = true) (h : Runs p w n₀ ann (f ()) s n Q) : Runs p w n₀ ann ((unchanged id a ep).bind f) s (n + 1) Q := by
  unfold unchanged setEpoch
  show Runs p w n₀ ann (((((setState a).bind _).bind _)).bind f) s (n + 1) Q
  rw [Sem.bind_assoc, Sem.bind_assoc]
  refine runs_setState (n := n) (f := fun r => _) ho hf ?_
  dsimp only
  show Runs p w n₀ ann ((if (ep != ep) = true then _ else _ : Sem Unit).bind f) s n Q
  rw [if_neg (by simp)]
  exact h
theorem pick_one {e : Int × Value} {next : Nat → Nat} : pickOrder next #[e] = #[e] := by
  unfold pickOrder
  show pickOrder.go next 1 0 [e] #[] = #[e]
  unfold pickOrder.go
  have : next 0 % [e].length = 0 := Nat.mod_one _
  rw [this]
  rfl
theorem runs_walk1 {others : List Addr} {fl : Option Addr} {e : Int × Value} {f : Array (Int × Value) → Sem α} (ho : s.heap.get? a = some (setObj #[e] ep t)) (hf : t.fits 1 = true) (h : Runs p w n₀ ann (f #[e]) s n Q) : Runs p w n₀ ann ((setWalkUnseen a others fl).bind f) s (n + 5) Q := by
  unfold setWalkUnseen
  show Runs p w n₀ ann (((setState a).bind _).bind f) s (n + 5) Q
  rw [Sem.bind_assoc]
  refine runs_setState (n := n + 4) (f := fun r => _) ho hf ?_
  dsimp only
  unfold setsByText
  refine runs_ask (n := n + 3) ?_
  show Runs p w n₀ ann ((if ((w.params.followText "set-order" || t.led && t.plain || decide ((#[e] : Array (Int × Value)).size ≤ 1)) = true) then _ else _ : Sem _).bind f) s (n + 3) Q
  rw [if_pos (by simp)]
  unfold setWalk
  show Runs p w n₀ ann (((setState a).bind _).bind f) s (n + 3) Q
  rw [Sem.bind_assoc]
  refine runs_setState (n := n + 2) (f := fun r => _) ho hf ?_
  dsimp only
  refine runs_ask (n := n + 1) ?_
  show Runs p w n₀ ann ((if w.params.followText "set-order" = true then _ else _ : Sem _).bind f) s (n + 1) Q
  by_cases hft : w.params.followText "set-order" = true
  · rw [if_pos hft]
    refine runs_ask (n := n) ?_
    show Runs p w n₀ ann (f (pickOrder _ #[e])) s n Q
    rw [pick_one]
    exact h
  · rw [if_neg hft]
    rw [if_neg (by
      show ¬ ((!t.plain && decide ((#[e] : Array (Int × Value)).size > 1)) = true)
      simp)]
    have : (!t.led && decide ((#[e] : Array (Int × Value)).size > 1)) = false := by simp
    show Runs p w n₀ ann (((if (!t.led && decide ((#[e] : Array (Int × Value)).size > 1)) = true then PySem.unsupported "set:maker-not-led" else Sem.pure () : Sem Unit).bind fun _ => Sem.pure #[e]).bind f) s (n + 1) Q
    rw [this]
    exact runs_mono h (by omega) fun _ _ z => z
theorem holding_str {α : Type} {x : Str} {u : Tok} {m : Sem α} : holding [.str x u] m = m := rfl
theorem for_one {α : Type} (e : α) (f : α → PUnit → Sem (ForInStep PUnit)) : (forIn #[e] PUnit.unit f : Sem PUnit) = (f e PUnit.unit).bind fun r => match r with | .done b => pure b | .yield b => pure b := by
  show (f e PUnit.unit).bind _ = _
  congr 1
  funext r
  cases r <;> rfl
open PySem.Builtin.Frozenset in
theorem runs_merge1 {id : String} {r o : Addr} {ob : Obj} {M : Nat} {x : Str} {u : Tok} {hh : Int} {Q : Unit → Shared → Prop} (hn : n₀ ≤ r) (hne : o ≠ r) (hr : s.heap.get? r = some ob) (hC : Copied ob L M) (hroom : (L.length + 1) * 5 < M * 3) (hpos : L.length ≠ 0)
    (ho : s.heap.get? o = some (setObj #[(hh, .str x u)] ep t)) (hf : t.fits 1 = true) (hL : ∀ e ∈ L, isExactStrKey e.2 = true) (hno : ∀ e ∈ L, e.2.isStr x = false) (hz : L.length < 1000)
    (h : ∀ o', SetOf o' ((hh, .str x u) :: L) → Q () { s with heap := put s.heap r o' }) : Runs p w n₀ ann (merge id r o) s 40 Q := by
  obtain ⟨es, ep', tr, rfl, hfr, hp, hm, hd⟩ := hC
  have hl : es.size = L.length := by rw [← Array.length_toList]; exact hp.length_eq
  have hpl : tr.place.size = L.length := by
    unfold SetTable.fits at hfr
    rw [Bool.and_eq_true, beq_iff_eq] at hfr
    rw [hfr.1, hl]
  unfold merge setEpoch
  show Runs p w n₀ ann (((setState o).bind _).bind _) s 40 Q
  rw [Sem.bind_assoc]
  refine runs_setState (n := 39) (f := fun r => _) ho hf ?_
  dsimp only
  show Runs p w n₀ ann (setMerge r o (unchanged id o ep)) s 39 Q
  unfold setMerge
  rw [if_neg (by simpa using hne.symm)]
  refine runs_setState (n := 38) (f := fun r => _) ho hf ?_
  dsimp only
  rw [if_neg (by simp)]
  show Runs p w n₀ ann ((setRoomFor r 1).bind _) s 38 Q
  unfold setRoomFor
  show Runs p w n₀ ann (((setState r).bind _).bind _) s 38 Q
  rw [Sem.bind_assoc]
  refine runs_setState (n := 37) (f := fun r => _) hr hfr ?_
  dsimp only
  have hnone : tr.roomFor 1 = none := by
    unfold SetTable.roomFor SetTable.fill
    rw [hpl, hd, hm, if_neg (by simp; omega)]
  rw [hnone]
  refine runs_setState (n := 36) (f := fun r => _) hr hfr ?_
  dsimp only
  have hroad : tr.road t = .oneByOne := by
    unfold SetTable.road SetTable.fill
    rw [hpl, if_pos (by rw [bne_iff_ne]; omega)]
  rw [hroad]
  refine runs_walk1 (n := 31) ho hf ?_
  rw [for_one]
  dsimp only
  rw [holding_str]
  show Runs p w n₀ ann ((((setAddHashed r (.str x u) hh).bind fun _ => (unchanged id o ep).bind fun _ => (setState o).bind _).bind _).bind _) s 31 Q
  rw [Sem.bind_assoc, Sem.bind_assoc]
  refine runs_bind (n := 20) (m := 11) (runs_setAdd hn hr ⟨es, ep', tr, rfl, hfr, hp⟩ hL hno hz fun o' ho' => ?_)
  rw [Sem.bind_assoc]
  have ho2 : (put s.heap r o').get? o = some (setObj #[(hh, .str x u)] ep t) := by rw [get_put_ne hne]; exact ho
  refine runs_unchanged (n := 10) (s := { s with heap := put s.heap r o' }) ho2 hf ?_
  rw [Sem.bind_assoc]
  refine runs_setState (n := 9) (s := { s with heap := put s.heap r o' }) (f := fun r => _) ho2 hf ?_
  dsimp only
  rw [if_neg (by simp)]
  exact runs_pure (h o' ho')
end
end Mine
end
section
open PySem PySem.W PyProof.Rows
set_option maxRecDepth 100000
namespace Mine
section
theorem eq_go (p : Program) (n₀ : Nat) (ann : Option Value) (w : World) : ∀ (s : Shared) (t1 t2 : Tok) (vs : List Value) (K : Value → Sem Fin) (c : Code) (pos : Pos) (f1 f2 : Frame) (stk : List Frame),
   segGo treeTable p w n₀ ann 1 4 s ⟨((richCompare .Eq (.str ⟨#[9]⟩ t1) (.str ⟨#[9]⟩ t2)).keep vs).bind K, c, pos, f1 :: f2 :: stk⟩ = some (s, ⟨K (.bool true), c, pos, f1 :: f2 :: stk⟩) := by
  refine byRow2 "special-get-raises" (P := fun w => ∀ (s : Shared) (t1 t2 : Tok) (vs : List Value) (K : Value → Sem Fin) (c : Code) (pos : Pos) (f1 f2 : Frame) (stk : List Frame),
   segGo treeTable p w n₀ ann 1 4 s ⟨((richCompare .Eq (.str ⟨#[9]⟩ t1) (.str ⟨#[9]⟩ t2)).keep vs).bind K, c, pos, f1 :: f2 :: stk⟩ = some (s, ⟨K (.bool true), c, pos, f1 :: f2 :: stk⟩)) ?_ ?_ w <;> intro w s t1 t2 vs K c pos f1 f2 stk
  · rw [Fast.te3277212676724774461, Fast.te14364793385576792824]; kernel_rfl
  · rw [Fast.te3277212676724774461, Fast.te14364793385576792824]; kernel_rfl
theorem hash_go (p : Program) (n₀ : Nat) (ann : Option Value) (x : Str) (w : World) : ∀ (s : Shared) (t1 : Tok) (vs : List Value) (K : Int → Sem Fin) (c : Code) (pos : Pos) (f1 f2 : Frame) (stk : List Frame),
   segGo treeTable p w n₀ ann 1 7 s ⟨((pyHash (.str x t1)).keep vs).bind K, c, pos, f1 :: f2 :: stk⟩ = some ({ s with toks := s.toks + 1 }, ⟨K (PyData.keyHash w.params x), c, pos, f1 :: f2 :: stk⟩) := by
  refine byRow2 "special-get-raises" (P := fun w => ∀ (s : Shared) (t1 : Tok) (vs : List Value) (K : Int → Sem Fin) (c : Code) (pos : Pos) (f1 f2 : Frame) (stk : List Frame),
   segGo treeTable p w n₀ ann 1 7 s ⟨((pyHash (.str x t1)).keep vs).bind K, c, pos, f1 :: f2 :: stk⟩ = some ({ s with toks := s.toks + 1 }, ⟨K (PyData.keyHash w.params x), c, pos, f1 :: f2 :: stk⟩)) ?_ ?_ w <;> intro w s t1 vs K c pos f1 f2 stk
  · rw [Fast.te3277212676724774461, Fast.te14364793385576792824]; kernel_rfl
  · rw [Fast.te3277212676724774461, Fast.te14364793385576792824]; kernel_rfl
variable {p : Program} {w : World} {n₀ : Nat} {ann : Option Value} {α β : Type} {s : Shared} {n m : Nat} {Q : α → Shared → Prop} {a : Addr} {es : Array (Int × Value)} {ep : Nat} {t : SetTable} {L : List (Int × Value)}
theorem runs_hash {x : Str} {u : Tok} {f : Int → Sem α} (h : Runs p w n₀ ann (f (PyData.keyHash w.params x)) { s with toks := s.toks + 1 } n Q) : Runs p w n₀ ann ((pyHash (.str x u)).bind f) s (n + 7) Q := by
  rw [Nat.add_comm]
  refine runs_bind (n := 7) (m := n) ⟨_, _, h, 7, Nat.le_refl _, fun vs K c pos stk hD => ?_⟩
  obtain ⟨f1, f2, r, rfl⟩ := hD
  exact hash_go _ _ _ _ _ _ _ _ _ _ _ _ _ _
theorem runs_eq9 {t1 t2 : Tok} {f : Bool → Sem α} (hne : t1 ≠ t2) (h : Runs p w n₀ ann (f true) s n Q) : Runs p w n₀ ann ((eqBool (.str ⟨#[9]⟩ t1) (.str ⟨#[9]⟩ t2)).bind f) s (n + 4) Q := by
  rw [Nat.add_comm]
  refine runs_bind (n := 4) (m := n) ?_
  have hb : ((Value.str ⟨#[9]⟩ t1) == (Value.str ⟨#[9]⟩ t2)) = false := beq_eq_false_iff_ne.mpr (fun z => by injection z with _ z; exact hne z)
  show Runs p w n₀ ann (if ((Value.str ⟨#[9]⟩ t1) == (Value.str ⟨#[9]⟩ t2)) = true then _ else _) s 4 _
  rw [hb, if_neg (by simp)]
  show Runs p w n₀ ann ((richCompare .Eq (.str ⟨#[9]⟩ t1) (.str ⟨#[9]⟩ t2)).bind fun r => truthOfDropped r) s 4 _
  refine runs_bind (n := 4) (m := 0) ⟨.bool true, s, ?_, 4, Nat.le_refl _, fun vs K c pos stk hD => ?_⟩
  · exact runs_pure h
  · obtain ⟨f1, f2, r, rfl⟩ := hD
    exact eq_go _ _ _ _ _ _ _ _ _ _ _ _ _ _
theorem sub_set : isSubtype (.type "frozenset") (.type "set") = .pure false := by rw [isSubtype_type]; kernel_rfl
theorem sub_fset : isSubtype (.type "frozenset") (.type "frozenset") = .pure true := by rw [isSubtype_type]; kernel_rfl
open PySem.Builtin.Frozenset in
theorem runs_isAnySet {f : Bool → Sem α} (ho : s.heap.get? a = some (setObj es ep t)) (h : Runs p w n₀ ann (f true) s n Q) : Runs p w n₀ ann ((isAnySet (.ref a)).bind f) s (n + 2) Q := by
  refine runs_load (n := n + 1) (o := setObj es ep t) ho ?_
  show Runs p w n₀ ann ((((isSubtype (.type "frozenset") (.type "set"))).bind _).bind f) s (n + 1) Q
  rw [sub_set]
  refine runs_load (n := n) (o := setObj es ep t) ho ?_
  show Runs p w n₀ ann ((isSubtype (.type "frozenset") (.type "frozenset")).bind f) s n Q
  rw [sub_fset]
  exact h
open PySem.Builtin.Frozenset in
theorem runs_baseOf {f : Value → Sem α} (ho : s.heap.get? a = some (setObj es ep t)) (h : Runs p w n₀ ann (f (.type "frozenset")) s n Q) : Runs p w n₀ ann ((baseOf a).bind f) s (n + 1) Q := by
  refine runs_load (n := n) (o := setObj es ep t) ho ?_
  show Runs p w n₀ ann ((((isSubtype (.type "frozenset") (.type "set"))).bind _).bind f) s n Q
  rw [sub_set]
  exact h
theorem put_push {h : Heap} {o o' : Obj} : put (h.push o) h.objs.size o' = h.push o' := by
  unfold put Heap.push Heap.update
  simp only [Heap.mk.injEq, and_true]
  apply Array.ext_getElem?
  intro i
  simp only [Array.getElem?_modify, Array.getElem?_push]
  by_cases e : h.objs.size = i
  · simp [e]
  · have e' : ¬ i = h.objs.size := fun z => e z.symm
    simp [e, e']
theorem get_push_old {h : Heap} {o ob : Obj} (ho : h.get? a = some ob) : (h.push o).get? a = some ob := Heap.get?_push_of_some _ ho
theorem runs_newSet {f : Value → Sem α} (h : Runs p w n₀ ann (f (.ref s.heap.objs.size)) { s with heap := s.heap.push (setObj #[] 0 (.fresh 0 0 (!w.params.followText "set-order"))) } n Q) : Runs p w n₀ ann ((newSet (.type "frozenset")).bind f) s (n + 2) Q := by
  refine runs_ask (n := n + 1) ?_
  exact runs_alloc (n := n) h
open PySem.Builtin.Frozenset in
theorem runs_copyOf {ob : Obj} {M : Nat} {f : Value → Sem α} (hM : M = 7 ∧ L.length = 2 ∨ M = 127 ∧ (L.length = 32 ∨ L.length = 33)) (hn : n₀ ≤ s.heap.objs.size) (ho : s.heap.get? a = some ob) (hS : SetOf ob L)
    (h : ∀ o', Copied o' L M → Runs p w n₀ ann (f (.ref s.heap.objs.size)) { s with heap := s.heap.push o' } n Q) : Runs p w n₀ ann ((copyOf a).bind f) s (n + 23) Q := by
  obtain ⟨es, ep, t, rfl, hf, hp⟩ := hS
  unfold copyOf
  show Runs p w n₀ ann (((baseOf a).bind _).bind f) s (n + 23) Q
  rw [Sem.bind_assoc]
  refine runs_baseOf (n := n + 22) ho ?_
  show Runs p w n₀ ann (((newSet (.type "frozenset")).bind _).bind f) s (n + 22) Q
  rw [Sem.bind_assoc]
  refine runs_newSet (n := n + 20) ?_
  show Runs p w n₀ ann (((setMerge s.heap.objs.size a).bind _).bind f) _ (n + 20) Q
  rw [Sem.bind_assoc, Nat.add_comm]
  have hlt := Heap.lt_size ho
  refine runs_bind (n := 20) (m := n) (runs_copy hM hn (Nat.ne_of_lt hlt) (Heap.get?_push_size _ rfl) (get_push_old ho) ⟨es, ep, t, rfl, hf, hp⟩ fun o' ho' => ?_)
  rw [put_push]
  exact h o' ho'
open PySem.Builtin.Frozenset in
/-- one more sign by | -/
theorem runs_or {l r : Addr} {ob : Obj} {M : Nat} {x : Str} {u : Tok} {hh : Int} {Q : Fin → Shared → Prop} (hM : M = 7 ∧ L.length = 2 ∨ M = 127 ∧ L.length = 32) (hn : n₀ ≤ s.heap.objs.size) (hlr : r ≠ l) (hl : s.heap.get? l = some ob) (hS : SetOf ob L)
    (hr : s.heap.get? r = some (setObj #[(hh, .str x u)] ep t)) (hf : t.fits 1 = true) (hL : ∀ e ∈ L, isExactStrKey e.2 = true) (hno : ∀ e ∈ L, e.2.isStr x = false)
    (h : ∀ o', SetOf o' ((hh, .str x u) :: L) → Q (.done (.ret (.ref s.heap.objs.size))) { s with heap := s.heap.push o' }) : Runs p w n₀ ann (PySem.Builtin.«frozenset.__or__» ⟨[.ref l, .ref r], []⟩) s 100 Q := by
  obtain ⟨es, ep', tl, rfl, hfl, hp⟩ := hS
  have hlt := Heap.lt_size hl
  have hrt := Heap.lt_size hr
  show Runs p w n₀ ann ((((isAnySet (.ref l)).bind _)).bind _) s 100 Q
  rw [Sem.bind_assoc]
  refine runs_isAnySet (n := 98) hl ?_
  show Runs p w n₀ ann ((isAnySet (.ref r)).bind _) s 98 Q
  refine runs_isAnySet (n := 96) hr ?_
  show Runs p w n₀ ann (((copyOf l).bind _).bind _) s 96 Q
  rw [Sem.bind_assoc]
  refine runs_copyOf (n := 73) (M := M) (hM.imp id fun z => ⟨z.1, .inl z.2⟩) hn hl ⟨es, ep', tl, rfl, hfl, hp⟩ fun o1 ho1 => ?_
  have hne : (Value.ref r != Value.ref l) = true := by rw [bne_iff_ne]; intro z; injection z with z; exact hlr z
  show Runs p w n₀ ann (((if (Value.ref r != Value.ref l) = true then (do (holding [.ref s.heap.objs.size] (updateFrom _ s.heap.objs.size (.ref r)) : Sem Unit); pure (.ref s.heap.objs.size)) else pure (.ref s.heap.objs.size) : Sem Value)).bind _) _ 73 Q
  rw [if_pos hne]
  show Runs p w n₀ ann (((holding [.ref s.heap.objs.size] (updateFrom _ s.heap.objs.size (.ref r))).bind _).bind _) _ 73 Q
  rw [Sem.bind_assoc]
  refine runs_bind (n := 60) (m := 13) (runs_holding ?_)
  show Runs p w n₀ ann ((isAnySet (.ref r)).bind _) _ 60 _
  refine runs_isAnySet (n := 58) (get_push_old hr) ?_
  refine runs_mono (runs_merge1 (M := M) (s := { s with heap := s.heap.push o1 }) hn (Nat.ne_of_lt hrt) (Heap.get?_push_size _ ?_) ho1 ?_ (by omega) (get_push_old hr) hf hL hno (by omega) fun o2 ho2 => ?_) (by omega) fun _ _ z => z
  · obtain ⟨e1, n1, t1, rfl, _⟩ := ho1; rfl
  · rcases hM with ⟨rfl, h2⟩ | ⟨rfl, h2⟩ <;> rw [h2] <;> decide
  · refine runs_pure ?_
    rw [put_push]
    exact h o2 ho2
open PySem.Builtin.Frozenset in
theorem runs_sizeOf {f : Nat → Sem α} (ho : s.heap.get? a = some (setObj es ep t)) (hf : t.fits es.size = true) (h : Runs p w n₀ ann (f es.size) s n Q) : Runs p w n₀ ann ((PySem.Builtin.Frozenset.sizeOf a).bind f) s (n + 1) Q := by
  unfold PySem.Builtin.Frozenset.sizeOf setEntries
  show Runs p w n₀ ann ((((setState a).bind _).bind _).bind f) s (n + 1) Q
  rw [Sem.bind_assoc, Sem.bind_assoc]
  exact runs_setState (n := n) (f := fun r => _) ho hf h
theorem runs_setEpoch {f : Nat → Sem α} (ho : s.heap.get? a = some (setObj es ep t)) (hf : t.fits es.size = true) (h : Runs p w n₀ ann (f ep) s n Q) : Runs p w n₀ ann ((setEpoch a).bind f) s (n + 1) Q := by
  unfold setEpoch
  show Runs p w n₀ ann (((setState a).bind _).bind f) s (n + 1) Q
  rw [Sem.bind_assoc]
  exact runs_setState (n := n) (f := fun r => _) ho hf h
/-- the tab is taken out of a copied set -/
theorem runs_discard {r : Addr} {ob : Obj} {M : Nat} {t0 u : Tok} {hh h0 : Int} {L0 : List (Int × Value)} {f : Bool → Sem α} (hn : n₀ ≤ r) (hr : s.heap.get? r = some ob) (hC : Copied ob L M) (hpL : L.Perm ((h0, .str ⟨#[9]⟩ t0) :: L0)) (hne : t0 ≠ u)
    (hL : ∀ e ∈ L, isExactStrKey e.2 = true) (hno : ∀ e ∈ L0, e.2.isStr ⟨#[9]⟩ = false) (hz : L.length < 100) (hM : 100 ≤ M)
    (h : ∀ o', SetOf o' L0 → (∃ es n t, o' = setObj es n t ∧ t.dummies.size ≤ 1 ∧ t.mask = M) → Runs p w n₀ ann (f true) { s with heap := put s.heap r o' } n Q) :
    Runs p w n₀ ann ((setDiscardHashed r (.str ⟨#[9]⟩ u) hh).bind f) s (n + 13) Q := by
  obtain ⟨es, ep', tr, rfl, hfr, hp, hm, hd⟩ := hC
  have hel := strs_of hp hL
  have hsz : es.size = L.length := by rw [← Array.length_toList]; exact hp.length_eq
  have hp0 := hp.trans hpL
  obtain ⟨i, hi⟩ : ∃ i, es.findIdx? (fun e => e.2.isStr ⟨#[9]⟩) = some i := by
    cases hfi : es.findIdx? (fun e => e.2.isStr ⟨#[9]⟩) with
    | some i => exact ⟨i, rfl⟩
    | none =>
      rw [Array.findIdx?_eq_none_iff] at hfi
      have := hfi (h0, .str ⟨#[9]⟩ t0) (Array.mem_toList_iff.mp (hp0.mem_iff.mpr (.head _)))
      simp [Value.isStr] at this
  obtain ⟨hil, hip, _⟩ := Array.findIdx?_eq_some_iff_getElem.mp hi
  have hmem : es[i] ∈ es.toList := Array.mem_toList_iff.mpr (Array.getElem_mem hil)
  have heq : es[i] = (h0, .str ⟨#[9]⟩ t0) := by
    rcases List.mem_cons.mp (hp0.mem_iff.mp hmem) with e | e
    · exact e
    · have := hno _ e
      rw [hip] at this
      cases this
  have hget : es[i]? = some (h0, .str ⟨#[9]⟩ t0) := by rw [Array.getElem?_eq_getElem hil, heq]
  have hall : es.all (fun e => isExactStrKey e.2) = true := by rw [← Array.all_toList, List.all_eq_true]; exact hel
  have hper : (SetTable.eraseAt es i).toList.Perm L0 := by
    have := (eraseAt_perm es i _ (by rw [Array.getElem?_toList]; exact hget)).trans hp0
    exact this.cons_inv
  have hplace : tr.place.size = es.size := by
    unfold SetTable.fits at hfr
    rw [Bool.and_eq_true, beq_iff_eq] at hfr
    exact hfr.1
  have hesz : (SetTable.eraseAt es i).size = es.size - 1 := by
    rw [← Array.length_toList, hper.length_eq]
    have := hp0.length_eq
    rw [Array.length_toList, List.length_cons] at this
    omega
  have hdrop : (tr.drop i).fits (SetTable.eraseAt es i).size = true ∧ (tr.drop i).dummies.size ≤ 1 ∧ (tr.drop i).mask = M := by
    unfold SetTable.drop
    rw [Array.getElem?_eq_getElem (by omega : i < tr.place.size)]
    dsimp only
    have hds : (SetTable.insertAt tr.dummies (SetTable.below tr.dummies tr.place[i]) tr.place[i]).size = 1 := by
      rw [← Array.length_toList, (insertAt_perm _ _ _).length_eq, hd]; rfl
    have hps : (SetTable.eraseAt tr.place i).size = tr.place.size - 1 := by
      have := (eraseAt_perm tr.place i tr.place[i] (by rw [Array.getElem?_toList, Array.getElem?_eq_getElem])).length_eq
      rw [List.length_cons, Array.length_toList, Array.length_toList] at this
      omega
    refine ⟨?_, by rw [hds]; omega, hm⟩
    unfold SetTable.fits SetTable.fill
    dsimp only
    rw [hds, hps, hesz, hm, hplace, Bool.and_eq_true, beq_iff_eq, decide_eq_true_eq]
    omega
  unfold setDiscardHashed setFind
  show Runs p w n₀ ann (((setFindIn r (.str ⟨#[9]⟩ u) hh 100000).bind _).bind f) s (n + 13) Q
  rw [Sem.bind_assoc]
  show Runs p w n₀ ann ((((setState r).bind _)).bind _) s (n + 13) Q
  rw [Sem.bind_assoc]
  refine runs_setState (n := n + 12) (f := fun r => _) hr hfr ?_
  dsimp only
  rw [byScan_ok hel (by rw [hsz]; unfold scanBound; omega)]
  refine runs_rule (n := n + 11) ?_
  show Runs p w n₀ ann (((setScan r (.str ⟨#[9]⟩ u) hh false es).bind _).bind _) s (n + 11) Q
  rw [Sem.bind_assoc]
  unfold setScan
  dsimp only
  rw [if_pos hall]
  unfold setScanStrs
  rw [hi]
  dsimp only
  rw [hget]
  dsimp only
  show Runs p w n₀ ann (((setEpoch r).bind _).bind _) s (n + 11) Q
  rw [Sem.bind_assoc]
  refine runs_setEpoch (n := n + 10) hr hfr ?_
  show Runs p w n₀ ann (((eqBool (.str ⟨#[9]⟩ t0) (.str ⟨#[9]⟩ u)).bind _).bind _) s (n + 10) Q
  rw [Sem.bind_assoc]
  refine runs_eq9 (n := n + 6) hne ?_
  show Runs p w n₀ ann (((setEpoch r).bind _).bind _) s (n + 6) Q
  rw [Sem.bind_assoc]
  refine runs_setEpoch (n := n + 5) hr hfr ?_
  rw [if_neg (by simp)]
  show Runs p w n₀ ann (((setState r).bind _).bind _) s (n + 5) Q
  rw [Sem.bind_assoc]
  refine runs_setState (n := n + 4) (f := fun r => _) hr hfr ?_
  show Runs p w n₀ ann (((storeSet r (SetTable.eraseAt es i) (tr.drop i)).bind _).bind _) s (n + 4) Q
  rw [Sem.bind_assoc]
  refine runs_storeSet (n := n + 2) hn hr (by rw [hesz]; unfold sizeLine; omega) ?_
  refine runs_point (n := n + 1) ?_
  exact runs_mono (h _ ⟨_, _, _, rfl, hdrop.1, hper⟩ ⟨_, _, _, rfl, hdrop.2⟩) (by omega) fun _ _ z => z
open PySem.Builtin.Frozenset in
/-- all but the tab, by - -/
theorem runs_sub {l r : Addr} {ob : Obj} {t0 u : Tok} {hh h0 : Int} {L0 : List (Int × Value)} {Q : Fin → Shared → Prop} (hLl : L.length = 33) (hn : n₀ ≤ s.heap.objs.size) (hlr : r ≠ l) (hl : s.heap.get? l = some ob) (hS : SetOf ob L)
    (hr : s.heap.get? r = some (setObj #[(hh, .str ⟨#[9]⟩ u)] ep t)) (hf : t.fits 1 = true) (hL : ∀ e ∈ L, isExactStrKey e.2 = true) (hpL : L.Perm ((h0, .str ⟨#[9]⟩ t0) :: L0)) (hne : t0 ≠ u) (hno : ∀ e ∈ L0, e.2.isStr ⟨#[9]⟩ = false)
    (h : ∀ o', SetOf o' L0 → Q (.done (.ret (.ref s.heap.objs.size))) { s with heap := s.heap.push o' }) : Runs p w n₀ ann (PySem.Builtin.«frozenset.__sub__» ⟨[.ref l, .ref r], []⟩) s 100 Q := by
  obtain ⟨es, ep', tl, rfl, hfl, hp⟩ := hS
  have hlt := Heap.lt_size hl
  have hrt := Heap.lt_size hr
  have hsz : es.size = 33 := by rw [← Array.length_toList, hp.length_eq, hLl]
  show Runs p w n₀ ann ((((isAnySet (.ref l)).bind _)).bind _) s 100 Q
  rw [Sem.bind_assoc]
  refine runs_isAnySet (n := 98) hl ?_
  show Runs p w n₀ ann ((isAnySet (.ref r)).bind _) s 98 Q
  refine runs_isAnySet (n := 96) hr ?_
  show Runs p w n₀ ann (((isAnySet (.ref r)).bind _).bind _) s 96 Q
  rw [Sem.bind_assoc]
  refine runs_isAnySet (n := 94) hr ?_
  show Runs p w n₀ ann (((PySem.Builtin.Frozenset.sizeOf r).bind _).bind _) s 94 Q
  rw [Sem.bind_assoc]
  refine runs_sizeOf (n := 93) hr hf ?_
  show Runs p w n₀ ann (((PySem.Builtin.Frozenset.sizeOf l).bind _).bind _) s 93 Q
  rw [Sem.bind_assoc]
  refine runs_sizeOf (n := 92) hl hfl ?_
  rw [hsz, if_pos (by show 33 / 4 > 1; decide)]
  refine runs_rule (n := 91) ?_
  show Runs p w n₀ ann (((copyOf l).bind _).bind _) s 91 Q
  rw [Sem.bind_assoc]
  refine runs_copyOf (n := 68) (M := 127) (.inr ⟨rfl, .inr hLl⟩) hn hl ⟨es, ep', tl, rfl, hfl, hp⟩ fun o1 ho1 => ?_
  show Runs p w n₀ ann (((holding [.ref s.heap.objs.size] (differenceUpdate _ s.heap.objs.size (.ref r))).bind _).bind _) _ 68 Q
  rw [Sem.bind_assoc]
  refine runs_bind (n := 60) (m := 8) (runs_holding ?_)
  have hr1 := get_push_old (o := o1) hr
  have hne' : (Value.ref r == Value.ref s.heap.objs.size) = false := by rw [beq_eq_false_iff_ne]; intro z; injection z with z; exact Nat.ne_of_lt hrt z
  unfold differenceUpdate
  rw [hne', if_neg (by simp)]
  show Runs p w n₀ ann ((isAnySet (.ref r)).bind _) _ 60 _
  refine runs_isAnySet (n := 58) hr1 ?_
  obtain ⟨e1, n1, t1, ho1e, hf1, hp1, hm1, hd1⟩ := id ho1
  have hsz1 : e1.size = 33 := by rw [← Array.length_toList, hp1.length_eq, hLl]
  have hN : (s.heap.push o1).get? s.heap.objs.size = some (setObj e1 n1 t1) := by rw [← ho1e]; exact Heap.get?_push_size _ (by rw [ho1e]; rfl)
  show Runs p w n₀ ann (((PySem.Builtin.Frozenset.sizeOf r).bind _)) _ 58 _
  refine runs_sizeOf (n := 57) hr1 hf ?_
  show Runs p w n₀ ann (((PySem.Builtin.Frozenset.sizeOf s.heap.objs.size).bind _)) _ 57 _
  refine runs_sizeOf (n := 56) hN hf1 ?_
  rw [hsz1, if_neg (by show ¬ (1 / 8 > 33); decide)]
  show Runs p w n₀ ann (((setEpoch r).bind _)) _ 56 _
  refine runs_setEpoch (n := 55) hr1 hf ?_
  show Runs p w n₀ ann ((holding [.ref r] ((setWalkUnseen r [s.heap.objs.size] none).bind _)).bind _) _ 55 _
  refine runs_bind (n := 40) (m := 15) (runs_holding ?_)
  refine runs_walk1 (n := 35) hr1 hf ?_
  show Runs p w n₀ ann ((((setDiscardHashed s.heap.objs.size (.str ⟨#[9]⟩ u) hh).bind fun _ => (unchanged _ r ep).bind fun _ => _).bind _).bind _) _ 35 _
  rw [Sem.bind_assoc, Sem.bind_assoc]
  refine runs_discard (n := 22) (s := { s with heap := s.heap.push o1 }) (M := 127) hn (Heap.get?_push_size _ (by rw [ho1e]; rfl)) ho1 hpL hne hL hno (by omega) (by decide) fun o2 ho2 hx => ?_
  rw [put_push]
  rw [Sem.bind_assoc]
  refine runs_unchanged (n := 21) (s := { s with heap := s.heap.push o2 }) (get_push_old hr) hf ?_
  refine runs_pure ?_
  obtain ⟨e2, n2, t2, rfl, hd2, hm2⟩ := hx
  obtain ⟨e2', n2', t2', hq, hf2, hp2⟩ := id ho2
  unfold setObj at hq
  injection hq with _ _ hq _
  injection hq with q1 q2 q3
  subst q1 q2 q3
  unfold setTidy
  show Runs p w n₀ ann (((setState s.heap.objs.size).bind _)) _ 15 _
  refine runs_setState (n := 14) (f := fun r => _) (s := { s with heap := s.heap.push (setObj e2 n2 t2) }) (Heap.get?_push_size _ rfl) hf2 ?_
  dsimp only
  rw [if_neg (by unfold SetTable.tooManyDummies; rw [hm2]; simp; omega)]
  exact runs_pure (runs_pure (h _ ho2))
end
end Mine
end
section
open PySem PySem.W PyProof.Rows
set_option maxRecDepth 100000
namespace Mine
noncomputable abbrev PR : Program := PySem.Challenge.rw_ny0147_01.prog
/-- the statement number i of the text -/
noncomputable def stmtAt (i : Nat) : Stmt := (PySem.Challenge.pw_ny0147_01.main.body[i]?).getD (.Pass ⟨0, 0, 0, 0⟩)
noncomputable def fPars : Stmt → Arguments
  | .FunctionDef _ a _ _ _ _ _ _ _ _ => a
  | _ => ⟨[], [], none, [], [], none, []⟩
noncomputable def fBody : Stmt → List Stmt
  | .FunctionDef _ _ b _ _ _ _ _ _ _ => b
  | _ => []
noncomputable def fScope : Stmt → Scope
  | .FunctionDef _ _ _ _ _ _ sc _ _ _ => sc
  | _ => { kind := .function, names := [], isGenerator := false, isCoroutine := false, more := [] }
noncomputable abbrev bodyAt (i : Nat) : List Stmt := fBody (stmtAt i)
noncomputable abbrev scopeAt (i : Nat) : Scope := fScope (stmtAt i)
noncomputable abbrev parsAt (i : Nat) : Arguments := fPars (stmtAt i)
noncomputable def fnObj (i c : Nat) (nm : Str) (md : Value) : Obj :=
  ⟨.type "function", none, .func (fnOf nm nm (parsAt i) (bodyAt i) (scopeAt i) .none .none .none md none (.ref c) .none), #[]⟩
noncomputable def ob2 : Obj := ⟨.none, none, (.dict #[] 0), #[]⟩
noncomputable def ob3 (P : Params) : Obj := ⟨.type "dict", none, (.dict #[⟨PyData.keyHash P (Str.ofString "__name__"), .str (Str.ofString "__name__") 165, .str (Str.ofString "law_ny0147_01") 478⟩, ⟨PyData.keyHash P (Str.ofString "__doc__"), .str (Str.ofString "__doc__") 166, .none⟩, ⟨PyData.keyHash P (Str.ofString "__package__"), .str (Str.ofString "__package__") 167, .none⟩, ⟨PyData.keyHash P (Str.ofString "__loader__"), .str (Str.ofString "__loader__") 168, .builtin "__main__.__loader__#opaque"⟩, ⟨PyData.keyHash P (Str.ofString "__spec__"), .str (Str.ofString "__spec__") 169, .none⟩, ⟨PyData.keyHash P (Str.ofString "__annotations__"), .str (Str.ofString "__annotations__") 170, .ref 6⟩, ⟨PyData.keyHash P (Str.ofString "__builtins__"), .str (Str.ofString "__builtins__") 171, .ref 4⟩, ⟨PyData.keyHash P (Str.ofString "__file__"), .str (Str.ofString "__file__") 173, .str (Str.ofString "/claim/cut.py") 172⟩, ⟨PyData.keyHash P (Str.ofString "__cached__"), .str (Str.ofString "__cached__") 174, .none⟩, ⟨PyData.keyHash P (Str.ofString "ASCII_CTRL"), .str (Str.ofString "ASCII_CTRL") 332, .ref 31⟩, ⟨PyData.keyHash P (Str.ofString "ILLEGAL_BASIC_STR_CHARS"), .str (Str.ofString "ILLEGAL_BASIC_STR_CHARS") 336, .ref 36⟩, ⟨PyData.keyHash P (Str.ofString "ILLEGAL_LITERAL_STR_CHARS"), .str (Str.ofString "ILLEGAL_LITERAL_STR_CHARS") 337, .ref 36⟩, ⟨PyData.keyHash P (Str.ofString "ILLEGAL_COMMENT_CHARS"), .str (Str.ofString "ILLEGAL_COMMENT_CHARS") 338, .ref 36⟩, ⟨PyData.keyHash P (Str.ofString "TOML_WS"), .str (Str.ofString "TOML_WS") 344, .ref 37⟩, ⟨PyData.keyHash P (Str.ofString "TOML_WS_AND_NEWLINE"), .str (Str.ofString "TOML_WS_AND_NEWLINE") 348, .ref 45⟩, ⟨PyData.keyHash P (Str.ofString "TOMLDecodeError"), .str (Str.ofString "TOMLDecodeError") 366, .ref 55⟩, ⟨PyData.keyHash P (Str.ofString "skip_chars"), .str (Str.ofString "skip_chars") 375, .ref 65⟩, ⟨PyData.keyHash P (Str.ofString "skip_until"), .str (Str.ofString "skip_until") 387, .ref 72⟩, ⟨PyData.keyHash P (Str.ofString "skip_comment"), .str (Str.ofString "skip_comment") 396, .ref 79⟩, ⟨PyData.keyHash P (Str.ofString "skip_comments_and_array_ws"), .str (Str.ofString "skip_comments_and_array_ws") 405, .ref 86⟩, ⟨PyData.keyHash P (Str.ofString "parse_literal_str"), .str (Str.ofString "parse_literal_str") 414, .ref 93⟩, ⟨PyData.keyHash P (Str.ofString "suffixed_err"), .str (Str.ofString "suffixed_err") 424, .ref 100⟩, ⟨PyData.keyHash P (Str.ofString "heappush"), .str (Str.ofString "heappush") 434, .ref 107⟩, ⟨PyData.keyHash P (Str.ofString "heappop"), .str (Str.ofString "heappop") 443, .ref 114⟩, ⟨PyData.keyHash P (Str.ofString "heapreplace"), .str (Str.ofString "heapreplace") 452, .ref 121⟩, ⟨PyData.keyHash P (Str.ofString "_siftdown"), .str (Str.ofString "_siftdown") 464, .ref 128⟩, ⟨PyData.keyHash P (Str.ofString "_siftup"), .str (Str.ofString "_siftup") 477, .ref 135⟩, ⟨PyData.keyHash P (Str.ofString "_law_laid"), .str (Str.ofString "_law_laid") 485, .ref 140⟩, ⟨PyData.keyHash P (Str.ofString "_law_refused"), .str (Str.ofString "_law_refused") 494, .ref 147⟩, ⟨PyData.keyHash P (Str.ofString "_law_rising"), .str (Str.ofString "_law_rising") 500, .ref 152⟩, ⟨PyData.keyHash P (Str.ofString "law"), .str (Str.ofString "law") 506, .ref 157⟩] 31), #[]⟩
noncomputable def ob46 : Obj := ⟨.type "tuple", none, (.seq #[.type "ValueError"] 0), #[]⟩
noncomputable def ob53 : Obj := ⟨.type "tuple", none, (.seq #[] 0), #[]⟩
noncomputable def ob54 (P : Params) : Obj := ⟨.type "dict", none, (.dict #[⟨PyData.keyHash P (Str.ofString "__module__"), .str (Str.ofString "__module__") 356, .str (Str.ofString "cpy313.tomllib._parser") 187⟩, ⟨PyData.keyHash P (Str.ofString "__firstlineno__"), .str (Str.ofString "__firstlineno__") 360, .int 8 359⟩, ⟨PyData.keyHash P (Str.ofString "__static_attributes__"), .str (Str.ofString "__static_attributes__") 361, .ref 53⟩, ⟨PyData.keyHash P (Str.ofString "__weakref__"), .str (Str.ofString "__weakref__") 363, .ref 56⟩, ⟨PyData.keyHash P (Str.ofString "__doc__"), .str (Str.ofString "__doc__") 364, .none⟩] 3), #[]⟩
noncomputable def ob55 : Obj := ⟨.type "type", none, (.cls ⟨(Str.ofString "TOMLDecodeError"), [.type "ValueError"], [.ref 55, .type "ValueError", .type "Exception", .type "BaseException", .type "object"], 54, (Str.ofString "TOMLDecodeError"), true, [], [], false, none, false⟩), #[some (.ref 46), none, some (.str (Str.ofString "TOMLDecodeError") 349), some (.str (Str.ofString "TOMLDecodeError") 357), some (.builtin "ValueError.__new__"), some (.bool true)]⟩
noncomputable def ob56 : Obj := ⟨.type "getset_descriptor", none, (.fields #[.str (Str.ofString "__weakref__") 362, .ref 55, .builtin "ExceptionGroup.__weakref__", .none]), #[]⟩
noncomputable def ob64 : Obj := ⟨.type "code", none, (.fields #[.str (Str.ofString "skip_chars") 367, .str (Str.ofString "skip_chars") 368, .str (Str.ofString "/claim/cut.py") 369, .int 10 0, .int 3 0, .int 0 0, .int 0 0, .int 3 0, .ref 59, .bool true, .int 181 0, .ref 60, .none, .ref 61, .ref 62, .ref 63, .int 373 0, .int 10 0, .str (Str.ofString "/claim/cut.py") 374]), #[]⟩
noncomputable def ob65 : Obj := fnObj 8 64 (Str.ofString "skip_chars") (.str (Str.ofString "cpy313.tomllib._parser") 187)
noncomputable def ob71 : Obj := ⟨.type "code", none, (.fields #[.str (Str.ofString "skip_until") 376, .str (Str.ofString "skip_until") 377, .str (Str.ofString "/claim/cut.py") 378, .int 17 0, .int 3 0, .int 0 0, .int 2 0, .int 3 0, .ref 66, .bool true, .int 181 0, .ref 67, .none, .ref 68, .ref 69, .ref 70, .int 385 0, .int 17 0, .str (Str.ofString "/claim/cut.py") 386]), #[]⟩
noncomputable def ob72 : Obj := fnObj 9 71 (Str.ofString "skip_until") (.str (Str.ofString "cpy313.tomllib._parser") 187)
noncomputable def ob78 : Obj := ⟨.type "code", none, (.fields #[.str (Str.ofString "skip_comment") 388, .str (Str.ofString "skip_comment") 389, .str (Str.ofString "/claim/cut.py") 390, .int 29 0, .int 2 0, .int 0 0, .int 0 0, .int 3 0, .ref 73, .bool true, .int 181 0, .ref 74, .none, .ref 75, .ref 76, .ref 77, .int 394 0, .int 29 0, .str (Str.ofString "/claim/cut.py") 395]), #[]⟩
noncomputable def ob79 : Obj := fnObj 10 78 (Str.ofString "skip_comment") (.str (Str.ofString "cpy313.tomllib._parser") 187)
noncomputable def ob85 : Obj := ⟨.type "code", none, (.fields #[.str (Str.ofString "skip_comments_and_array_ws") 397, .str (Str.ofString "skip_comments_and_array_ws") 398, .str (Str.ofString "/claim/cut.py") 399, .int 37 0, .int 2 0, .int 0 0, .int 0 0, .int 3 0, .ref 80, .bool true, .int 181 0, .ref 81, .none, .ref 82, .ref 83, .ref 84, .int 403 0, .int 37 0, .str (Str.ofString "/claim/cut.py") 404]), #[]⟩
noncomputable def ob86 : Obj := fnObj 11 85 (Str.ofString "skip_comments_and_array_ws") (.str (Str.ofString "cpy313.tomllib._parser") 187)
noncomputable def ob92 : Obj := ⟨.type "code", none, (.fields #[.str (Str.ofString "parse_literal_str") 406, .str (Str.ofString "parse_literal_str") 407, .str (Str.ofString "/claim/cut.py") 408, .int 44 0, .int 2 0, .int 0 0, .int 0 0, .int 3 0, .ref 87, .bool true, .int 181 0, .ref 88, .none, .ref 89, .ref 90, .ref 91, .int 412 0, .int 44 0, .str (Str.ofString "/claim/cut.py") 413]), #[]⟩
noncomputable def ob93 : Obj := fnObj 12 92 (Str.ofString "parse_literal_str") (.str (Str.ofString "cpy313.tomllib._parser") 187)
noncomputable def ob99 : Obj := ⟨.type "code", none, (.fields #[.str (Str.ofString "suffixed_err") 415, .str (Str.ofString "suffixed_err") 416, .str (Str.ofString "/claim/cut.py") 417, .int 49 0, .int 3 0, .int 0 0, .int 0 0, .int 3 0, .ref 94, .bool true, .int 181 0, .ref 95, .none, .ref 96, .ref 97, .ref 98, .int 422 0, .int 49 0, .str (Str.ofString "/claim/cut.py") 423]), #[]⟩
noncomputable def ob100 : Obj := fnObj 13 99 (Str.ofString "suffixed_err") (.str (Str.ofString "cpy313.tomllib._parser") 187)
noncomputable def ob106 : Obj := ⟨.type "code", none, (.fields #[.str (Str.ofString "heappush") 427, .str (Str.ofString "heappush") 428, .str (Str.ofString "/claim/cut.py") 429, .int 62 0, .int 2 0, .int 0 0, .int 0 0, .int 3 0, .ref 101, .bool true, .int 181 0, .ref 102, .none, .ref 103, .ref 104, .ref 105, .int 432 0, .int 62 0, .str (Str.ofString "/claim/cut.py") 433]), #[]⟩
noncomputable def ob107 : Obj := fnObj 15 106 (Str.ofString "heappush") (.str (Str.ofString "cpy313.heapq") 425)
noncomputable def ob113 : Obj := ⟨.type "code", none, (.fields #[.str (Str.ofString "heappop") 435, .str (Str.ofString "heappop") 436, .str (Str.ofString "/claim/cut.py") 437, .int 65 0, .int 1 0, .int 0 0, .int 0 0, .int 3 0, .ref 108, .bool true, .int 181 0, .ref 109, .none, .ref 110, .ref 111, .ref 112, .int 441 0, .int 65 0, .str (Str.ofString "/claim/cut.py") 442]), #[]⟩
noncomputable def ob114 : Obj := fnObj 16 113 (Str.ofString "heappop") (.str (Str.ofString "cpy313.heapq") 425)
noncomputable def ob120 : Obj := ⟨.type "code", none, (.fields #[.str (Str.ofString "heapreplace") 444, .str (Str.ofString "heapreplace") 445, .str (Str.ofString "/claim/cut.py") 446, .int 73 0, .int 2 0, .int 0 0, .int 0 0, .int 3 0, .ref 115, .bool true, .int 181 0, .ref 116, .none, .ref 117, .ref 118, .ref 119, .int 450 0, .int 73 0, .str (Str.ofString "/claim/cut.py") 451]), #[]⟩
noncomputable def ob121 : Obj := fnObj 17 120 (Str.ofString "heapreplace") (.str (Str.ofString "cpy313.heapq") 425)
noncomputable def ob127 : Obj := ⟨.type "code", none, (.fields #[.str (Str.ofString "_siftdown") 453, .str (Str.ofString "_siftdown") 454, .str (Str.ofString "/claim/cut.py") 455, .int 78 0, .int 3 0, .int 0 0, .int 0 0, .int 3 0, .ref 122, .bool true, .int 181 0, .ref 123, .none, .ref 124, .ref 125, .ref 126, .int 462 0, .int 78 0, .str (Str.ofString "/claim/cut.py") 463]), #[]⟩
noncomputable def ob128 : Obj := fnObj 18 127 (Str.ofString "_siftdown") (.str (Str.ofString "cpy313.heapq") 425)
noncomputable def ob134 : Obj := ⟨.type "code", none, (.fields #[.str (Str.ofString "_siftup") 465, .str (Str.ofString "_siftup") 466, .str (Str.ofString "/claim/cut.py") 467, .int 89 0, .int 2 0, .int 0 0, .int 0 0, .int 3 0, .ref 129, .bool true, .int 181 0, .ref 130, .none, .ref 131, .ref 132, .ref 133, .int 475 0, .int 89 0, .str (Str.ofString "/claim/cut.py") 476]), #[]⟩
noncomputable def ob135 : Obj := fnObj 19 134 (Str.ofString "_siftup") (.str (Str.ofString "cpy313.heapq") 425)
noncomputable def ob139 : Obj := ⟨.type "code", none, (.fields #[.str (Str.ofString "_law_laid") 480, .str (Str.ofString "_law_laid") 481, .str (Str.ofString "/claim/cut.py") 482, .int 104 0, .int 1 0, .int 0 0, .int 0 0, .int 3 0, .ref 136, .bool true, .int 181 0, .ref 137, .none, .none, .none, .ref 138, .int 483 0, .int 104 0, .str (Str.ofString "/claim/cut.py") 484]), #[]⟩
noncomputable def ob140 : Obj := fnObj 21 139 (Str.ofString "_law_laid") (.str (Str.ofString "law_ny0147_01") 478)
noncomputable def ob146 : Obj := ⟨.type "code", none, (.fields #[.str (Str.ofString "_law_refused") 486, .str (Str.ofString "_law_refused") 487, .str (Str.ofString "/claim/cut.py") 488, .int 112 0, .int 2 0, .int 0 0, .int 0 0, .int 3 0, .ref 141, .bool true, .int 181 0, .ref 142, .none, .ref 143, .ref 144, .ref 145, .int 492 0, .int 112 0, .str (Str.ofString "/claim/cut.py") 493]), #[]⟩
noncomputable def ob147 : Obj := fnObj 22 146 (Str.ofString "_law_refused") (.str (Str.ofString "law_ny0147_01") 478)
noncomputable def ob151 : Obj := ⟨.type "code", none, (.fields #[.str (Str.ofString "_law_rising") 495, .str (Str.ofString "_law_rising") 496, .str (Str.ofString "/claim/cut.py") 497, .int 118 0, .int 1 0, .int 0 0, .int 0 0, .int 3 0, .ref 148, .bool true, .int 181 0, .ref 149, .none, .none, .none, .ref 150, .int 498 0, .int 118 0, .str (Str.ofString "/claim/cut.py") 499]), #[]⟩
noncomputable def ob152 : Obj := fnObj 23 151 (Str.ofString "_law_rising") (.str (Str.ofString "law_ny0147_01") 478)
noncomputable def ob156 : Obj := ⟨.type "code", none, (.fields #[.str (Str.ofString "law") 501, .str (Str.ofString "law") 502, .str (Str.ofString "/claim/cut.py") 503, .int 124 0, .int 1 0, .int 0 0, .int 0 0, .int 3 0, .ref 153, .bool true, .int 181 0, .ref 154, .none, .none, .none, .ref 155, .int 504 0, .int 124 0, .str (Str.ofString "/claim/cut.py") 505]), #[]⟩
noncomputable def ob157 : Obj := fnObj 24 156 (Str.ofString "law") (.str (Str.ofString "law_ny0147_01") 478)
noncomputable def K (P : Params) : Frag := (nat_lit 2, ob2) :: (nat_lit 3, ob3 P) :: (nat_lit 46, ob46) :: (nat_lit 53, ob53) :: (nat_lit 54, ob54 P) :: (nat_lit 55, ob55) :: (nat_lit 56, ob56) :: (nat_lit 64, ob64) :: (nat_lit 65, ob65) :: (nat_lit 71, ob71) :: (nat_lit 72, ob72) :: (nat_lit 78, ob78) :: (nat_lit 79, ob79) :: (nat_lit 85, ob85) :: (nat_lit 86, ob86) :: (nat_lit 92, ob92) :: (nat_lit 93, ob93) :: (nat_lit 99, ob99) :: (nat_lit 100, ob100) :: (nat_lit 106, ob106) :: (nat_lit 107, ob107) :: (nat_lit 113, ob113) :: (nat_lit 114, ob114) :: (nat_lit 120, ob120) :: (nat_lit 121, ob121) :: (nat_lit 127, ob127) :: (nat_lit 128, ob128) :: (nat_lit 134, ob134) :: (nat_lit 135, ob135) :: (nat_lit 139, ob139) :: (nat_lit 140, ob140) :: (nat_lit 146, ob146) :: (nat_lit 147, ob147) :: (nat_lit 151, ob151) :: (nat_lit 152, ob152) :: (nat_lit 156, ob156) :: (nat_lit 157, ob157) :: []
end Mine
end
section
open PySem PySem.W PyProof.Rows PySem.Calls PySem.SeqAt PySem.MeetsSeq PySem.MeetsSeq2 PySem.MeetsSeq3 PySem.SeqRoads2
open AutoSeq1 (wpAny_loadPart')
set_option maxRecDepth 100000
namespace Mine
/-- the answer of a comparison of two lists of one length, from place i on, k places left -/
noncomputable def lexR (e c : Nat → Bool) (fin : Bool) : Nat → Nat → Bool
  | 0, _ => fin
  | k + 1, i => if e i then lexR e c fin k (i + 1) else c i
noncomputable def OpAt (op : CmpOp) (A : Around) (s : Shared) (y x : Value) (b : Bool) : Prop :=
  ∀ (prog : Program) (w : World) (E : Value → Shared → Prop) (Q : Value → Shared → Prop), Q (.bool b) s → wpAny (model prog w) A (richCompare op y x) Q E s

theorem lt_loop (l b : Addr) (items items2 : Array Value) (n n2 : Nat) (dd dd2 : Option Addr) (sl sl2 : Array (Option Value)) (hsz : items.size = items2.size) (e c : Nat → Bool) (k : Nat) :
    ∀ i : Nat, items.size - i = k → Meets (Builtin.«list.__eq__.loop» ⟨[.ref l, .ref b, rawInt i, rawInt 0], []⟩)
      (fun A R s => s.heap.get? l = some { cls := .type "list", dict := dd, data := .seq items n, slots := sl } ∧ s.heap.get? b = some { cls := .type "list", dict := dd2, data := .seq items2 n2, slots := sl2 } ∧
        (∀ j (h1 : j < items.size) (h2 : j < items2.size), EqAt A.in1 s items[j] items2[j] (e j)) ∧ (∀ j (h1 : j < items.size) (h2 : j < items2.size), OpAt .Lt A.in1 s items[j] items2[j] (c j)) ∧
        R (.ok (.ret (.bool (lexR e c false k i)))) s) := by
  induction k with
  | zero =>
    intro i hk prog w A R s h
    obtain ⟨hp, g, d, tk, os⟩ := s; obtain ⟨hl, hb, he, hc, h⟩ := h
    wp_walk using wpAny_loadPart' hl, wpAny_loadPart' hb
    have hi1 : items[((i : Nat) : Int).toNat]? = none := by simp; omega
    have hi2 : items2[((i : Nat) : Int).toNat]? = none := by simp; omega
    rw [hi1, hi2]
    wp_walk using wpAny_loadPart' hl, wpAny_loadPart' hb
    show R (.ok (.ret (.bool (decide (items.size < items2.size))))) _
    rw [hsz]
    simpa [lexR] using h
  | succ k ih =>
    intro i hk prog w A R s h
    obtain ⟨hp, g, d, tk, os⟩ := s; obtain ⟨hl, hb, he, hc, h⟩ := h
    wp_walk using wpAny_loadPart' hl, wpAny_loadPart' hb
    have hlt : i < items.size := by omega
    have hlt2 : i < items2.size := by omega
    have hi1 : items[((i : Nat) : Int).toNat]? = some items[i] := by simp [hlt]
    have hi2 : items2[((i : Nat) : Int).toNat]? = some items2[i] := by simp [hlt2]
    have hcc : ((i : Int) + 1) = ((i + 1 : Nat) : Int) := by push_cast; rfl
    rw [hi1, hi2]
    refine wpAny_bind (he i hlt hlt2 prog w _ _ ?_)
    cases hb' : e i with
    | true =>
      rw [show lexR e c false (k + 1) i = lexR e c false k (i + 1) by simp [lexR, hb']] at h
      wp_walk
      rw [hcc]
      exact ⟨plainId_quiet plain_eq_loop _, codeAny_builtin entry_eq_loop (by
        rw [Around.under_plainId plain_eq_loop _]
        exact ih (i + 1) (by omega) prog w A R _ ⟨hl, hb, he, hc, h⟩)⟩
    | false =>
      rw [show lexR e c false (k + 1) i = c i by simp [lexR, hb']] at h
      wp_walk using wpAny_loadPart' hl, wpAny_loadPart' hb
      rw [hi1, hi2]
      refine wpAny_bind (hc i hlt hlt2 prog w _ _ ?_)
      wp_walk
      exact h

theorem list_lt (l b : Addr) (items items2 : Array Value) (n n2 : Nat) (dd dd2 : Option Addr) (sl sl2 : Array (Option Value)) (hsz : items.size = items2.size) (e c : Nat → Bool) :
    Meets (Builtin.«list.__lt__» ⟨[.ref l, .ref b], []⟩)
      (fun A R s => s.heap.get? l = some { cls := .type "list", dict := dd, data := .seq items n, slots := sl } ∧ s.heap.get? b = some { cls := .type "list", dict := dd2, data := .seq items2 n2, slots := sl2 } ∧
        (∀ j (h1 : j < items.size) (h2 : j < items2.size), EqAt A.in1 s items[j] items2[j] (e j)) ∧ (∀ j (h1 : j < items.size) (h2 : j < items2.size), OpAt .Lt A.in1 s items[j] items2[j] (c j)) ∧
        R (.ok (.ret (.bool (lexR e c false items.size 0)))) s) := by
  intro prog w A R s h
  obtain ⟨hp, g, d, tk, os⟩ := s; obtain ⟨hl, hb, he, hc, h⟩ := h
  have f3 := AutoSeq1.sub_list_list
  wp_walk using wpAny_loadPart' hl, wpAny_loadPart' hb
  exact ⟨plainId_quiet plain_eq_loop _, codeAny_builtin entry_eq_loop (by
    rw [Around.under_plainId plain_eq_loop _]
    exact lt_loop l b items items2 n n2 dd dd2 sl sl2 hsz e c _ 0 rfl prog w A R _ ⟨hl, hb, he, hc, h⟩)⟩

theorem le_loop (l b : Addr) (items items2 : Array Value) (n n2 : Nat) (dd dd2 : Option Addr) (sl sl2 : Array (Option Value)) (hsz : items.size = items2.size) (e c : Nat → Bool) (k : Nat) :
    ∀ i : Nat, items.size - i = k → Meets (Builtin.«list.__eq__.loop» ⟨[.ref l, .ref b, rawInt i, rawInt 1], []⟩)
      (fun A R s => s.heap.get? l = some { cls := .type "list", dict := dd, data := .seq items n, slots := sl } ∧ s.heap.get? b = some { cls := .type "list", dict := dd2, data := .seq items2 n2, slots := sl2 } ∧
        (∀ j (h1 : j < items.size) (h2 : j < items2.size), EqAt A.in1 s items[j] items2[j] (e j)) ∧ (∀ j (h1 : j < items.size) (h2 : j < items2.size), OpAt .LtE A.in1 s items[j] items2[j] (c j)) ∧
        R (.ok (.ret (.bool (lexR e c true k i)))) s) := by
  induction k with
  | zero =>
    intro i hk prog w A R s h
    obtain ⟨hp, g, d, tk, os⟩ := s; obtain ⟨hl, hb, he, hc, h⟩ := h
    wp_walk using wpAny_loadPart' hl, wpAny_loadPart' hb
    have hi1 : items[((i : Nat) : Int).toNat]? = none := by simp; omega
    have hi2 : items2[((i : Nat) : Int).toNat]? = none := by simp; omega
    rw [hi1, hi2]
    wp_walk using wpAny_loadPart' hl, wpAny_loadPart' hb
    show R (.ok (.ret (.bool (decide (items.size ≤ items2.size))))) _
    rw [hsz]
    simpa [lexR] using h
  | succ k ih =>
    intro i hk prog w A R s h
    obtain ⟨hp, g, d, tk, os⟩ := s; obtain ⟨hl, hb, he, hc, h⟩ := h
    wp_walk using wpAny_loadPart' hl, wpAny_loadPart' hb
    have hlt : i < items.size := by omega
    have hlt2 : i < items2.size := by omega
    have hi1 : items[((i : Nat) : Int).toNat]? = some items[i] := by simp [hlt]
    have hi2 : items2[((i : Nat) : Int).toNat]? = some items2[i] := by simp [hlt2]
    have hcc : ((i : Int) + 1) = ((i + 1 : Nat) : Int) := by push_cast; rfl
    rw [hi1, hi2]
    refine wpAny_bind (he i hlt hlt2 prog w _ _ ?_)
    cases hb' : e i with
    | true =>
      rw [show lexR e c true (k + 1) i = lexR e c true k (i + 1) by simp [lexR, hb']] at h
      wp_walk
      rw [hcc]
      exact ⟨plainId_quiet plain_eq_loop _, codeAny_builtin entry_eq_loop (by
        rw [Around.under_plainId plain_eq_loop _]
        exact ih (i + 1) (by omega) prog w A R _ ⟨hl, hb, he, hc, h⟩)⟩
    | false =>
      rw [show lexR e c true (k + 1) i = c i by simp [lexR, hb']] at h
      wp_walk using wpAny_loadPart' hl, wpAny_loadPart' hb
      rw [hi1, hi2]
      refine wpAny_bind (hc i hlt hlt2 prog w _ _ ?_)
      wp_walk
      exact h

theorem list_le (l b : Addr) (items items2 : Array Value) (n n2 : Nat) (dd dd2 : Option Addr) (sl sl2 : Array (Option Value)) (hsz : items.size = items2.size) (e c : Nat → Bool) :
    Meets (Builtin.«list.__le__» ⟨[.ref l, .ref b], []⟩)
      (fun A R s => s.heap.get? l = some { cls := .type "list", dict := dd, data := .seq items n, slots := sl } ∧ s.heap.get? b = some { cls := .type "list", dict := dd2, data := .seq items2 n2, slots := sl2 } ∧
        (∀ j (h1 : j < items.size) (h2 : j < items2.size), EqAt A.in1 s items[j] items2[j] (e j)) ∧ (∀ j (h1 : j < items.size) (h2 : j < items2.size), OpAt .LtE A.in1 s items[j] items2[j] (c j)) ∧
        R (.ok (.ret (.bool (lexR e c true items.size 0)))) s) := by
  intro prog w A R s h
  obtain ⟨hp, g, d, tk, os⟩ := s; obtain ⟨hl, hb, he, hc, h⟩ := h
  have f3 := AutoSeq1.sub_list_list
  wp_walk using wpAny_loadPart' hl, wpAny_loadPart' hb
  exact ⟨plainId_quiet plain_eq_loop _, codeAny_builtin entry_eq_loop (by
    rw [Around.under_plainId plain_eq_loop _]
    exact le_loop l b items items2 n n2 dd dd2 sl sl2 hsz e c _ 0 rfl prog w A R _ ⟨hl, hb, he, hc, h⟩)⟩

/-- a row: a text and two ints, at a place of the heap -/
structure RowD where
  adr : Addr
  word : Str
  st : Int
  en : Int
  tw : Tok
  ts : Tok
  te : Tok
  ep : Nat
noncomputable abbrev RowD.val (r : RowD) : Value := .ref r.adr
noncomputable abbrev RowD.its (r : RowD) : Array Value := #[.str r.word r.tw, .int r.st r.ts, .int r.en r.te]
noncomputable abbrev RowD.obj (r : RowD) : Obj := listOf r.its r.ep
/-- Python's order of two lists [text, int, int] -/
noncomputable def rowLt (a b : RowD) : Bool := if a.word == b.word then (if a.st == b.st then decide (a.en < b.en) else decide (a.st < b.st)) else decide (a.word.cps.toList < b.word.cps.toList)
noncomputable def rowLe (a b : RowD) : Bool := if a.word == b.word then (if a.st == b.st then decide (a.en ≤ b.en) else decide (a.st < b.st)) else decide (a.word.cps.toList < b.word.cps.toList)

section
variable {prog : Program} {w : World} {A : Around} {E : Value → Shared → Prop} {s : Shared} {Q : Value → Shared → Prop} {a b : RowD}
noncomputable def rowE (a b : RowD) : Nat → Bool
  | 0 => a.word == b.word
  | 1 => a.st == b.st
  | _ => a.en == b.en
noncomputable def rowC (a b : RowD) : Nat → Bool
  | 0 => decide (a.word.cps.toList < b.word.cps.toList)
  | 1 => decide (a.st < b.st)
  | _ => decide (a.en < b.en)
noncomputable def rowCe (a b : RowD) : Nat → Bool
  | 0 => !decide (b.word.cps.toList < a.word.cps.toList)
  | 1 => decide (a.st ≤ b.st)
  | _ => decide (a.en ≤ b.en)
theorem row_eqs (A : Around) (s : Shared) : ∀ j (h1 : j < a.its.size) (h2 : j < b.its.size), EqAt A s a.its[j] b.its[j] (rowE a b j)
  | 0, _, _ => by exact EqAt.str_str _ _ _ _
  | 1, _, _ => by exact EqAt.int_int _ _ _ _
  | 2, _, _ => by exact EqAt.int_int _ _ _ _
  | n + 3, h, _ => absurd h (by simp)
theorem row_lts (A : Around) (s : Shared) : ∀ j (h1 : j < a.its.size) (h2 : j < b.its.size), OpAt .Lt A s a.its[j] b.its[j] (rowC a b j)
  | 0, _, _ => fun prog w E Q h => lt_str (prog := prog) (w := w) h
  | 1, _, _ => fun prog w E Q h => lt_int (prog := prog) (w := w) h
  | 2, _, _ => fun prog w E Q h => lt_int (prog := prog) (w := w) h
  | n + 3, h, _ => absurd h (by simp)
theorem row_les (A : Around) (s : Shared) : ∀ j (h1 : j < a.its.size) (h2 : j < b.its.size), OpAt .LtE A s a.its[j] b.its[j] (rowCe a b j)
  | 0, _, _ => fun prog w E Q h => PySem.P.le_str (prog := prog) (w := w) h
  | 1, _, _ => fun prog w E Q h => le_int (prog := prog) (w := w) h
  | 2, _, _ => fun prog w E Q h => le_int (prog := prog) (w := w) h
  | n + 3, h, _ => absurd h (by simp)
theorem lex_lt (a b : RowD) : lexR (rowE a b) (rowC a b) false a.its.size 0 = rowLt a b := by
  show (if rowE a b 0 then (if rowE a b 1 then (if rowE a b 2 then false else rowC a b 2) else rowC a b 1) else rowC a b 0) = _
  simp only [rowE, rowC, rowLt]
  cases (a.word == b.word)
  · rfl
  · cases (a.st == b.st)
    · rfl
    · cases h : (a.en == b.en)
      · rfl
      · have := beq_iff_eq.mp h
        show false = decide (a.en < b.en)
        rw [this]; simp
theorem lex_le (a b : RowD) : lexR (rowE a b) (rowCe a b) true a.its.size 0 = rowLe a b := by
  show (if rowE a b 0 then (if rowE a b 1 then (if rowE a b 2 then true else rowCe a b 2) else rowCe a b 1) else rowCe a b 0) = _
  simp only [rowE, rowCe, rowLe]
  cases h1 : (a.word == b.word)
  · show (!decide (_ < _)) = decide (_ < _)
    have hne : a.word.cps.toList ≠ b.word.cps.toList := by
      intro q
      rw [← str_beq, beq_eq_false_iff_ne] at h1
      exact h1 q
    by_cases q : b.word.cps.toList < a.word.cps.toList
    · rw [decide_eq_true q, decide_eq_false (List.lt_asymm q)]; rfl
    · have z : a.word.cps.toList < b.word.cps.toList := by
        by_cases z : a.word.cps.toList < b.word.cps.toList
        · exact z
        · exact absurd (List.le_antisymm (List.not_lt.mp q) (List.not_lt.mp z)) hne
      rw [decide_eq_false q, decide_eq_true z]; rfl
  · cases h2 : (a.st == b.st)
    · show decide (_ ≤ _) = decide (_ < _)
      rw [beq_eq_false_iff_ne] at h2
      rw [decide_eq_decide]
      omega
    · cases h : (a.en == b.en)
      · rfl
      · have := beq_iff_eq.mp h
        show true = decide (a.en ≤ b.en)
        rw [this]; simp
theorem lt_rows (ha : s.heap.get? a.adr = some a.obj) (hb : s.heap.get? b.adr = some b.obj) (hu : A.units < cLine) (h : Q (.bool (rowLt a b)) s) : wpAny (model prog w) A (compareOp .Lt a.val b.val) Q E s := by
  refine richCompare_meets_room (op := .Lt) (T := "list") ⟨_, ha, rfl⟩ ⟨_, hb, rfl⟩ F.slot_list_lt F.entry_list_lt (F.args_list_lt_2 _ _) (list_lt a.adr b.adr a.its b.its a.ep b.ep none none #[] #[] rfl (rowE a b) (rowC a b)) ?_ hu
  refine ⟨ha, hb, row_eqs _ _, row_lts _ _, ?_⟩
  rw [lex_lt]
  exact ⟨(by intro z; cases z), h⟩
theorem le_rows (ha : s.heap.get? a.adr = some a.obj) (hb : s.heap.get? b.adr = some b.obj) (hu : A.units < cLine) (h : Q (.bool (rowLe a b)) s) : wpAny (model prog w) A (compareOp .LtE a.val b.val) Q E s := by
  refine richCompare_meets_room (op := .LtE) (T := "list") ⟨_, ha, rfl⟩ ⟨_, hb, rfl⟩ F.slot_list_le F.entry_list_le (F.args_list_le_2 _ _) (list_le a.adr b.adr a.its b.its a.ep b.ep none none #[] #[] rfl (rowE a b) (rowCe a b)) ?_ hu
  refine ⟨ha, hb, row_eqs _ _, row_les _ _, ?_⟩
  rw [lex_le]
  exact ⟨(by intro z; cases z), h⟩
end
end Mine
end
section
open PySem PySem.W PyProof.Rows PySem.Calls
set_option maxRecDepth 100000
namespace Mine
theorem lk1 (a : Str) (x : Value) : (fun y => List.lookup y ([(a, x)] : List (Str × Value)).reverse) = fun z => if z = a then some x else none := by
  funext z
  by_cases h : z = a
  · subst h; simp
  · have : (z == a) = false := beq_eq_false_iff_ne.mpr h
    simp [List.lookup, h, this]
theorem lk2 (a b : Str) (x y : Value) : (fun z => List.lookup z ([(a, x), (b, y)] : List (Str × Value)).reverse) = fun z => if z = b then some y else if z = a then some x else none := by
  funext z
  show List.lookup z [(b, y), (a, x)] = _
  simp only [List.lookup]
  by_cases h1 : z = b
  · subst h1; simp
  · have e1 : (z == b) = false := beq_eq_false_iff_ne.mpr h1
    by_cases h2 : z = a
    · subst h2; simp [e1, h1]
    · have e2 : (z == a) = false := beq_eq_false_iff_ne.mpr h2
      simp [e1, e2, h1, h2]
theorem lk3 (a b c : Str) (x y v : Value) : (fun z => List.lookup z ([(a, x), (b, y), (c, v)] : List (Str × Value)).reverse) = fun z => if z = c then some v else if z = b then some y else if z = a then some x else none := by
  funext z
  show List.lookup z [(c, v), (b, y), (a, x)] = _
  simp only [List.lookup]
  by_cases h0 : z = c
  · subst h0; simp
  · have e0 : (z == c) = false := beq_eq_false_iff_ne.mpr h0
    by_cases h1 : z = b
    · subst h1; simp [e0, h0]
    · have e1 : (z == b) = false := beq_eq_false_iff_ne.mpr h1
      by_cases h2 : z = a
      · subst h2; simp [e0, e1, h0, h1]
      · have e2 : (z == a) = false := beq_eq_false_iff_ne.mpr h2
        simp [e0, e1, e2, h0, h1, h2]
section
variable {prog : Program} {w : World} {A : Around} {E : Value → Shared → Prop} {s : Shared} {h₀ : Heap} {L l : Addr} {m : Str → Option Value} {news rest : List (Addr × Obj)} {its : Array Value} {n : Nat}
/-- a while that raises nothing, by a measure -/
theorem while_inv {test : PySem.Expr} {body : List Stmt} {pos : Pos} {env : Env} {Q : Flow → Shared → Prop} (I : Nat → Shared → Prop)
    (turn : ∀ n s, I n s → wpAny (model prog w) A (isTrue test env (eval test env)) (fun b s₂ =>
        if b then wpAny (model prog w) A (execs body env) (fun f s₃ => match f with
            | .next | .cont => ∃ m, m < n ∧ I m s₃
            | .brk => Q .next s₃
            | .ret v => Q (.ret v) s₃) (fun _ _ => False) s₂
        else Q .next s₂) (fun _ _ => False) s)
    (n : Nat) (h : I n s) : wpAny (model prog w) A (exec (.While test body [] pos) env) Q E s := by
  refine wpAny_While (codeAny_whileLoop I (fun n s hI => wpAny_noRaise (wpAny_mono (turn n s hI) (fun b s₂ h₂ => ?_) fun _ _ z => z)) n h)
  cases b with
  | true =>
    simp only [if_true] at h₂ ⊢
    refine wpAny_noRaise (wpAny_mono h₂ (fun f s₃ h₃ => ?_) fun _ _ z => z)
    cases f <;> exact h₃
  | false =>
    simp only [Bool.false_eq_true, if_false] at h₂ ⊢
    exact wpAny_execs_nil h₂
theorem fr_map {h : Heap} {m m' : Str → Option Value} (F : Fr h₀ L h m) (e : ∀ z, m z = m' z) : Fr h₀ L h m' := (funext e : m = m') ▸ F
theorem item_at {value slice : PySem.Expr} {k : Int} {u : Tok} {v : Value} {Q : Value → Shared → Prop}
    (N : News h₀ L s.heap news) (hm : (l, listOf its n) ∈ news) (h0 : 0 ≤ k) (hhi : k < 2 ^ 63) (hx : its[k.toNat]? = some v) (h : Q v s)
    (hs : subscripted slice false (.ref l) (.int k u) = operate [.ref l, .int k u] (getItem (.ref l) (.int k u)) := by with_unfolding_all rfl) :
    wpAny (model prog w) A (subscriptTail value slice (.ref l) (.int k u)) Q E s :=
  item_litK (vs := its.toList) (by simpa using N.isList hm) h0 hhi (by simpa using hx) h hs
theorem set_at {k : Int} {u : Tok} {v : Value} {Q : Unit → Shared → Prop} (F : Fr h₀ L s.heap m) (N : News h₀ L s.heap ((l, listOf its n) :: rest)) (hoff : ∀ p ∈ rest, p.1 ≠ l)
    (h0 : 0 ≤ k) (hhi : k < 2 ^ 63) (hk : k < its.size)
    (h : ∀ h', Fr h₀ L h' m → News h₀ L h' ((l, listOf (its.setIfInBounds k.toNat v) n) :: rest) → Q () { s with heap := h' }) :
    wpAny (model prog w) A (setItem (.ref l) (.int k u) v) Q E s := by
  have z := N (l, listOf its n) (.head _)
  refine ki_setAt z.1 h0 (by omega) (by omega) (h _ (F.change (Heap.SameBut.update ..) z.2.1 z.2.2) ?_)
  exact ki_turn (pre := []) _ N (fun _ hp => (nomatch hp)) hoff rfl (by rw [if_pos (by simp)])
theorem row_at {value slice : PySem.Expr} {i : Nat} {u : Tok} {ys : List RowD} {y : RowD} {Q : Value → Shared → Prop}
    (N : News h₀ L s.heap ((l, listOf (ys.map RowD.val).toArray n) :: rest)) (hx : ys[i]? = some y) (hz : ys.length < 1000) (h : Q y.val s)
    (hs : subscripted slice false (.ref l) (.int (i : Nat) u) = operate [.ref l, .int (i : Nat) u] (getItem (.ref l) (.int (i : Nat) u)) := by with_unfolding_all rfl) :
    wpAny (model prog w) A (subscriptTail value slice (.ref l) (.int (i : Nat) u)) Q E s := by
  have hi : i < ys.length := (List.getElem?_eq_some_iff.mp hx).1
  exact item_at N (.head _) (by omega) (by omega) (by rw [Int.toNat_natCast, List.getElem?_toArray, List.getElem?_map, hx]; rfl) h hs
theorem set_row {i : Nat} {u : Tok} {ys : List RowD} {y : RowD} {Q : Unit → Shared → Prop} (F : Fr h₀ L s.heap m) (N : News h₀ L s.heap ((l, listOf (ys.map RowD.val).toArray n) :: rest)) (hoff : ∀ p ∈ rest, p.1 ≠ l)
    (hi : i < ys.length) (hz : ys.length < 1000)
    (h : ∀ h', Fr h₀ L h' m → News h₀ L h' ((l, listOf ((ys.set i y).map RowD.val).toArray n) :: rest) → Q () { s with heap := h' }) :
    wpAny (model prog w) A (setItem (.ref l) (.int (i : Nat) u) y.val) Q E s := by
  refine set_at F N hoff (by omega) (by omega) (by simp; omega) fun h' F' N' => h h' F' ?_
  have e : (ys.map RowD.val).toArray.setIfInBounds (i : Int).toNat y.val = ((ys.set i y).map RowD.val).toArray := by
    rw [Int.toNat_natCast, List.map_set]; simp
  rw [← e]; exact N'
theorem rows_len {ys : List RowD} {Q : Value → Shared → Prop} (N : News h₀ L s.heap news) (hm : (l, listOf (ys.map RowD.val).toArray n) ∈ news) (hz : ys.length < 1000)
    (h : Q (.int (ys.length : Nat) (s.toks + 1)) { s with toks := s.toks + 1 + 1 }) : wpAny (model prog w) A (call (.builtin "len") [.ref l]) Q E s :=
  call_len_list (N.isList hm) (by simp; omega) (by simpa using h)
end
end Mine
end
section
open PySem PySem.W PyProof.Rows PySem.Calls
set_option maxRecDepth 100000
namespace Mine
noncomputable def sdFin {α : Type} (lt : α → α → Bool) (x : α) (ys : List α) (pos : Nat) : List α :=
  if pos = 0 then ys.set pos x else
  match ys[(pos - 1) / 2]? with
  | some p => if lt x p then sdFin lt x (ys.set pos p) ((pos - 1) / 2) else ys.set pos x
  | none => ys.set pos x
termination_by pos
decreasing_by omega

local macro_rules | `(tactic| k_steps) => `(tactic| repeat' (first | (k_unfold; (try dsimp only)) | ((fail_if_success (with_reducible show wpAny _ _ (exec (Stmt.While _ _ _ _) _) _ _ _)); (fail_if_success (with_reducible show wpAny _ _ (exec (Stmt.For _ _ _ _ _) _) _ _ _)); (fail_if_success (with_reducible show Exists _)); (fail_if_success (with_reducible show LeaveK _ _ _ _ _ _ _)); (first | walk1 | (dsimp only; walk1)))))
set_option maxHeartbeats 8000000 in
theorem siftdown_call {A A₀ : Around} {base h₀ : Heap} {outer : List Env} {env : Env} {L l : Addr} {m mg mb : Str → Option Value} {rest : List (Addr × Obj)} {rs : List RowD} {x : RowD} {n : Nat} {s : Shared} {w : World} {p : Program} {loose : List Str} {mean : ExcName → Option Value} {Q : Value → Shared → Prop} {E : Value → Shared → Prop}
  {pos : Nat} {ta tb : Tok}
  (B : Below A₀ base outer h₀) (F : Fr h₀ L s.heap m) (X : (K w.params).In h₀) (N : News h₀ L s.heap ((l, listOf (rs.map RowD.val).toArray n) :: rest)) (T : Top p loose mean mg mb h₀)
  (hA : A.frames = some (env :: outer)) (hf : env.frame = some L) (hke : env.scope.kind = .function) (hd : A.depth + 10 < recursionLimit) (hu : A.units + 100 < cLine) (hh : A.handled = none)
  (hoff : ∀ p ∈ rest, p.1 ≠ l) (hrow : ∀ r ∈ rs, (r.adr, r.obj) ∈ rest) (hx : rs[pos]? = some x) (hz : rs.length < 1000)
  (h : ∀ h' tk, Fr h₀ L h' m → News h₀ L h' ((l, listOf ((sdFin rowLt x rs pos).map RowD.val).toArray n) :: rest) → Q .none { s with heap := h', toks := tk })
  : wpAny (model PR w) A (call (.ref 128) [.ref l, .int 0 ta, .int pos tb]) Q E s := by
  k_fill
  refine wpAny_noRaise (wpAny_call ?_)
  refine code_def (params := parsAt 18) (body := bodyAt 18) (scope := scopeAt 18) (binds := [(Str.ofString "heap", .ref l), (Str.ofString "startpos", .int 0 ta), (Str.ofString "pos", .int pos tb)]) B F X N T hA hf hke (show (K w.params).lookup 128 = some ob128 from rfl) (by rfl) (by omega) (BindsTo.of_eq (by rfl)) (locs (by rfl)) ?_ (by rfl) (by rfl) (by rfl) (by decide +kernel)
  intro g' L' h' FG' F' N' B' X' T'
  have hb : bodyAt 18 = bodyAt 18 := rfl
  conv at hb => rhs; whnf
  have hs : scopeAt 18 = scopeAt 18 := rfl
  conv at hs => rhs; whnf
  rw [hb, hs]
  clear hb hs
  dsimp only
  clear FG' F N B T X
  have hpl : pos < rs.length := by
    rcases Nat.lt_or_ge pos rs.length with q | q
    · exact q
    · rw [List.getElem?_eq_none q] at hx; cases hx
  refine wpAny_noRaise ?_
  k_steps
  refine item_at N' (.head _) (by omega) (by omega) (v := x.val) (by simp [hx]) ?_
  k_steps
  rename_i h1 F1 N1
  refine while_inv (fun k s' => ∃ hq tk ys q tq pp pr, s' = { s with heap := hq, toks := tk } ∧
      Fr g' L' hq (fun z => if z = Str.ofString "pos" then some (.int (q : Nat) tq) else if z = Str.ofString "parentpos" then pp else if z = Str.ofString "parent" then pr else
        if z = Str.ofString "newitem" then some x.val else List.lookup z [(Str.ofString "heap", Value.ref l), (Str.ofString "startpos", Value.int 0 ta), (Str.ofString "pos", Value.int (pos : Nat) tb)].reverse) ∧
      News g' L' hq ((l, listOf (ys.map RowD.val).toArray n) :: rest) ∧ k = q ∧ q < ys.length ∧ ys.length = rs.length ∧ (∀ r ∈ ys, r ∈ rs) ∧ sdFin rowLt x ys q = sdFin rowLt x rs pos) ?_ pos ?_
  · rintro k s' ⟨hq, tk0, ys, q, tq, pp, pr, rfl, Fq, Nq, rfl, hq1, hq2, hq3, hq4⟩
    clear F1 N1
    k_steps
    · rename_i hk hb Fb Nb
      dsimp only at Fb Nb ⊢
      have hkp : 0 < k := by omega
      have e1 : ((k : Int) - 1).fdiv (2 ^ Int.toNat 1) = (((k - 1) / 2 : Nat) : Int) := by
        show ((k : Int) - 1).fdiv 2 = _
        rw [show (k : Int) - 1 = ((k - 1 : Nat) : Int) by omega, Int.fdiv_eq_ediv_of_nonneg _ (by omega)]
        omega
      rw [e1] at Fb ⊢
      have hlt : (k - 1) / 2 < ys.length := by omega
      have hp : ys[(k - 1) / 2]? = some ys[(k - 1) / 2] := List.getElem?_eq_getElem hlt
      generalize ys[(k - 1) / 2] = pr' at hp
      refine row_at Nb hp (by omega) ?_
      k_steps
      rename_i hc Fc Nc
      have hxr := Nc.get (.tail _ (hrow x (List.mem_of_getElem? hx)))
      have hpr := Nc.get (.tail _ (hrow pr' (hq3 _ (List.mem_of_getElem? hp))))
      refine lt_rows hxr hpr (by show A.units + 3 < cLine; omega) ?_
      k_steps
      · rename_i hlt'
        refine set_row Fc Nc hoff hq1 (by omega) fun h2 F2 N2 => ?_
        dsimp only
        k_steps
        rename_i h3 F3 N3
        refine ⟨(k - 1) / 2, by omega, h3, _, ys.set k pr', (k - 1) / 2, tk0 + 1 + 1 + 1, some (.int (((k - 1) / 2 : Nat) : Int) (tk0 + 1 + 1 + 1)), some pr'.val, rfl, fr_map F3 fun z => ?_, N3, rfl, by simp; omega, by simp; omega, fun r hr => ?_, ?_⟩
        · by_cases a1 : z = Str.ofString "pos"
          · subst a1; rfl
          · by_cases a2 : z = Str.ofString "parentpos"
            · subst a2; rfl
            · by_cases a3 : z = Str.ofString "parent"
              · subst a3; rfl
              · simp only [a1, a2, a3, if_false]
        · rcases List.mem_or_eq_of_mem_set hr with q | q
          · exact hq3 _ q
          · exact q ▸ hq3 _ (List.mem_of_getElem? hp)
        · rw [← hq4]
          conv => rhs; rw [sdFin]
          rw [if_neg (by omega), hp]
          simp only [hlt', if_true]
      · rename_i hlt'
        refine set_row Fc Nc hoff hq1 (by omega) fun h2 F2 N2 => ?_
        dsimp only
        k_steps
        refine leaveK_ F2 N2 fun F N => h _ _ F ?_
        rw [← hq4, sdFin, if_neg (by omega), hp]
        simp only [hlt', Bool.false_eq_true, if_false]
        exact N
    · rename_i hk
      have hk0 : k = 0 := by omega
      refine set_row Fq Nq hoff hq1 (by omega) fun h2 F2 N2 => ?_
      dsimp only
      k_steps
      refine leaveK_ F2 N2 fun F N => h _ _ F ?_
      rw [← hq4, sdFin, if_pos hk0]
      exact N
  · refine ⟨h1, _, rs, pos, tb, none, none, rfl, ?_, N1, rfl, hpl, rfl, fun _ z => z, rfl⟩
    have e : (fun z => if z = Str.ofString "pos" then some (Value.int (pos : Nat) tb) else if z = Str.ofString "parentpos" then none else if z = Str.ofString "parent" then none else
        if z = Str.ofString "newitem" then some x.val else List.lookup z [(Str.ofString "heap", Value.ref l), (Str.ofString "startpos", Value.int 0 ta), (Str.ofString "pos", Value.int (pos : Nat) tb)].reverse) =
        (fun y => if y = Str.ofString "newitem" then some x.val else List.lookup y [(Str.ofString "heap", Value.ref l), (Str.ofString "startpos", Value.int 0 ta), (Str.ofString "pos", Value.int (pos : Nat) tb)].reverse) := by
      funext z
      by_cases h1 : z = Str.ofString "pos"
      · subst h1; rfl
      · by_cases h2 : z = Str.ofString "parentpos"
        · subst h2; rfl
        · by_cases h3 : z = Str.ofString "parent"
          · subst h3; rfl
          · simp only [h1, h2, h3, if_false]
    rw [e]; exact F1
end Mine
end
section
open PySem PySem.W PyProof.Rows PySem.Calls
set_option maxRecDepth 100000
namespace Mine
local macro_rules | `(tactic| k_steps) => `(tactic| repeat' (first | (k_unfold; (try dsimp only)) | ((fail_if_success (with_reducible show wpAny _ _ (exec (Stmt.While _ _ _ _) _) _ _ _)); (fail_if_success (with_reducible show wpAny _ _ (exec (Stmt.For _ _ _ _ _) _) _ _ _)); (fail_if_success (with_reducible show Exists _)); (fail_if_success (with_reducible show LeaveK _ _ _ _ _ _ _)); (fail_if_success (with_reducible show wpAny _ _ (call (Value.ref _) _ _) _ _ _)); (first | walk1 | (dsimp only; walk1)))))
set_option maxHeartbeats 8000000 in
theorem heappush_call {A A₀ : Around} {base h₀ : Heap} {outer : List Env} {env : Env} {L l : Addr} {m mg mb : Str → Option Value} {rest : List (Addr × Obj)} {rs : List RowD} {x : RowD} {n : Nat} {s : Shared} {w : World} {p : Program} {loose : List Str} {mean : ExcName → Option Value} {Q : Value → Shared → Prop} {E : Value → Shared → Prop}
  (B : Below A₀ base outer h₀) (F : Fr h₀ L s.heap m) (X : (K w.params).In h₀) (N : News h₀ L s.heap ((l, listOf (rs.map RowD.val).toArray n) :: rest)) (T : Top p loose mean mg mb h₀)
  (hA : A.frames = some (env :: outer)) (hf : env.frame = some L) (hke : env.scope.kind = .function) (hd : A.depth + 20 < recursionLimit) (hu : A.units + 200 < cLine) (hh : A.handled = none)
  (hoff : ∀ p ∈ rest, p.1 ≠ l) (hrow : ∀ r ∈ x :: rs, (r.adr, r.obj) ∈ rest) (hz : rs.length < 900)
  (h : ∀ h' tk, Fr h₀ L h' m → News h₀ L h' ((l, listOf ((sdFin rowLt x (rs ++ [x]) rs.length).map RowD.val).toArray (n + 1)) :: rest) → Q .none { s with heap := h', toks := tk })
  : wpAny (model PR w) A (call (.ref 107) [.ref l, x.val]) Q E s := by
  revert X; unfold PR; k_fill; intro X
  refine wpAny_noRaise (wpAny_call ?_)
  refine code_def (params := parsAt 15) (body := bodyAt 15) (scope := scopeAt 15) (binds := [(Str.ofString "heap", .ref l), (Str.ofString "item", x.val)]) B F X N T hA hf hke (show (K w.params).lookup 107 = some ob107 from rfl) (by rfl) (by omega) (BindsTo.of_eq (by rfl)) (locs (by rfl)) ?_ (by rfl) (by rfl) (by rfl) (by decide +kernel)
  intro g' L' h' FG' F' N' B' X' T'
  have hb : bodyAt 15 = bodyAt 15 := rfl
  conv at hb => rhs; whnf
  have hs : scopeAt 15 = scopeAt 15 := rfl
  conv at hs => rhs; whnf
  rw [hb, hs]
  clear hb hs
  dsimp only
  clear FG' F N B T X
  refine wpAny_noRaise ?_
  k_steps
  refine append_K F' N' (.head hoff) (fun h2 F2 N2 => ?_) (by rw [sizeLine_eq]; simp; omega)
  have e : (rs.map RowD.val).toArray.push x.val = ((rs ++ [x]).map RowD.val).toArray := by simp
  rw [e] at N2
  clear F' N'
  dsimp only
  k_steps
  refine rows_len N2 (.head _) (by simp; omega) ?_
  dsimp only
  k_steps
  rw [show ((rs ++ [x]).length : Int) - 1 = ((rs.length : Nat) : Int) by simp]
  refine siftdown_call (x := x) B' F2 X' N2 T' (by show A.frames.map _ = _; rw [hA]; rfl) rfl rfl (by show A.depth + 1 + 10 < _; omega) (by show A.units + 3 + 100 < _; omega) hh hoff
    (fun r hr => hrow r (by rcases List.mem_append.mp hr with q | q; exact .tail _ q; exact (List.mem_singleton.mp q) ▸ .head _)) (by simp) (by simp; omega) fun h3 tk3 F3 N3 => ?_
  dsimp only
  k_steps
  exact leaveK_ F3 N3 fun F N => h _ _ F N

end Mine
end
section
open PySem PySem.W PyProof.Rows PySem.Calls
set_option maxRecDepth 100000
namespace Mine
local macro_rules | `(tactic| k_steps) => `(tactic| repeat' (first | (k_unfold; (try dsimp only)) | ((fail_if_success (with_reducible show wpAny _ _ (exec (Stmt.While _ _ _ _) _) _ _ _)); (fail_if_success (with_reducible show wpAny _ _ (exec (Stmt.For _ _ _ _ _) _) _ _ _)); (fail_if_success (with_reducible show Exists _)); (fail_if_success (with_reducible show LeaveK _ _ _ _ _ _ _)); (fail_if_success (with_reducible show wpAny _ _ (call (Value.ref _) _ _) _ _ _)); (first | walk1 | (dsimp only; walk1)))))
noncomputable def suChild {α : Type} (lt : α → α → Bool) (ys : List α) (pos : Nat) : Nat :=
  match ys[2 * pos + 1]?, ys[2 * pos + 2]? with
  | some a, some b => if lt a b then 2 * pos + 1 else 2 * pos + 2
  | _, _ => 2 * pos + 1
theorem suChild_gt {α : Type} (lt : α → α → Bool) (ys : List α) (pos : Nat) : pos < suChild lt ys pos := by
  unfold suChild
  split
  · split <;> omega
  · omega
noncomputable def suFin {α : Type} (lt : α → α → Bool) (x : α) (ys : List α) (pos : Nat) : List α :=
  if h : 2 * pos + 1 < ys.length then
    match ys[suChild lt ys pos]? with
    | some y => suFin lt x (ys.set pos y) (suChild lt ys pos)
    | none => ys
  else sdFin lt x (ys.set pos x) pos
termination_by ys.length - pos
decreasing_by
  have := suChild_gt lt ys pos
  simp only [List.length_set]
  omega

set_option maxHeartbeats 8000000 in
theorem siftup_call {A A₀ : Around} {base h₀ : Heap} {outer : List Env} {env : Env} {L l : Addr} {m mg mb : Str → Option Value} {rest : List (Addr × Obj)} {rs : List RowD} {x : RowD} {n : Nat} {s : Shared} {w : World} {p : Program} {loose : List Str} {mean : ExcName → Option Value} {Q : Value → Shared → Prop} {E : Value → Shared → Prop}
  {ta : Tok}
  (B : Below A₀ base outer h₀) (F : Fr h₀ L s.heap m) (X : (K w.params).In h₀) (N : News h₀ L s.heap ((l, listOf (rs.map RowD.val).toArray n) :: rest)) (T : Top p loose mean mg mb h₀)
  (hA : A.frames = some (env :: outer)) (hf : env.frame = some L) (hke : env.scope.kind = .function) (hd : A.depth + 20 < recursionLimit) (hu : A.units + 200 < cLine) (hh : A.handled = none)
  (hoff : ∀ p ∈ rest, p.1 ≠ l) (hrow : ∀ r ∈ rs, (r.adr, r.obj) ∈ rest) (hx : rs[0]? = some x) (hz : rs.length < 900)
  (h : ∀ h' tk, Fr h₀ L h' m → News h₀ L h' ((l, listOf ((suFin rowLt x rs 0).map RowD.val).toArray n) :: rest) → Q .none { s with heap := h', toks := tk })
  : wpAny (model PR w) A (call (.ref 135) [.ref l, .int 0 ta]) Q E s := by
  revert X; unfold PR; k_fill; intro X
  refine wpAny_noRaise (wpAny_call ?_)
  refine code_def (params := parsAt 19) (body := bodyAt 19) (scope := scopeAt 19) (binds := [(Str.ofString "heap", .ref l), (Str.ofString "pos", .int 0 ta)]) B F X N T hA hf hke (show (K w.params).lookup 135 = some ob135 from rfl) (by rfl) (by omega) (BindsTo.of_eq (by rfl)) (locs (by rfl)) ?_ (by rfl) (by rfl) (by rfl) (by decide +kernel)
  intro g' L' h' FG' F' N' B' X' T'
  have hb : bodyAt 19 = bodyAt 19 := rfl
  conv at hb => rhs; whnf
  have hs : scopeAt 19 = scopeAt 19 := rfl
  conv at hs => rhs; whnf
  rw [hb, hs]
  clear hb hs
  dsimp only
  clear FG' F N B T X
  rw [lk2] at F'
  refine wpAny_noRaise ?_
  k_steps
  refine rows_len N' (.head _) (by omega) ?_
  dsimp only
  k_steps
  rename_i h1 F1 N1
  refine row_at (i := 0) N1 hx (by omega) ?_
  k_steps
  rename_i h2 F2 N2
  dsimp only at F2
  refine while_inv (fun k s' => ∃ hq tk ys q tq tc te rp, s' = { s with heap := hq, toks := tk } ∧
      Fr g' L' hq (fun z => if z = Str.ofString "pos" then some (.int (q : Nat) tq) else if z = Str.ofString "childpos" then some (.int ((2 * q + 1 : Nat) : Int) tc) else if z = Str.ofString "rightpos" then rp else
        if z = Str.ofString "heap" then some (Value.ref l) else if z = Str.ofString "endpos" then some (Value.int (rs.length : Nat) te) else if z = Str.ofString "startpos" then some (Value.int 0 ta) else if z = Str.ofString "newitem" then some x.val else none) ∧
      News g' L' hq ((l, listOf (ys.map RowD.val).toArray n) :: rest) ∧ k = ys.length - q ∧ q < ys.length ∧ ys.length = rs.length ∧ (∀ r ∈ ys, r ∈ rs) ∧ suFin rowLt x ys q = suFin rowLt x rs 0) ?_ rs.length ?_
  · rintro k s' ⟨hq, tk0, ys, q, tq, tc, te, rp, rfl, Fq, Nq, rfl, hq1, hq2, hq3, hq4⟩
    clear F2 N2
    have fin : ∀ (c : Nat) (y : RowD) (h3 : Heap) (tk3 : Nat) (tq' tc' : Tok) (rp' : Option Value), c = suChild rowLt ys q → ys[c]? = some y → 2 * q + 1 < ys.length →
        Fr g' L' h3 (fun z => if z = Str.ofString "pos" then some (.int (c : Nat) tq') else if z = Str.ofString "childpos" then some (.int ((2 * c + 1 : Nat) : Int) tc') else if z = Str.ofString "rightpos" then rp' else
          if z = Str.ofString "heap" then some (Value.ref l) else if z = Str.ofString "endpos" then some (Value.int (rs.length : Nat) te) else if z = Str.ofString "startpos" then some (Value.int 0 ta) else if z = Str.ofString "newitem" then some x.val else none) →
        News g' L' h3 ((l, listOf ((ys.set q y).map RowD.val).toArray n) :: rest) →
        ∃ m, m < ys.length - q ∧ ∃ hq tk ys q tq tc te rp, ({ s with heap := h3, toks := tk3 } : Shared) = { s with heap := hq, toks := tk } ∧
          Fr g' L' hq (fun z => if z = Str.ofString "pos" then some (.int (q : Nat) tq) else if z = Str.ofString "childpos" then some (.int ((2 * q + 1 : Nat) : Int) tc) else if z = Str.ofString "rightpos" then rp else
            if z = Str.ofString "heap" then some (Value.ref l) else if z = Str.ofString "endpos" then some (Value.int (rs.length : Nat) te) else if z = Str.ofString "startpos" then some (Value.int 0 ta) else if z = Str.ofString "newitem" then some x.val else none) ∧
          News g' L' hq ((l, listOf (ys.map RowD.val).toArray n) :: rest) ∧ m = ys.length - q ∧ q < ys.length ∧ ys.length = rs.length ∧ (∀ r ∈ ys, r ∈ rs) ∧ suFin rowLt x ys q = suFin rowLt x rs 0 := by
      intro c y h3 tk3 tq' tc' rp' hc hy hlt F3 N3
      have hcl : c < ys.length := (List.getElem?_eq_some_iff.mp hy).1
      have hcg := suChild_gt rowLt ys q
      refine ⟨ys.length - c, by omega, h3, tk3, ys.set q y, c, tq', tc', te, rp', rfl, F3, N3, by simp, by simp; omega, by simp; omega, fun r hr => ?_, ?_⟩
      · rcases List.mem_or_eq_of_mem_set hr with z | z
        · exact hq3 _ z
        · exact z ▸ hq3 _ (List.mem_of_getElem? hy)
      · rw [← hq4]
        conv => rhs; rw [suFin]
        rw [dif_pos hlt, ← hc, hy]
    k_steps
    · rename_i hlt1 hb1 Fb1 Nb1 hlt2
      dsimp only at Fb1 Nb1 ⊢
      have l1 : 2 * q + 1 < ys.length := by omega
      have l2 : 2 * q + 2 < ys.length := by omega
      have p1 : ys[2 * q + 1]? = some ys[2 * q + 1] := List.getElem?_eq_getElem l1
      have p2 : ys[2 * q + 2]? = some ys[2 * q + 2] := List.getElem?_eq_getElem l2
      generalize ys[2 * q + 1] = c1 at p1
      generalize ys[2 * q + 2] = c2 at p2
      rw [show ((2 * q + 1 : Nat) : Int) + 1 = ((2 * q + 2 : Nat) : Int) by omega] at Fb1
      refine row_at Nb1 p1 (by omega) ?_
      k_steps
      refine row_at Nb1 p2 (by omega) ?_
      have hr1 := Nb1.get (.tail _ (hrow c1 (hq3 _ (List.mem_of_getElem? p1))))
      have hr2 := Nb1.get (.tail _ (hrow c2 (hq3 _ (List.mem_of_getElem? p2))))
      refine lt_rows hr1 hr2 (by show A.units + 3 < cLine; omega) ?_
      k_steps
      · rename_i hc
        refine row_at Nb1 p1 (by omega) ?_
        k_steps
        refine set_row Fb1 Nb1 hoff hq1 (by omega) fun h3 F3 N3 => ?_
        dsimp only
        k_steps
        rename_i h4 F4 N4
        exact fin (2 * q + 1) c1 _ _ _ _ _ (by unfold suChild; rw [p1, p2]; simp only [hc, if_true]) p1 l1 (fr_map F4 (fun z => by
        by_cases a1 : z = Str.ofString "pos"
        · subst a1; rfl
        · by_cases a2 : z = Str.ofString "childpos"
          · subst a2; exact congrArg some (congrArg (Value.int · _) (by omega))
          · by_cases a3 : z = Str.ofString "rightpos"
            · subst a3; rfl
            · simp only [a1, a2, a3, if_false])) N4
      · rename_i hc hb2 Fb2 Nb2
        refine row_at Nb2 p2 (by omega) ?_
        k_steps
        refine set_row Fb2 Nb2 hoff hq1 (by omega) fun h3 F3 N3 => ?_
        dsimp only
        k_steps
        rename_i h4 F4 N4
        exact fin (2 * q + 2) c2 _ _ _ _ _ (by unfold suChild; rw [p1, p2]; simp only [hc, Bool.false_eq_true, if_false]) p2 l1 (fr_map F4 (fun z => by
        by_cases a1 : z = Str.ofString "pos"
        · subst a1; rfl
        · by_cases a2 : z = Str.ofString "childpos"
          · subst a2; exact congrArg some (congrArg (Value.int · _) (by omega))
          · by_cases a3 : z = Str.ofString "rightpos"
            · subst a3; rfl
            · simp only [a1, a2, a3, if_false])) N4
    · rename_i hlt1 hb1 Fb1 Nb1 hlt2
      dsimp only at Fb1 Nb1 ⊢
      have l1 : 2 * q + 1 < ys.length := by omega
      have p1 : ys[2 * q + 1]? = some ys[2 * q + 1] := List.getElem?_eq_getElem l1
      generalize ys[2 * q + 1] = c1 at p1
      refine row_at Nb1 p1 (by omega) ?_
      k_steps
      refine set_row Fb1 Nb1 hoff hq1 (by omega) fun h3 F3 N3 => ?_
      dsimp only
      k_steps
      rename_i h4 F4 N4
      exact fin (2 * q + 1) c1 _ _ _ _ _ (by unfold suChild; rw [p1, List.getElem?_eq_none (by omega : ys.length ≤ 2 * q + 2)]) p1 l1 (fr_map F4 (fun z => by
        by_cases a1 : z = Str.ofString "pos"
        · subst a1; rfl
        · by_cases a2 : z = Str.ofString "childpos"
          · subst a2; exact congrArg some (congrArg (Value.int · _) (by omega))
          · by_cases a3 : z = Str.ofString "rightpos"
            · subst a3; rfl
            · simp only [a1, a2, a3, if_false])) N4
    · rename_i hlt1
      refine set_row Fq Nq hoff hq1 (by omega) fun h3 F3 N3 => ?_
      dsimp only
      k_steps
      refine siftdown_call (x := x) B' F3 X' N3 T' (by show A.frames.map _ = _; rw [hA]; rfl) rfl rfl (by show A.depth + 1 + 10 < _; omega) (by show A.units + 3 + 100 < _; omega) hh hoff
        (fun r hr => hrow r (by rcases List.mem_or_eq_of_mem_set hr with q | q; exact hq3 _ q; exact q ▸ List.mem_of_getElem? hx)) (by rw [List.getElem?_set_self hq1]) (by simp; omega) fun h4 tk4 F4 N4 => ?_
      dsimp only
      k_steps
      refine leaveK_ F4 N4 fun F N => h _ _ F ?_
      rw [← hq4, suFin, dif_neg (by omega)]
      exact N
  · have hl0 : 0 < rs.length := (List.getElem?_eq_some_iff.mp hx).1
    exact ⟨h2, _, rs, 0, _, _, _, none, rfl, fr_map F2 (fun z => by
      by_cases a1 : z = Str.ofString "pos"
      · subst a1; rfl
      · by_cases a2 : z = Str.ofString "childpos"
        · subst a2; rfl
        · by_cases a3 : z = Str.ofString "rightpos"
          · subst a3; rfl
          · simp only [a1, a2, a3, if_false]
            by_cases a4 : z = Str.ofString "endpos"
            · subst a4; rfl
            · by_cases a5 : z = Str.ofString "startpos"
              · subst a5; rfl
              · by_cases a6 : z = Str.ofString "newitem"
                · subst a6; rfl
                · by_cases a7 : z = Str.ofString "heap"
                  · subst a7; rfl
                  · simp only [a4, a5, a6, a7, if_false]), N2, by omega, hl0, rfl, fun _ z => z, rfl⟩
end Mine
end
section
open PySem PySem.W PyProof.Rows PySem.Calls
set_option maxRecDepth 100000
namespace Mine
/-- what heappop gives, and what it leaves -/
noncomputable def popVal (init : List RowD) (y : RowD) : Value := match init with | [] => y.val | r :: _ => r.val
noncomputable def popRest (init : List RowD) (y : RowD) : List RowD := match init with | [] => [] | _ :: t => suFin rowLt y (y :: t) 0
theorem last_app {α : Type} : ∀ (l : List Value) (a : Value), kl_last (l ++ [a]) = some (l, a)
  | [], a => rfl
  | b :: l, a => by
    rw [List.cons_append]
    cases l with
    | nil => rfl
    | cons c l =>
      have ih := last_app (α := α) (c :: l) a
      rw [List.cons_append] at ih ⊢
      rw [kl_last, ih]
local macro_rules | `(tactic| k_steps) => `(tactic| repeat' (first | (k_unfold; (try dsimp only)) | ((fail_if_success (with_reducible show wpAny _ _ (exec (Stmt.While _ _ _ _) _) _ _ _)); (fail_if_success (with_reducible show wpAny _ _ (exec (Stmt.For _ _ _ _ _) _) _ _ _)); (fail_if_success (with_reducible show Exists _)); (fail_if_success (with_reducible show LeaveK _ _ _ _ _ _ _)); (fail_if_success (with_reducible show wpAny _ _ (call (Value.ref _) _ _) _ _ _)); (first | walk1 | (dsimp only; walk1)))))
set_option maxHeartbeats 8000000 in
theorem heappop_call {A A₀ : Around} {base h₀ : Heap} {outer : List Env} {env : Env} {L l : Addr} {m mg mb : Str → Option Value} {rest : List (Addr × Obj)} {init : List RowD} {y : RowD} {n : Nat} {s : Shared} {w : World} {p : Program} {loose : List Str} {mean : ExcName → Option Value} {Q : Value → Shared → Prop} {E : Value → Shared → Prop}
  (B : Below A₀ base outer h₀) (F : Fr h₀ L s.heap m) (X : (K w.params).In h₀) (N : News h₀ L s.heap ((l, listOf ((init ++ [y]).map RowD.val).toArray n) :: rest)) (T : Top p loose mean mg mb h₀)
  (hA : A.frames = some (env :: outer)) (hf : env.frame = some L) (hke : env.scope.kind = .function) (hd : A.depth + 40 < recursionLimit) (hu : A.units + 300 < cLine) (hh : A.handled = none)
  (hoff : ∀ p ∈ rest, p.1 ≠ l) (hrow : ∀ r ∈ init ++ [y], (r.adr, r.obj) ∈ rest) (hz : init.length < 800)
  (h : ∀ h' tk, Fr h₀ L h' m → News h₀ L h' ((l, listOf ((popRest init y).map RowD.val).toArray (n + 1)) :: rest) → Q (popVal init y) { s with heap := h', toks := tk })
  : wpAny (model PR w) A (call (.ref 114) [.ref l]) Q E s := by
  revert X; unfold PR; k_fill; intro X
  refine wpAny_noRaise (wpAny_call ?_)
  refine code_def (params := parsAt 16) (body := bodyAt 16) (scope := scopeAt 16) (binds := [(Str.ofString "heap", .ref l)]) B F X N T hA hf hke (show (K w.params).lookup 114 = some ob114 from rfl) (by rfl) (by omega) (BindsTo.of_eq (by rfl)) (locs (by rfl)) ?_ (by rfl) (by rfl) (by rfl) (by decide +kernel)
  intro g' L' h' FG' F' N' B' X' T'
  have hb : bodyAt 16 = bodyAt 16 := rfl
  conv at hb => rhs; whnf
  have hs : scopeAt 16 = scopeAt 16 := rfl
  conv at hs => rhs; whnf
  rw [hb, hs]
  clear hb hs
  dsimp only
  clear FG' F N B T X
  rw [lk1] at F'
  refine wpAny_noRaise ?_
  k_steps
  refine kl_pop (p := init.map RowD.val) (y := y.val) F' N' (by rw [List.map_append]; exact last_app (α := Nat) _ _) (.head hoff) (by rw [sizeLine_eq]; simp; omega) fun h2 F2 N2 => ?_
  clear F' N'
  dsimp only
  k_steps
  · rename_i h3 F3 N3 tk3 he
    have hi : init = [] := by cases init with | nil => rfl | cons r t => simp at he
    subst hi
    exact leaveK_ F3 N3 fun F N => h _ _ F N
  · rename_i h3 F3 N3 tk3 he
    cases init with
    | nil => simp at he
    | cons r t =>
      refine row_at (ys := r :: t) (i := 0) (y := r) N3 rfl (by simp at hz ⊢; omega) ?_
      k_steps
      rename_i h4 F4 N4
      refine set_row (ys := r :: t) (i := 0) (y := y) F4 N4 hoff (by simp) (by simp at hz ⊢; omega) fun h5 F5 N5 => ?_
      dsimp only
      k_steps
      refine siftup_call (x := y) (rs := y :: t) B' F5 X' N5 T' (by show A.frames.map _ = _; rw [hA]; rfl) rfl rfl (by show A.depth + 1 + 20 < _; omega) (by show A.units + 3 + 200 < _; omega) hh hoff
        (fun q hq => hrow q (by rcases List.mem_cons.mp hq with e | e; exact e ▸ (by simp); exact List.mem_append_left _ (.tail _ e))) rfl (by simp at hz ⊢; omega) fun h6 tk6 F6 N6 => ?_
      dsimp only
      k_steps
      exact leaveK_ F6 N6 fun F N => h _ _ F N

set_option maxHeartbeats 8000000 in
theorem heapreplace_call {A A₀ : Around} {base h₀ : Heap} {outer : List Env} {env : Env} {L l : Addr} {m mg mb : Str → Option Value} {rest : List (Addr × Obj)} {t : List RowD} {r y : RowD} {n : Nat} {s : Shared} {w : World} {p : Program} {loose : List Str} {mean : ExcName → Option Value} {Q : Value → Shared → Prop} {E : Value → Shared → Prop}
  (B : Below A₀ base outer h₀) (F : Fr h₀ L s.heap m) (X : (K w.params).In h₀) (N : News h₀ L s.heap ((l, listOf ((r :: t).map RowD.val).toArray n) :: rest)) (T : Top p loose mean mg mb h₀)
  (hA : A.frames = some (env :: outer)) (hf : env.frame = some L) (hke : env.scope.kind = .function) (hd : A.depth + 40 < recursionLimit) (hu : A.units + 300 < cLine) (hh : A.handled = none)
  (hoff : ∀ p ∈ rest, p.1 ≠ l) (hrow : ∀ q ∈ y :: r :: t, (q.adr, q.obj) ∈ rest) (hz : t.length < 800)
  (h : ∀ h' tk, Fr h₀ L h' m → News h₀ L h' ((l, listOf ((suFin rowLt y (y :: t) 0).map RowD.val).toArray n) :: rest) → Q r.val { s with heap := h', toks := tk })
  : wpAny (model PR w) A (call (.ref 121) [.ref l, y.val]) Q E s := by
  revert X; unfold PR; k_fill; intro X
  refine wpAny_noRaise (wpAny_call ?_)
  refine code_def (params := parsAt 17) (body := bodyAt 17) (scope := scopeAt 17) (binds := [(Str.ofString "heap", .ref l), (Str.ofString "item", y.val)]) B F X N T hA hf hke (show (K w.params).lookup 121 = some ob121 from rfl) (by rfl) (by omega) (BindsTo.of_eq (by rfl)) (locs (by rfl)) ?_ (by rfl) (by rfl) (by rfl) (by decide +kernel)
  intro g' L' h' FG' F' N' B' X' T'
  have hb : bodyAt 17 = bodyAt 17 := rfl
  conv at hb => rhs; whnf
  have hs : scopeAt 17 = scopeAt 17 := rfl
  conv at hs => rhs; whnf
  rw [hb, hs]
  clear hb hs
  dsimp only
  clear FG' F N B T X
  rw [lk2] at F'
  refine wpAny_noRaise ?_
  k_steps
  rename_i h4 F4 N4
  refine set_row (ys := r :: t) (i := 0) (y := y) F4 N4 hoff (by simp) (by simp; omega) fun h5 F5 N5 => ?_
  dsimp only
  k_steps
  refine siftup_call (x := y) (rs := y :: t) B' F5 X' N5 T' (by show A.frames.map _ = _; rw [hA]; rfl) rfl rfl (by show A.depth + 1 + 20 < _; omega) (by show A.units + 3 + 200 < _; omega) hh hoff
    (fun q hq => hrow q (by rcases List.mem_cons.mp hq with e | e; exact e ▸ .head _; exact .tail _ (.tail _ e))) rfl (by simp; omega) fun h6 tk6 F6 N6 => ?_
  dsimp only
  k_steps
  exact leaveK_ F6 N6 fun F N => h _ _ F N
end Mine
end
section
open PySem PySem.W PyProof.Rows PySem.Calls
set_option maxRecDepth 100000
namespace Mine
theorem mem_env {env : Env} {L b : Addr} {outer : List Env} (hf : env.frame = some L) (hm : b ∈ (env :: outer).filterMap (·.frame)) : b = L ∨ b ∈ outer.filterMap (·.frame) := by
  obtain ⟨e, he, hfe⟩ := List.mem_filterMap.mp hm
  rcases List.mem_cons.mp he with rfl | he
  · exact .inl (Option.some.inj (hf.symm.trans hfe)).symm
  · exact .inr (List.mem_filterMap.mpr ⟨e, he, hfe⟩)
section
variable {prog : Program} {w : World} {A₀ A : Around} {s : Shared} {base h₀ g₀ : Heap} {outer : List Env} {L : Addr} {m : Str → Option Value} {env : Env} {news : List (Addr × Obj)} {K : Frag} {p : Program} {loose : List Str} {mean : ExcName → Option Value} {mg mb : Str → Option Value}
    {R : Result → Shared → Prop} {name qual : Str} {params : Arguments} {body : List Stmt} {scope : Scope} {dV kV doc pm cdv ct oc : Value} {an od : Option Addr} {osl : Array (Option Value)} {f : Addr} {args : Args} {binds : List (Str × Value)}
/-- a def is entered whose run may turn the slots of the frames below, from any frame -/
theorem code_defE (B : Below A₀ base outer h₀) (F : Fr h₀ L s.heap m) (X₀ : K.In h₀) (N : News h₀ L s.heap news) (T : Top p loose mean mg mb h₀) (XB : K.In base) (TB : Top p loose mean mg mb base) (D : KtsDicts (outer.filterMap (·.frame)) h₀)
    (T0 : KtsTurn (outer.filterMap (·.frame)) g₀ h₀) (hA : A.frames = some (env :: outer)) (hf : env.frame = some L) (hke : env.scope.kind = .function)
    (ho : K.lookup f = some ⟨oc, od, .func (fnOf name qual params body scope dV kV doc pm an cdv ct), osl⟩) (hcd : codeIn K cdv qual = true) (hroom : A.depth < recursionLimit)
    (hbind : BindsTo s (fnOf name qual params body scope dV kV doc pm an cdv ct) args binds) (hloc : ∀ y ∈ binds, scope.names.lookup y.1 = some .local)
    (h : ∀ g L' h₁, Fr h₀ L g m → Fr g L' h₁ (fun y => binds.reverse.lookup y) → News g L' h₁ news → Below A base (env :: outer) g → K.In g → Top p loose mean mg mb g → KtsDicts ((env :: outer).filterMap (·.frame)) g →
      wpAny (model prog w) (A.deeper (envOf qual scope L' f cdv)) (execs body (envOf qual scope L' f cdv))
        (fun fl s' => LeaveS ((env :: outer).filterMap (·.frame)) A₀ base outer K p loose mean mg mb g₀ h₀ L m g R (match fl with | .ret v => v | _ => .none) s')
        (fun e s' => wpAny (model prog w) (A.deeper (envOf qual scope L' f cdv)) (leaving (envOf qual scope L' f cdv) e) (fun _ s'' => R (.error e) s'') (fun e' s'' => R (.error e') s'') s')
        { s with heap := h₁, toks := s.toks + binds.length })
    (hco : scope.isCoroutine = false) (hgen : scope.isGenerator = false) (hk : scope.kind = .function)
    (hcell : ∀ x ∈ scope.names, x.2 ≠ .cell) : codeAny (model prog w) A (.call (.ref f) args) R s := by
  have X := X₀.keeps F.keep
  refine codeAny_call_def (fd := fnOf name qual params body scope dV kV doc pm an cdv ct) (body := body) (binds := binds) hroom (X _ _ ho) rfl (T.nolimit.keeps F.keep) (codeRec_of X hcd) rfl hbind hcell hloc (fun h₁ hns hk₁ => ?_) hco hgen hk
  obtain ⟨FG, BG, st, lv⟩ := groundX (R := R) B F N hA hf hke
  obtain ⟨oL, es, ep, hLg, hLd, hLk, hLf⟩ := FG.ns
  have nL₀ : h₀.get? L = none := kts_self F
  refine wpAny_mono (h _ s.heap.objs.size h₁ FG ⟨hns, fun b o e => hk₁ b o (of_hideAll _ e), Nat.le_of_eq (hideAll_size _ _)⟩
    (fun p hp => ⟨hk₁ _ _ (N p hp).1, Nat.ne_of_lt (Heap.lt_size (N p hp).1), hideAll_none _ (List.mem_map_of_mem hp)⟩) BG (X₀.keeps st) (T.keeps st) (fun b hb => by
      rcases mem_env hf hb with rfl | hb
      · exact ⟨oL, es, ep, hLg, hLd⟩
      · obtain ⟨o, es', n', ho', hd'⟩ := D b hb
        exact ⟨o, es', n', st b o ho', hd'⟩)) (fun fl s' hl => ?_) fun _ _ y => y
  rcases hl with ⟨L', m', news', F', N', k⟩ | ⟨g', L', m', news', T', F', N', k⟩
  · exact lv _ _ ⟨L', m', news', F', N', k⟩
  obtain ⟨sl, hs⟩ := T'.up hLg
  obtain ⟨T₁, S₁⟩ := kts_turn_at (h := s'.heap) (fs := outer.filterMap (·.frame)) (g := h₀)
    (fun b hb => by
      obtain ⟨_, o, ho', _⟩ := B.frames.mem hb
      exact ⟨o, ho'⟩)
    (fun b o e nmem => F'.keep b o (T'.other b o (st b o e) (fun q => by
      rcases mem_env hf q with z | z
      · rw [z, nL₀] at e
        cases e
      · exact nmem z)))
    (fun b o e hm => by
      obtain ⟨sl', hs'⟩ := T'.up (st b o e)
      exact ⟨sl', F'.keep _ _ hs'⟩)
  have B₃ : Below A₀ base outer (ktsHeap s'.heap (outer.filterMap (·.frame)) h₀) := ⟨B.stack, fun b o e => T₁.other b o (B.stays b o e) (fun hm => by
    rw [(B.frames.mem hm).1] at e
    cases e), B.frames.of_keeps fun b o e _ => by
    obtain ⟨sl', hs'⟩ := T₁.up e
    exact ⟨_, hs', rfl⟩⟩
  refine k _ (T0.trans T₁) ⟨⟨_, es, ep, F'.keep _ _ hs, hLd, hLk, hLf⟩, S₁, by rw [T₁.size]; exact F.above⟩ (fun p hp => ⟨(N' p hp).1, fun q => ?_, ?_⟩) B₃ (XB.keeps B₃.stays) (TB.keeps B₃.stays) (D.turn T₁)
  · have := (N' p hp).2.2; rw [q, hs] at this; cases this
  · refine T₁.none_ _ ?_
    cases q : h₀.get? p.1 with
    | none => rfl
    | some o =>
      obtain ⟨sl', hs'⟩ := T'.up (st _ _ q)
      have := (N' p hp).2.2
      rw [hs'] at this
      cases this
end
section
variable {A₀ : Around} {base h₀ g g2 : Heap} {outer : List Env} {L : Addr} {m : Str → Option Value} {env : Env}
/-- what a turn above leaves of the ground below -/
theorem turn_down (hf : env.frame = some L) (B : Below A₀ base outer h₀) (FG : Fr h₀ L g m) (KT : KtsTurn ((env :: outer).filterMap (·.frame)) g g2) (D : KtsDicts (outer.filterMap (·.frame)) h₀) :
    ∃ h₀', KtsTurn (outer.filterMap (·.frame)) h₀ h₀' ∧ Fr h₀' L g2 m ∧ Below A₀ base outer h₀' ∧ KtsDicts (outer.filterMap (·.frame)) h₀' := by
  have nL₀ : h₀.get? L = none := kts_self FG
  obtain ⟨T₁, S₁⟩ := kts_turn_at (h := g2) (fs := outer.filterMap (·.frame)) (g := h₀)
    (fun b hb => by
      obtain ⟨_, o, ho', _⟩ := B.frames.mem hb
      exact ⟨o, ho'⟩)
    (fun b o e nmem => KT.other b o (FG.keep b o e) (fun q => by
      rcases mem_env hf q with z | z
      · rw [z, nL₀] at e
        cases e
      · exact nmem z))
    (fun b o e hm => KT.up (FG.keep b o e))
  refine ⟨_, T₁, ⟨?_, S₁, by rw [T₁.size]; exact FG.above⟩, ⟨B.stack, fun b o e => T₁.other b o (B.stays b o e) (fun hm => by
    rw [(B.frames.mem hm).1] at e
    cases e), B.frames.of_keeps fun b o e _ => by
    obtain ⟨sl', hs'⟩ := T₁.up e
    exact ⟨_, hs', rfl⟩⟩, D.turn T₁⟩
  obtain ⟨oL, es, ep, hL, hd, r⟩ := FG.ns
  obtain ⟨sl, hs⟩ := KT.up hL
  exact ⟨_, es, ep, hs, hd, r⟩
end
end Mine
end
section
open PySem PySem.W PyProof.Rows PySem.Calls
set_option maxRecDepth 100000
namespace Mine
section
variable {M : Model} {A A₀ : Around} {E : Value → Shared → Prop} {s' : Shared} {base g h G : Heap} {outer : List Env} {L a e t : Addr} {m : Str → Option Value} {name : Str} {scope : Scope} {cd cls a0 : Value} {news : List (Addr × Obj)}
/-- the frame's heap with some addresses hidden -/
theorem fr_hide (F : Fr g L h m) {xs : List Addr} (hx : ∀ b ∈ xs, g.get? b = none) (hL : L ∉ xs) : Fr g L (hideAll h xs) m := by
  obtain ⟨oL, es, ep, hLh, hLd, hLk, hLf⟩ := F.ns
  exact ⟨⟨oL, es, ep, hideAll_get _ hLh hL, hLd, hLk, hLf⟩, fun b o q => hideAll_get _ (F.keep b o q) (fun z => by rw [hx b z] at q; cases q), F.above⟩
theorem hide_up {h : Heap} {xs : List Addr} : (hideAll h xs).UpToSlots h := Heap.UpToSlots.of_keeps fun _ _ q => of_hideAll _ q
/-- an exception that was made in this frame is noted there for the first time -/
theorem note_any {extra : List Addr} {oe : Obj} {vs : Array Value} {Q : Unit → Shared → Prop} (K : Below A₀ base outer g) (hfr : A.frames = some (envOf name scope L a cd :: outer)) (F : Fr g L s'.heap m) (N : News g L s'.heap news)
    (ee : s'.heap.get? e = some oe) (hen : g.get? e = none) (hnn : ∀ q ∈ news, q.1 ≠ e) (hd : oe.data = .fields vs) (h1 : vs[1]? = some .none) (h0 : vs[0]? = some a0)
    (hxg : ∀ b ∈ extra, g.get? b = none) (hxn : ∀ b ∈ extra, ∀ q ∈ news, q.1 ≠ b) (hxL : L ∉ extra) (hk : scope.kind = .function)
    (hQ : ∀ h', (∃ B, base.StaysIn B ∧ (∀ b o, (hideAll s'.heap ((e :: extra) ++ news.map (·.1))).get? b = some o → b ∉ (envOf name scope L a cd :: outer).filterMap (·.frame) → B.get? b = some o) ∧
        (∀ q ∈ news, B.get? q.1 = some q.2 ∧ (hideAll s'.heap ((e :: extra) ++ news.map (·.1))).get? q.1 = none ∧ base.get? q.1 = none) ∧ Heap.HeldW B (envOf name scope L a cd :: outer) e oe.cls a0 L h' ∧ ∀ b ∈ extra, B.get? b = none) →
      Fr g L (hideAll s'.heap ((e :: extra) ++ news.map (·.1))) m → s'.heap.UpToSlots h' → Q () { s' with heap := h' }) :
    wpAny M A (noteFrame (.ref e) (envOf name scope L a cd)) Q E s' := by
  have K' := K.push (name := name) (a := a) (cd := cd) F hk
  have hLe : L ≠ e := fun q => by
    obtain ⟨oL, es, ep, hL, hLd, _⟩ := F.ns
    rw [q, ee] at hL; cases hL; rw [hd] at hLd; cases hLd
  have hex : ∀ b ∈ e :: extra, g.get? b = none := fun b hb => by
    rcases List.mem_cons.mp hb with rfl | hb
    · exact hen
    · exact hxg b hb
  have hLx : L ∉ e :: extra := fun hb => by
    rcases List.mem_cons.mp hb with q | hb
    · exact hLe q
    · exact hxL hb
  have hnx : ∀ b ∈ e :: extra, ∀ q ∈ news, q.1 ≠ b := fun b hb => by
    rcases List.mem_cons.mp hb with rfl | hb
    · exact hnn
    · exact hxn b hb
  have hnof : ∀ b ∈ (envOf name scope L a cd :: outer).filterMap (·.frame), b ∉ e :: extra := fun b hb hx => by
    rcases kts_mem hb with z | z
    · exact hLx (z ▸ hx)
    · obtain ⟨o, ho, _⟩ := (K.frames.mem z).2
      rw [hex b hx] at ho; cases ho
  let fs := (envOf name scope L a cd :: outer).filterMap (·.frame)
  have hin : ∀ env ∈ (envOf name scope L a cd :: outer), ∀ b, env.frame = some b → b ∈ fs ++ (e :: extra) := fun env he b hb => List.mem_append_left _ (List.mem_filterMap.mpr ⟨env, he, hb⟩)
  have sg : ∀ b o, s'.heap.get? b = some o → b ∉ fs → b ∉ e :: extra → (hideAll s'.heap (fs ++ (e :: extra))).get? b = some o := fun b o q n1 n2 => hideAll_get _ q fun hm => (List.mem_append.mp hm).elim n1 n2
  have hge : ∀ b, g.get? b = none → base.get? b = none := fun b q => fresh_of_stays K.stays q
  have st : base.StaysIn (hideAll s'.heap (fs ++ (e :: extra))) := fun b o q => sg b o (K'.stays b o q) (fun hm => by rw [(K'.frames.mem hm).1] at q; cases q) (fun hm => by rw [hge b (hex b hm)] at q; cases q)
  have hl : ∀ q ∈ news, (hideAll s'.heap (fs ++ (e :: extra))).get? q.1 = some q.2 ∧ (hideAll s'.heap ((e :: extra) ++ news.map (·.1))).get? q.1 = none ∧ base.get? q.1 = none := fun q hq => by
    refine ⟨sg _ _ (N q hq).1 (fun hm => ?_) (fun hm => hnx _ hm q hq rfl), hideAll_none _ (List.mem_append_right _ (List.mem_map_of_mem hq)), hge _ (N q hq).2.2⟩
    rcases kts_mem hm with z | z
    · exact (N q hq).2.1 z
    · obtain ⟨o, ho, _⟩ := (K.frames.mem z).2
      rw [(N q hq).2.2] at ho; cases ho
  have hbn : ∀ b ∈ e :: extra, (hideAll s'.heap (fs ++ (e :: extra))).get? b = none := fun b hb => hideAll_none _ (List.mem_append_right _ hb)
  have F' : Fr g L (hideAll s'.heap ((e :: extra) ++ news.map (·.1))) m := fr_hide F (fun b hb => by
    rcases List.mem_append.mp hb with hb | hb
    · exact hex b hb
    · obtain ⟨q, hq, rfl⟩ := List.mem_map.mp hb
      exact (N q hq).2.2) (fun hb => by
    rcases List.mem_append.mp hb with hb | hb
    · exact hLx hb
    · obtain ⟨q, hq, e2⟩ := List.mem_map.mp hb
      exact (N q hq).2.1 e2)
  unfold noteFrame
  simp only [show (envOf name scope L a cd).frame = some L from rfl]
  refine wpAny_bind (wpAny_field ee hd h1 ?_)
  rw [if_neg (by decide)]
  refine wpAny_entryW hfr (funFrames_hide K'.frames hin) rfl ee (fun b o hb => of_hideAll _ hb) (hbn e (.head _)) hd (Array.getElem?_eq_some_iff.mp h1).1 h0 fun h' hN => ?_
  obtain ⟨k1, k2, k3, k4⟩ := hN
  refine hQ h' ⟨_, st, fun b o q n => ?_, hl, ⟨k1, hbn e (.head _), k2, k3⟩, fun b hb => hbn b (.tail _ hb)⟩ F' k4
  have nb : b ∉ (e :: extra) ++ news.map (·.1) := fun hb => by rw [hideAll_none _ hb] at q; cases q
  exact sg b o (of_hideAll _ q) n fun hb => nb (List.mem_append_left _ hb)
/-- a held exception: it came back to its own frame -/
theorem back_any {B : Heap} {l : List Env} {env : Env} (R : Heap.HeldW B l e cls a0 L s'.heap) (hf : env.frame = some L)
    (k : ∀ h', Heap.HeldW B l e cls a0 L h' → s'.heap.UpToSlots h' → E (.ref e) { s' with heap := h' }) : cameBackBy M A env E (.ref e) s' := by
  obtain ⟨hkb, hen, hl, oe, vs, T, oT, ts, he, hcls, hd, h1, hnT, hTe, hT, hdT, h3⟩ := R
  have hsz3 : 3 < ts.size := (Array.getElem?_eq_some_iff.mp h3).1
  have other : ∀ b, b ≠ T → (s'.heap.update T (Obj.mapFields (·.setIfInBounds 3 ((some L).elim Value.none fun f => rawInt f)))).get? b = s'.heap.get? b :=
    fun b hb => Heap.get?_update_other _ _ (Ne.symm hb)
  have noRecord : ∀ b o, s'.heap.get? b = some o → (∀ vs, o.data ≠ .fields vs) → b ≠ T := fun b o hb hnf q => by
    rw [q, hT] at hb; injection hb with hb; subst hb; exact hnf ts hdT
  unfold cameBackBy setFlight
  rw [hf]
  refine wpAny_bind (wpAny_field he hd h1 ?_)
  rw [if_neg (show ¬ ((Value.ref T == Value.none) = true) from by simp)]
  try refine wpAny_bind (wpAny_pure ?_)
  refine wpAny_bind (wpAny_field he hd h1 ?_)
  rw [if_pos (show (Value.ref T != Value.none) = true from by simp)]
  refine wpAny_setField hT hdT hsz3 (k _ ⟨fun b o hbo => (other b fun q => by rw [q, hnT] at hbo; cases hbo).trans (hkb b o hbo), hen,
    hl.of_keeps fun b o hb hnf => ⟨o, (other b (noRecord b o hb hnf)).trans hb, rfl⟩, ?_⟩ fun b o hb hnf => ⟨o.slots, (other b (noRecord b o hb hnf)).trans hb⟩)
  exact ⟨oe, vs, T, _, _, (other e (Ne.symm hTe)).trans he, hcls, hd, h1, hnT, hTe, Heap.get?_update_self _ hT (Obj.isFreed_of_fields (Obj.data_mapFields hdT _)), Obj.data_mapFields hdT _, by simp [hsz3]⟩
theorem land_HN {l : List Env} {Q : Unit → Shared → Prop} (R : RaisedHN base G l L e cls news s'.heap) (hsm : G.UpToSlots s'.heap)
    (k : ∀ h', RaisedSN base G l e cls news h' → G.UpToSlots h' → Q () { s' with heap := h' }) : wpAny M A (setFlight (.ref e) none) Q E s' := by
  obtain ⟨B, a0, hB, hBG, hl, hh⟩ := R
  exact wpAny_landsW hh fun h' hfl hs => k h' ⟨B, a0, hB, hBG, hl, hfl⟩ (hsm.trans hs)
theorem back_HN {l : List Env} {env : Env} (R : RaisedHN base G l L e cls news s'.heap) (hsm : G.UpToSlots s'.heap) (hf : env.frame = some L)
    (k : ∀ h', RaisedHN base G l L e cls news h' → G.UpToSlots h' → E (.ref e) { s' with heap := h' }) : cameBackBy M A env E (.ref e) s' := by
  obtain ⟨B, a0, hB, hBG, hl, hh⟩ := R
  exact back_any hh hf fun h' hfl hs => k h' ⟨B, a0, hB, hBG, hl, hfl⟩ (hsm.trans hs)
theorem back_H {l : List Env} {env : Env} {vs : List Value} (R : RaisedH base G l L e cls t vs news s'.heap) (hsm : G.UpToSlots s'.heap) (hf : env.frame = some L)
    (k : ∀ h', RaisedH base G l L e cls t vs news h' → G.UpToSlots h' → E (.ref e) { s' with heap := h' }) : cameBackBy M A env E (.ref e) s' := by
  obtain ⟨⟨B, hB, hBG, hl, hh, ht⟩, htup⟩ := R
  exact back_any hh hf fun h' hfl hs => k h' ⟨⟨B, hB, hBG, hl, hfl, ht⟩, htup.of_slots hs⟩ (hsm.trans hs)
/-- a new exception, noted in the frame that made it -/
theorem note_new {X : String} {Q : Unit → Shared → Prop} (K : Below A₀ base outer g) (hfr : A.frames = some (envOf name scope L a cd :: outer)) (hx : Heap.NewExc h s'.heap e X) (F : Fr g L h m) (N : News g L h news) (hk : scope.kind = .function)
    (hQ : ∀ G h', RaisedHN base G (envOf name scope L a cd :: outer) L e (.type X) news h' → Fr g L G m → G.UpToSlots h' → Q () { s' with heap := h' }) :
    wpAny M A (noteFrame (.ref e) (envOf name scope L a cd)) Q E s' := by
  obtain ⟨ob, tp, he, hcls, hd⟩ := hx.there
  have F' : Fr g L s'.heap m := F.grownK hx.keeps
  have N' : News g L s'.heap news := N.grown hx.keeps
  have hen : g.get? e = none := by
    cases q : g.get? e with
    | none => rfl
    | some o => have := F.keep _ _ q; rw [hx.new] at this; cases this
  refine note_any (a0 := tp) (extra := []) K hfr F' N' he hen (fun q hq z => by have := (N q hq).1; rw [z, hx.new] at this; cases this) hd rfl rfl (fun _ z => nomatch z) (fun _ z => nomatch z) (fun z => nomatch z) hk fun h' R FG hs => ?_
  obtain ⟨B, h1, h2, h3, h4, _⟩ := R
  exact hQ _ h' ⟨B, tp, h1, h2, h3, hcls ▸ h4⟩ FG (hide_up.trans hs)
end
section
variable {prog : Program} {w : World} {A₀ : Around} {E : Value → Shared → Prop} {s' : Shared} {base g g₀ G h : Heap} {outer : List Env} {L a e t : Addr} {m : Str → Option Value} {name : Str} {scope : Scope} {cd cls : Value}
  {b₀ : Stmt} {suite : List Stmt} {pos : Pos} {rest : List ExceptHandler} {Q : Flow → Shared → Prop} {news : List (Addr × Obj)} {KF : Frag} {tt : Expr}
  {p : Program} {loose : List Str} {mean : ExcName → Option Value} {mg mb : Str → Option Value}
/-- an exception made in this frame, inside its try: caught there -/
theorem catch_new {X : String} (hx : Heap.NewExc h s'.heap e X) (F : Fr g L h m) (N : News g L h news) (K : Below A₀ base outer g) (XB : KF.In base) (TB : Top p loose mean mg mb base)
    (D : KtsDicts (outer.filterMap (·.frame)) g) (T0 : KtsTurn (outer.filterMap (·.frame)) g₀ g) (T : KtsTest prog w KF p loose mg mb name scope L a cd (.type X) tt true)
    (k : ∀ h' g', KtsTurn (outer.filterMap (·.frame)) g₀ g' → Fr g' L h' m → News g' L h' news → Below A₀ base outer g' → KF.In g' → Top p loose mean mg mb g' → KtsDicts (outer.filterMap (·.frame)) g' →
      wpAny (model prog w) ((A₀.deeper (envOf name scope L a cd)).mark (some (.ref e))) (execs (b₀ :: suite) (envOf name scope L a cd)) Q E { s' with heap := h' })
    (hE : PassesOwnAt (model prog w) ((A₀.deeper (envOf name scope L a cd)).mark (some (.ref e))) (A₀.deeper (envOf name scope L a cd)) (envOf name scope L a cd) E) (hk : scope.kind = .function) :
    wpAny (model prog w) (A₀.deeper (envOf name scope L a cd)) (noteFrame (.ref e) (envOf name scope L a cd))
      (fun _ s₂ => wpAny (model prog w) (A₀.deeper (envOf name scope L a cd)) (setFlight (.ref e) none) (fun _ s₃ =>
        wpAny (model prog w) (A₀.deeper (envOf name scope L a cd)) (handleBy (.ref e) (envOf name scope L a cd) (.ExceptHandler (some tt) none (b₀ :: suite) pos :: rest)) Q E s₃) E s₂) E s' := by
  refine note_new K (Around.frames_deeper K.stack) hx F N hk fun G h1 R1 FG U1 => ?_
  refine land_HN R1 U1 fun h2 R2 U2 => ?_
  exact hit_SN0 R2 FG K U2 XB TB D T0 T (fun h' g' => k h' g') hE
/-- an exception made in this frame, inside a loop inside its try: caught there -/
theorem catch_loop {X : String} (hx : Heap.NewExc h s'.heap e X) (F : Fr g L h m) (N : News g L h news) (K : Below A₀ base outer g) (XB : KF.In base) (TB : Top p loose mean mg mb base)
    (D : KtsDicts (outer.filterMap (·.frame)) g) (T0 : KtsTurn (outer.filterMap (·.frame)) g₀ g) (T : KtsTest prog w KF p loose mg mb name scope L a cd (.type X) tt true)
    (k : ∀ h' g', KtsTurn (outer.filterMap (·.frame)) g₀ g' → Fr g' L h' m → News g' L h' news → Below A₀ base outer g' → KF.In g' → Top p loose mean mg mb g' → KtsDicts (outer.filterMap (·.frame)) g' →
      wpAny (model prog w) ((A₀.deeper (envOf name scope L a cd)).mark (some (.ref e))) (execs (b₀ :: suite) (envOf name scope L a cd)) Q E { s' with heap := h' })
    (hE : PassesOwnAt (model prog w) ((A₀.deeper (envOf name scope L a cd)).mark (some (.ref e))) (A₀.deeper (envOf name scope L a cd)) (envOf name scope L a cd) E) (hk : scope.kind = .function) :
    notedBy (model prog w) (A₀.deeper (envOf name scope L a cd)) (envOf name scope L a cd) (cameBackBy (model prog w) (A₀.deeper (envOf name scope L a cd)) (envOf name scope L a cd)
      (fun e s => wpAny (model prog w) (A₀.deeper (envOf name scope L a cd)) (noteFrame e (envOf name scope L a cd))
      (fun _ s₂ => wpAny (model prog w) (A₀.deeper (envOf name scope L a cd)) (setFlight e none) (fun _ s₃ =>
        wpAny (model prog w) (A₀.deeper (envOf name scope L a cd)) (handleBy e (envOf name scope L a cd) (.ExceptHandler (some tt) none (b₀ :: suite) pos :: rest)) Q E s₃) E s₂) E s)) (.ref e) s' := by
  refine note_new K (Around.frames_deeper K.stack) hx F N hk fun G h1 R1 FG U1 => ?_
  refine back_HN R1 U1 rfl fun h2 R2 U2 => ?_
  have R2' := R2
  obtain ⟨B, a0, hB, hBG, hl, hh⟩ := R2'
  refine wpAny_noteFrame_againW (a0 := a0) rfl hh.2.2.2 ?_
  refine land_HN R2 U2 fun h3 R3 U3 => ?_
  exact hit_SN0 R3 FG K U3 XB TB D T0 T (fun h' g' => k h' g') hE
end
end Mine
end
section
open PySem PySem.W PyProof.Rows PySem.Calls
set_option maxRecDepth 100000
namespace Mine
theorem slot_fset_contains : Slot "frozenset" "__contains__" "frozenset.__contains__" :=
  .of (owner := "frozenset") (n := "__contains__") (by rw [typeLookup_type, builtinLookup_eq_fast]; kernel_rfl) (by decide +kernel) (by decide +kernel) (by decide +kernel)
    (by first | exact .inl (by decide +kernel) | exact .inr (by decide +kernel)) (by rw [isSubtype_type]; kernel_rfl)
theorem owner_fset : Manifest.owners.lookup (String.ofList ['t', 'e', 's', 'n', 'e', 'z', 'o', 'r', 'f'].reverse) = some Manifest.sig_frozenset := by kernel_rfl
theorem args_fset_contains_2 (a b : Value) : argsOk "frozenset.__contains__" ⟨[a, b], []⟩ := by
  unfold argsOk; rw [signature?_of (id := "frozenset.__contains__") (n := ['_', '_', 's', 'n', 'i', 'a', 't', 'n', 'o', 'c', '_', '_']) (o := ['t', 'e', 's', 'n', 'e', 'z', 'o', 'r', 'f']) (by kernel_rfl) owner_fset]; kernel_rfl
theorem entry_fset_contains : entryFor table "frozenset.__contains__" = some Builtin.«frozenset.__contains__» := entryFor_of_tree (by kernel_rfl)
theorem plainAttrs_fset : PlainAttrs "frozenset" :=
  ⟨⟨"object.__getattribute__", by rw [typeLookup_type, builtinLookup_eq_fast]; kernel_rfl, by decide +kernel⟩, by rw [typeLookup_type, builtinLookup_eq_fast]; kernel_rfl⟩
theorem slot_fset_isdisjoint : Slot "frozenset" "isdisjoint" "frozenset.isdisjoint" :=
  .of (owner := "frozenset") (n := "isdisjoint") (by rw [typeLookup_type, builtinLookup_eq_fast]; kernel_rfl) (by decide +kernel) (by decide +kernel) (by decide +kernel)
    (by first | exact .inl (by decide +kernel) | exact .inr (by decide +kernel)) (by rw [isSubtype_type]; kernel_rfl)
theorem type_fset_isdisjoint : typeOf (.builtin "frozenset.isdisjoint") = pure (.type "method_descriptor") := by show builtinType _ = _; rw [builtinType_eq_fast]; kernel_rfl
theorem args_fset_isdisjoint_2 (a b : Value) : argsOk "frozenset.isdisjoint" ⟨[a, b], []⟩ := by
  unfold argsOk; rw [signature?_of (id := "frozenset.isdisjoint") (n := ['t', 'n', 'i', 'o', 'j', 's', 'i', 'd', 's', 'i']) (o := ['t', 'e', 's', 'n', 'e', 'z', 'o', 'r', 'f']) (by kernel_rfl) owner_fset]; kernel_rfl
theorem entry_fset_isdisjoint : entryFor table "frozenset.isdisjoint" = some Builtin.«frozenset.isdisjoint» := entryFor_of_tree (by kernel_rfl)
theorem entry_fset_isdisjoint_loop : entryFor table "frozenset.isdisjoint.loop" = some Builtin.«frozenset.isdisjoint.loop» := entryFor_of_tree (by kernel_rfl)
/-- a frozenset of texts -/
noncomputable def StrSet (h : Heap) (a : Addr) (P : Str → Bool) : Prop :=
  ∃ o es n t, h.get? a = some o ∧ o.cls = .type "frozenset" ∧ o.dict = none ∧ o.data = .set es n t ∧ t.fits es.size = true ∧ es.size < scanBound ∧ (∀ e ∈ es.toList, isExactStrKey e.2 = true) ∧ ∀ x, P x = es.toList.any (fun e => e.2.isStr x)

section
variable {prog : Program} {w : World} {A : Around} {E : Value → Shared → Prop} {s : Shared} {a : Addr} {P : Str → Bool} {x : Str} {u : Tok}
theorem StrSet.keeps {h h' : Heap} (hS : StrSet h a P) (k : ∀ b o, h.get? b = some o → h'.get? b = some o) : StrSet h' a P :=
  let ⟨o, es, n, t, ho, r⟩ := hS; ⟨o, es, n, t, k _ _ ho, r⟩
theorem StrSet.typeIs (hS : StrSet s.heap a P) : s.TypeIs (.ref a) "frozenset" := let ⟨o, _, _, _, ho, hc, _⟩ := hS; ⟨o, ho, hc⟩
theorem StrSet.noDict (hS : StrSet s.heap a P) : ∀ b, Value.ref a = .ref b → ∃ ob, s.heap.get? b = some ob ∧ ob.dict = none :=
  fun b e => by injection e with e; subst e; exact let ⟨o, _, _, _, ho, _, hc, _⟩ := hS; ⟨o, ho, hc⟩
theorem find_fset {Q : Option Nat → Shared → Prop} {hh : Int} (hS : StrSet s.heap a P) (h : ∀ r : Option Nat, r.isSome = P x → Q r s) : wpAny (model prog w) A (setFind a (.str x u) hh) Q E s := by
  obtain ⟨o, es, ep, t, ho, _, _, hd, hf, hb, hel, hP⟩ := hS
  unfold setFind setFindIn
  refine wpAny_bind (wpAny_setState_of ho hd hf ?_)
  dsimp only
  have hall : es.all (fun e => isExactStrKey e.2) = true := by
    rw [← Array.all_toList, List.all_eq_true]; exact hel
  have hsc : es.all (fun e => e.2.scannable) = true := by
    rw [← Array.all_toList, List.all_eq_true]
    intro e he
    have := hel e he
    revert this
    cases e.2 <;> simp [isExactStrKey, Value.scannable]
  have hbs : byScan (.str x u) es = true := by
    simp only [byScan, Value.scannable, Bool.true_and, Bool.and_eq_true, decide_eq_true_eq]
    exact ⟨hb, hsc⟩
  rw [hbs]
  simp only [↓reduceIte]
  refine wpAny_bind (wpAny_rule ?_)
  unfold setScan
  dsimp only
  rw [if_pos hall]
  unfold setScanStrs
  have hidx : es.findIdx? (fun e => e.2.isStr x) = es.toList.findIdx? (fun e => e.2.isStr x) := by cases es; simp
  rw [hidx]
  cases hr : es.toList.findIdx? (fun e => e.2.isStr x) with
  | none =>
    refine wpAny_bind (wpAny_pure ?_)
    refine wpAny_pure (h none ?_)
    rw [hP, Option.isSome_none, eq_comm, List.any_eq_false]
    intro e he
    have := List.findIdx?_eq_none_iff.mp hr e he
    simpa using this
  | some j =>
    obtain ⟨hj, hpj, _⟩ := List.findIdx?_eq_some_iff_getElem.mp hr
    have he : es[j]? = some (es.toList[j].1, es.toList[j].2) := by rw [← Array.getElem?_toList]; exact List.getElem?_eq_getElem hj
    dsimp only
    rw [he]
    dsimp only
    have hst : ∃ t, es.toList[j].2 = .str x t := by
      revert hpj
      cases es.toList[j].2 <;> simp [Value.isStr]
    obtain ⟨t1, ht1⟩ := hst
    rw [ht1]
    refine wpAny_bind (wpAny_bind (wpAny_setEpoch_of ho hd hf ?_))
    refine wpAny_bind (wpAny_eqBool_str ?_)
    simp only [Bool.false_and, Bool.false_eq_true, ↓reduceIte]
    refine wpAny_bind (wpAny_setEpoch_of ho hd hf ?_)
    simp only [bne_self_eq_false, Bool.false_eq_true, ↓reduceIte, decide_true]
    refine wpAny_pure ?_
    refine wpAny_pure (h _ ?_)
    rw [hP, Option.isSome_some, eq_comm, List.any_eq_true]
    exact ⟨es.toList[j], List.getElem_mem hj, hpj⟩
theorem has_fset {Q : Bool → Shared → Prop} (hS : StrSet s.heap a P) (h : Q (P x) { s with toks := s.toks + 1 }) : wpAny (model prog w) A (setContains a (.str x u)) Q E s := by
  unfold setContains
  refine wpAny_holding ?_
  refine wpAny_bind (wpAny_pyHash_str ?_)
  refine wpAny_bind (find_fset (s := { s with toks := s.toks + 1 }) hS fun r hr => ?_)
  refine wpAny_pure ?_
  rw [hr]
  exact h
theorem in_fset {Q : Value → Shared → Prop} (hS : StrSet s.heap a P) (h : Q (.bool (P x)) { s with toks := s.toks + 1 }) : wpAny (model prog w) A (compareOp .In (.str x u) (.ref a)) Q E s := by
  show wpAny _ _ (do return .bool (← contains (.ref a) (.str x u))) Q E s
  refine wpAny_bind ?_
  unfold contains
  try with_reducible refine wpAny_holding ?_
  refine wpAny_bind (wpAny_specialOf hS.typeIs slot_fset_contains.lookup ?_)
  show wpAny _ _ (if (some (Value.builtin "frozenset.__contains__") == some Value.none) = true then _ else _) _ E s
  rw [if_neg (by rw [beq_builtin_none]; exact Bool.false_ne_true)]
  refine wpAny_bind (wpAny_callSpecialUnlessNone?_slot (name := Str.ofString "__contains__") hS.typeIs slot_fset_contains
    (wpAny_call_entry slot_fset_contains hS.typeIs entry_fset_contains ?_ (args_fset_contains_2 _ _)))
  unfold Builtin.«frozenset.__contains__» Builtin.Frozenset.oneOther
  simp only [List.isEmpty_nil, bind_assoc]
  unfold Builtin.Frozenset.addrOf Builtin.Frozenset.withSetAsKey
  refine wpAny_bind (wpAny_pure ?_)
  try dsimp only
  refine wpAny_bind (wpAny_pure ?_)
  try dsimp only
  refine wpAny_bind (wpAny_tryCatch ?_)
  refine has_fset hS ?_
  exact wpAny_pure ⟨_, rfl, wpAny_truthy_bool (wpAny_pure h)⟩
theorem plain_disjoint_loop : plainId "frozenset.isdisjoint.loop" = true := by decide +kernel
theorem disjoint_loop {it : Addr} {y : Str} {St : Nat → Heap → Prop} {R : Result → Shared → Prop} (W : Walks prog w A.in1 it [it] [it] y.cps.size (SignAt y) St) (hd : ∀ c ∈ y.cps.toList, P ⟨#[c]⟩ = false)
    (hA : A.under (.builtin "frozenset.isdisjoint.loop" ⟨[.ref a, .ref it], []⟩) = A.in1) (hna : a ≠ it) : ∀ (k i : Nat) (s : Shared), k = y.cps.size - i → i ≤ y.cps.size → StrSet s.heap a P → St i s.heap →
    (∀ h' tk, (∀ b o, b ≠ it → s.heap.get? b = some o → h'.get? b = some o) → R (.ok (.ret (.bool true))) { s with heap := h', toks := tk }) →
    codeAny (model prog w) A (.builtin "frozenset.isdisjoint.loop" ⟨[.ref a, .ref it], []⟩) R s
  | k, i, s, hk, hi, hS, hst, h => by
    refine codeAny_builtin entry_fset_isdisjoint_loop ?_
    rw [hA]
    unfold Builtin.«frozenset.isdisjoint.loop»
    dsimp only
    cases k with
    | zero =>
      have e : i = y.cps.size := by omega
      subst e
      refine wpAny_bind (W.done s _ _ hst fun h' tk keep => ?_)
      exact wpAny_pure (h h' tk fun b o hb ho => keep b o (fun z => hb (List.mem_singleton.mp z)) ho)
    | succ k =>
      refine wpAny_bind (W.item i s _ _ (by omega) hst fun v h' tk hp hst' keep => ?_)
      obtain ⟨c, u, hc, rfl⟩ := hp
      have hcm : P ⟨#[c]⟩ = false := hd c (by rw [Array.getElem?_eq_some_iff] at hc; obtain ⟨hl, rfl⟩ := hc; exact Array.getElem_mem_toList hl)
      have keep' : ∀ b o, b ≠ it → s.heap.get? b = some o → h'.get? b = some o := fun b o hb ho => keep b o (fun z => hb (List.mem_singleton.mp z)) ho
      have hS' : StrSet h' a P := let ⟨o, es, n, t, ho, r⟩ := hS; ⟨o, es, n, t, keep' _ _ hna ho, r⟩
      refine wpAny_bind (wpAny_holding (has_fset (s := { s with heap := h', toks := tk }) hS' ?_))
      rw [hcm, if_neg Bool.false_ne_true]
      refine wpAny_pure ⟨plainId_quiet plain_disjoint_loop _, ?_⟩
      exact disjoint_loop W hd hA hna k (i + 1) _ (by omega) (by omega) hS' hst' fun h'' tk' keep'' => h h'' tk' fun b o hb ho => keep'' b o hb (keep' b o hb ho)
theorem isdisjoint_fset {y : Str} {Q : Value → Shared → Prop} (hh : A.handled = none) (hS : StrSet s.heap a P) (hd : ∀ c ∈ y.cps.toList, P ⟨#[c]⟩ = false)
    (h : ∀ h' tk, (∀ b o, s.heap.get? b = some o → h'.get? b = some o) → Q (.bool true) { s with heap := h', toks := tk }) :
    wpAny (model prog w) A (call (.builtin "frozenset.isdisjoint") [.ref a, .str y u]) Q E s := by
  refine wpAny_call (codeAny_call_builtin slot_fset_isdisjoint.plain entry_fset_isdisjoint (slot_fset_isdisjoint.check _ _ _ _ _ _ _ _ hS.typeIs (args_fset_isdisjoint_2 _ _) ?_))
  unfold Builtin.«frozenset.isdisjoint» Builtin.Frozenset.oneOther
  simp only [List.isEmpty_nil, bind_assoc]
  unfold Builtin.Frozenset.addrOf
  refine wpAny_bind (wpAny_pure ?_)
  try dsimp only
  refine wpAny_bind (wpAny_pure ?_)
  try dsimp only
  rw [if_neg (show ¬ ((Value.str y u == Value.ref a) = true) from by simp)]
  refine wpAny_bind (wpAny_typeOf (T := "str") (v := .str y u) rfl ?_)
  rw [if_neg (by decide)]
  refine wpAny_bind (wpAny_pyIter_str fun o St W hst => ?_)
  have hna : a ≠ s.heap.objs.size := by
    obtain ⟨o, _, _, _, ho, _⟩ := hS
    exact Nat.ne_of_lt (Heap.lt_size ho)
  refine wpAny_pure ⟨plainId_quiet plain_disjoint_loop _, ?_⟩
  refine disjoint_loop (W A.in1 hh) hd (Around.under_plainId plain_disjoint_loop _) hna y.cps.size 0 _ rfl (Nat.zero_le _) (hS.keeps fun b o' ho => Heap.get?_push_of_some _ ho) hst fun h' tk keep => ?_
  exact h h' tk fun b o' ho => keep b o' (Nat.ne_of_lt (Heap.lt_size ho)) (Heap.get?_push_of_some _ ho)
theorem getMethod_isdisjoint {pl : Sem Bool} {Q : Value × List Value → Shared → Prop} (hS : StrSet s.heap a P) (h : Q (.builtin "frozenset.isdisjoint", [.ref a]) s) :
    wpAny (model prog w) A (getMethod (.ref a) "isdisjoint" pl) Q E s :=
  getMethod_builtin hS.typeIs plainAttrs_fset slot_fset_isdisjoint type_fset_isdisjoint hS.noDict h
end
end Mine
end
section
open PySem PySem.W PyProof.Rows PySem.Calls
set_option maxRecDepth 100000
namespace Mine
section
variable {prog : Program} {w : World} {A : Around} {E : Value → Shared → Prop} {s : Shared}
/-- a while whose test may raise -/
theorem while_test {test : PySem.Expr} {body : List Stmt} {pos : Pos} {env : Env} {Q : Flow → Shared → Prop} (I : Nat → Shared → Prop)
    (turn : ∀ n s, I n s → wpAny (model prog w) A (isTrue test env (eval test env)) (fun b s₂ =>
        if b then wpAny (model prog w) A (execs body env) (fun f s₃ => match f with
            | .next | .cont => ∃ m, m < n ∧ I m s₃
            | .brk => Q .next s₃
            | .ret v => Q (.ret v) s₃) (fun _ _ => False) s₂
        else Q .next s₂) (notedBy (model prog w) A env (cameBackBy (model prog w) A env E)) s)
    (n : Nat) (h : I n s) : wpAny (model prog w) A (exec (.While test body [] pos) env) Q E s := by
  refine wpAny_While (codeAny_whileLoop I (fun n s hI => wpAny_mono (turn n s hI) (fun b s₂ h₂ => ?_) fun _ _ z => z) n h)
  cases b with
  | true =>
    simp only [if_true] at h₂ ⊢
    refine wpAny_noRaise (wpAny_mono h₂ (fun f s₃ h₃ => ?_) fun _ _ z => z)
    cases f <;> exact h₃
  | false =>
    simp only [Bool.false_eq_true, if_false] at h₂ ⊢
    exact wpAny_execs_nil h₂
end
/-- the first place from i on whose sign is not of P -/
noncomputable def skipTo (P : Str → Bool) (x : Str) (i : Nat) : Nat := i + ((x.cps.toList.drop i).takeWhile fun c => P ⟨#[c]⟩).length
theorem skipTo_end {P : Str → Bool} {x : Str} {i : Nat} (h : x.length ≤ i) : skipTo P x i = i := by
  unfold skipTo
  have e : List.drop i x.cps.toList = [] := List.drop_eq_nil_of_le (by simpa [Str.length] using h)
  rw [e]; rfl
theorem skipTo_hit {P : Str → Bool} {x : Str} {i c : Nat} (hx : x.cps[i]? = some c) (h : P ⟨#[c]⟩ = true) : skipTo P x i = skipTo P x (i + 1) := by
  unfold skipTo
  obtain ⟨hi, rfl⟩ := Array.getElem?_eq_some_iff.mp hx
  have e : List.drop i x.cps.toList = x.cps[i] :: List.drop (i + 1) x.cps.toList := by
    rw [← Array.getElem_toList (h := hi)]; exact List.drop_eq_getElem_cons (by simpa using hi)
  rw [e, List.takeWhile_cons, h]
  simp only [if_true, List.length_cons]
  omega
theorem skipTo_miss {P : Str → Bool} {x : Str} {i c : Nat} (hx : x.cps[i]? = some c) (h : P ⟨#[c]⟩ = false) : skipTo P x i = i := by
  unfold skipTo
  obtain ⟨hi, rfl⟩ := Array.getElem?_eq_some_iff.mp hx
  have e : List.drop i x.cps.toList = x.cps[i] :: List.drop (i + 1) x.cps.toList := by
    rw [← Array.getElem_toList (h := hi)]; exact List.drop_eq_getElem_cons (by simpa using hi)
  rw [e, List.takeWhile_cons, h]; rfl
theorem item_cp {x : Str} {i c : Nat} (hx : x.cps[i]? = some c) : Txt.item x (i : Int) = ⟨#[c]⟩ := by
  obtain ⟨hi, rfl⟩ := Array.getElem?_eq_some_iff.mp hx
  rw [item_meets ⟨by omega, by simp only [Str.length]; omega⟩]
  simp [Array.getD, hi]
local macro_rules | `(tactic| k_steps) => `(tactic| repeat' (first | (k_unfold; (try dsimp only)) | ((fail_if_success (with_reducible show wpAny _ _ (exec (Stmt.While _ _ _ _) _) _ _ _)); (fail_if_success (with_reducible show wpAny _ _ (exec (Stmt.For _ _ _ _ _) _) _ _ _)); (fail_if_success (with_reducible show Exists _)); (fail_if_success (with_reducible show LeaveK _ _ _ _ _ _ _)); (fail_if_success (with_reducible show LeaveS _ _ _ _ _ _ _ _ _ _ _ _ _ _ _ _ _ _)); (fail_if_success (with_reducible show wpAny _ _ (call (Value.ref _) _ _) _ _ _)); (first | walk1 | (dsimp only; walk1)))))
set_option maxHeartbeats 8000000 in
theorem skip_chars_call {A A₀ : Around} {base h₀ : Heap} {outer : List Env} {env : Env} {L : Addr} {m mg mb : Str → Option Value} {news : List (Addr × Obj)} {s : Shared} {w : World} {p : Program} {loose : List Str} {mean : ExcName → Option Value} {Q : Value → Shared → Prop} {E : Value → Shared → Prop}
  {src : Str} {pos : Nat} {t1 t2 : Tok} {ca : Addr} {P : Str → Bool}
  (B : Below A₀ base outer h₀) (F : Fr h₀ L s.heap m) (XB : (K w.params).In base) (N : News h₀ L s.heap news) (TB : Top p loose mean mg mb base) (D : KtsDicts (outer.filterMap (·.frame)) h₀)
  (hA : A.frames = some (env :: outer)) (hf : env.frame = some L) (hke : env.scope.kind = .function) (hd : A.depth + 10 < recursionLimit) (hu : A.units + 100 < cLine) (hh : A.handled = none)
  (hS : StrSet base ca P) (hz : src.length < 5000) (hp : pos ≤ src.length)
  (h : ∀ h₀' h' tk u, KtsTurn (outer.filterMap (·.frame)) h₀ h₀' → Below A₀ base outer h₀' → KtsDicts (outer.filterMap (·.frame)) h₀' → Fr h₀' L h' m → News h₀' L h' news → Q (.int (skipTo P src pos : Nat) u) { s with heap := h', toks := tk })
  : wpAny (model PR w) A (call (.ref 65) [.str src t1, .int pos t2, .ref ca]) Q E s := by
  revert XB; unfold PR; k_fill; intro XB
  refine wpAny_noRaise (wpAny_call ?_)
  refine code_defE (g₀ := h₀) (params := parsAt 8) (body := bodyAt 8) (scope := scopeAt 8) (binds := [(Str.ofString "src", .str src t1), (Str.ofString "pos", .int pos t2), (Str.ofString "chars", .ref ca)]) B F (XB.keeps B.stays) N (TB.keeps B.stays) XB TB D KtsTurn.refl hA hf hke (show (K w.params).lookup 65 = some ob65 from rfl) (by rfl) (by omega) (BindsTo.of_eq (by rfl)) (locs (by rfl)) ?_ (by rfl) (by rfl) (by rfl) (by decide +kernel)
  intro g' L' h' FG' F' N' B' X' T' D'
  have hb : bodyAt 8 = bodyAt 8 := rfl
  conv at hb => rhs; whnf
  have hs : scopeAt 8 = scopeAt 8 := rfl
  conv at hs => rhs; whnf
  rw [hb, hs]
  clear hb hs
  dsimp only
  clear FG' F N 
  rw [lk3] at F'
  refine wpAny_noRaise ?_
  k_steps
  refine while_test (fun n s' => ∃ i u h' tk, n = src.length - i ∧ i ≤ src.length ∧ skipTo P src i = skipTo P src pos ∧ s' = { s with heap := h', toks := tk } ∧
    Fr g' L' h' (fun z => if z = Str.ofString "chars" then some (.ref ca) else if z = Str.ofString "pos" then some (.int (i : Nat) u) else if z = Str.ofString "src" then some (.str src t1) else none) ∧ News g' L' h' news) ?_ (src.length - pos) ⟨pos, t2, _, _, rfl, hp, rfl, rfl, F', N'⟩
  intro n s' hI
  obtain ⟨i, u, h1, tk1, hn, hi, hsk, rfl, F1, N1⟩ := hI
  clear F' N'
  k_steps
  refine item_str_or hh (by unfold fitsSsize; simp; omega) (fun hout hE tkE e hx => ?_) (fun _ hlt => ?_)
  · have hil : i = src.length := by omega
    refine catch_loop (g₀ := g') (KF := K w.params) hx F1 N1 B' XB TB D' KtsTurn.refl (test_name (c := .type "IndexError") (by kts_nm) (by kts_exm) rfl rfl (by decide)) ?_ ?_ rfl
    · intro h2 g2 KT F2 N2 B2 X2 T2 D2
      clear F1 N1 B' X' T' D'
      dsimp only at F2 ⊢
      k_steps
      refine leaveS_r F2 N2 KT fun h₀' KT' F N B X T D => ?_
      rw [show (i : Nat) = skipTo P src pos from by rw [← hsk, skipTo_end (by omega)]]
      exact h _ _ _ _ KT' B D F N
    · with_unfolding_all passes_own
  · dsimp only
    k_steps
    obtain ⟨c, hc⟩ : ∃ c, src.cps[i]? = some c := ⟨_, Array.getElem?_eq_getElem (by have := hlt; simp only [Str.length] at this; omega)⟩
    rw [item_cp hc]
    refine in_fset (P := P) (hS.keeps fun b o q => F1.keep _ _ (B'.stays _ _ q)) ?_
    dsimp only
    cases hPc : P ⟨#[c]⟩ with
    | true =>
      k_steps
      rename_i h2 F2 N2
      dsimp only at F2 ⊢
      exact ⟨src.length - (i + 1), by omega, i + 1, _, _, _, rfl, by omega, (skipTo_hit hc hPc).symm.trans hsk, rfl, fr_map F2 (fun z => by by_cases e1 : z = Str.ofString "pos"; (subst e1; rfl); simp [e1]), N2⟩
    | false =>
      k_steps
      refine leaveS_l F1 N1 fun F N => ?_
      rw [show (i : Nat) = skipTo P src pos from by rw [← hsk, skipTo_miss hc hPc]]
      exact h _ _ _ _ KtsTurn.refl B D F N
end Mine
end
section
open PySem PySem.W PyProof.Rows PySem.Calls Builtin.Str
set_option maxRecDepth 100000
namespace Mine
/-- the places of the sign c in x, from lo on, n of them looked at -/
noncomputable def spots (c : Nat) (x : Str) (lo n : Nat) : List Nat := (List.range' lo n).filter fun i => x.cps[i]? == some c
theorem subAt_one (x : Str) (c i : Nat) : subAt x ⟨#[c]⟩ i = (x.cps[i]? == some c) := by
  unfold subAt
  show (x.cps.extract i (i + 1) == #[c]) = _
  by_cases h : i < x.cps.size
  · have e : x.cps.extract i (i + 1) = #[x.cps[i]] := by
      apply Array.ext
      · simp; omega
      · intro k h1 h2
        simp at h2
        subst h2
        simp
    rw [e, Array.getElem?_eq_getElem h]
    by_cases hc : x.cps[i] = c
    · subst hc; simp
    · have : (#[x.cps[i]] == #[c]) = false := by
        rw [beq_eq_false_iff_ne]; intro q; apply hc; simpa using q
      rw [this, eq_comm, beq_eq_false_iff_ne]; intro q; exact hc (Option.some.inj q)
  · have e : x.cps.extract i (i + 1) = #[] := by
      apply Array.ext
      · simp; omega
      · intro k h1 h2; simp at h2
    rw [e, Array.getElem?_eq_none (by omega)]
    rfl
theorem occ_step (x : Str) (c hi limit lo free : Nat) (fnd : Array Nat) : StrLaws.occBody x ⟨#[c]⟩ hi limit lo (fnd, free) =
    if ((fnd.size < limit ∧ free ≤ lo) ∧ lo + 1 ≤ hi) ∧ (x.cps[lo]? == some c) = true then pure (ForInStep.yield (fnd.push lo, lo + 1)) else pure (ForInStep.yield (fnd, free)) := by
  unfold StrLaws.occBody
  rw [subAt_one]
  rfl
theorem last_step (x : Str) (c hi lo : Nat) (st : Option Nat) : StrLaws.lastBody x ⟨#[c]⟩ hi lo st =
    if lo + 1 ≤ hi ∧ (x.cps[lo]? == some c) = true then pure (ForInStep.yield (some lo)) else pure (ForInStep.yield st) := by
  unfold StrLaws.lastBody
  rw [subAt_one]
  rfl
theorem occ_run (x : Str) (c hi limit : Nat) : ∀ (n lo : Nat) (fnd : Array Nat) (free : Nat), free ≤ lo → lo + n = hi + 1 → fnd.size ≤ limit →
    (forIn (List.range' lo n) (fnd, free) (StrLaws.occBody x ⟨#[c]⟩ hi limit)).run.fst.toList = fnd.toList ++ (spots c x lo (n - 1)).take (limit - fnd.size)
  | 0, lo, fnd, free, _, _, _ => by simp [spots]
  | n + 1, lo, fnd, free, hf, hn, hs => by
    rw [List.range'_succ, List.forIn_cons]
    rw [occ_step]
    by_cases hlo : lo + 1 ≤ hi
    · obtain ⟨n', rfl⟩ : ∃ n', n = n' + 1 := ⟨n - 1, by omega⟩
      have sp : spots c x lo (n' + 1 + 1 - 1) = (if (x.cps[lo]? == some c) = true then [lo] else []) ++ spots c x (lo + 1) n' := by
        show spots c x lo (n' + 1) = _
        unfold spots
        rw [List.range'_succ, List.filter_cons]
        split <;> rfl
      rw [sp]
      by_cases hc : (x.cps[lo]? == some c) = true
      · by_cases hl : fnd.size < limit
        · rw [if_pos ⟨⟨⟨hl, hf⟩, hlo⟩, hc⟩, if_pos hc]
          have ih := occ_run x c hi limit (n' + 1) (lo + 1) (fnd.push lo) (lo + 1) (Nat.le_refl _) (by omega) (by simp; omega)
          refine ih.trans ?_
          have e : limit - fnd.size = (limit - (fnd.size + 1)) + 1 := by omega
          simp only [Array.toList_push, Array.size_push, e, List.cons_append, List.nil_append, List.take_succ_cons, List.append_assoc]
          rfl
        · rw [if_neg (fun h => hl h.1.1.1)]
          have ih := occ_run x c hi limit (n' + 1) (lo + 1) fnd free (by omega) (by omega) hs
          refine ih.trans ?_
          have e : limit - fnd.size = 0 := by omega
          simp [e]
      · rw [if_neg (fun h => hc h.2), if_neg hc]
        have ih := occ_run x c hi limit (n' + 1) (lo + 1) fnd free (by omega) (by omega) hs
        refine ih.trans ?_
        simp
    · have hn0 : n = 0 := by omega
      subst hn0
      rw [if_neg (fun h => hlo h.1.2)]
      simp [spots]
theorem occ_spots (x : Str) (c lo hi limit : Nat) : occurrences x ⟨#[c]⟩ lo hi limit = (spots c x lo (hi - lo)).take limit := by
  rw [StrLaws.occ_eq]
  by_cases h : lo ≤ hi + 1
  · rw [occ_run x c hi limit (hi + 1 - lo) lo #[] lo (Nat.le_refl _) (by omega) (by simp)]
    have e : hi + 1 - lo - 1 = hi - lo := by omega
    simp [e]
  · have e : hi + 1 - lo = 0 := by omega
    have e2 : hi - lo = 0 := by omega
    simp [e, e2, spots]
theorem last_run1 (x : Str) (c hi : Nat) : ∀ (n lo : Nat) (st : Option Nat), lo + n = hi + 1 →
    (forIn (List.range' lo n) st (StrLaws.lastBody x ⟨#[c]⟩ hi)).run = ((spots c x lo (n - 1)).getLast?).or st
  | 0, lo, st, _ => by simp [spots]
  | n + 1, lo, st, hn => by
    rw [List.range'_succ, List.forIn_cons]
    rw [last_step]
    by_cases hlo : lo + 1 ≤ hi
    · obtain ⟨n', rfl⟩ : ∃ n', n = n' + 1 := ⟨n - 1, by omega⟩
      have sp : spots c x lo (n' + 1 + 1 - 1) = (if (x.cps[lo]? == some c) = true then [lo] else []) ++ spots c x (lo + 1) n' := by
        show spots c x lo (n' + 1) = _
        unfold spots
        rw [List.range'_succ, List.filter_cons]
        split <;> rfl
      rw [sp]
      by_cases hc : (x.cps[lo]? == some c) = true
      · rw [if_pos ⟨hlo, hc⟩, if_pos hc]
        refine (last_run1 x c hi (n' + 1) (lo + 1) (some lo) (by omega)).trans ?_
        show (spots c x (lo + 1) n').getLast?.or _ = (List.getLast? ([lo] ++ spots c x (lo + 1) n')).or st
        rw [List.getLast?_append]
        cases (spots c x (lo + 1) n').getLast? <;> simp
      · rw [if_neg (fun h => hc h.2), if_neg hc]
        exact last_run1 x c hi (n' + 1) (lo + 1) st (by omega)
    · have hn0 : n = 0 := by omega
      subst hn0
      rw [if_neg (fun h => hlo h.1)]
      simp [spots]
theorem last_spots (x : Str) (c hi : Nat) : lastOccurrence x ⟨#[c]⟩ 0 hi = (spots c x 0 hi).getLast? := by
  rw [StrLaws.last_eq, last_run1 x c hi (hi + 1 - 0) 0 none (by omega)]
  show (spots c x 0 hi).getLast?.or none = _
  simp
theorem gives_count2 (x y : Str) (n : Nat) (t u v v' : Tok) (hn : n ≤ x.length) : Gives (Builtin.«str.count» ⟨[.str x t, .str y u, .int 0 v, .int n v'], []⟩) (.int (occurrences x y 0 n (x.length + 1)).length) := by
  show Gives (retInt (occurrences x y 0 (min (max 0 (if ((n : Int) < 0) then (n : Int) + x.length else (n : Int))).toNat x.length) (x.length + 1)).length) _
  have e : min (max 0 (if ((n : Int) < 0) then (n : Int) + x.length else (n : Int))).toNat x.length = n := by
    rw [if_neg (by omega)]; omega
  rw [e]
  exact .of_eq rfl
theorem gives_rindex2 (x y : Str) (n i : Nat) (t u v v' : Tok) (hn : n ≤ x.length) (h : lastOccurrence x y 0 n = some i) : Gives (Builtin.«str.rindex» ⟨[.str x t, .str y u, .int 0 v, .int n v'], []⟩) (.int i) := by
  show Gives (match lastOccurrence x y 0 (min (max 0 (if ((n : Int) < 0) then (n : Int) + x.length else (n : Int))).toNat x.length) with | some i => retInt i | none => _) _
  have e : min (max 0 (if ((n : Int) < 0) then (n : Int) + x.length else (n : Int))).toNat x.length = n := by
    rw [if_neg (by omega)]; omega
  rw [e, h]
  exact .of_eq rfl
theorem gives_index1 (x y : Str) (n i : Nat) (rest : List Nat) (t u v : Tok) (h : occurrences x y n x.length 1 = i :: rest) : Gives (Builtin.«str.index» ⟨[.str x t, .str y u, .int n v], []⟩) (.int i) := by
  show Gives (match occurrences x y (max 0 (if ((n : Int) < 0) then (n : Int) + x.length else (n : Int))).toNat (min x.length x.length) 1 with | i :: _ => retInt i | [] => _) _
  have e : (max 0 (if ((n : Int) < 0) then (n : Int) + x.length else (n : Int))).toNat = n := by
    rw [if_neg (by omega)]; omega
  rw [e, Nat.min_self, h]
  exact .of_eq rfl
theorem raises_index1 (x y : Str) (n : Nat) (t u v : Tok) (h : occurrences x y n x.length 1 = []) : Meets (Builtin.«str.index» ⟨[.str x t, .str y u, .int n v], []⟩) (raisesNew "ValueError") := by
  intro prog w A R s hS
  show wpAny _ _ (match occurrences x y (max 0 (if ((n : Int) < 0) then (n : Int) + x.length else (n : Int))).toNat (min x.length x.length) 1 with | i :: _ => retInt i | [] => _) _ _ s
  have e : (max 0 (if ((n : Int) < 0) then (n : Int) + x.length else (n : Int))).toNat = n := by
    rw [if_neg (by omega)]; omega
  rw [e, Nat.min_self, h]
  first
    | exact wpAny_bind (wpAny_rule (by exact_raiseError plainExc_ValueError hS.1 hS.2))
    | exact wpAny_bind (wpAny_rule (wpAny_bind (by exact_raiseError plainExc_ValueError hS.1 hS.2)))
section
variable {prog : Program} {w : World} {A : Around} {E : Value → Shared → Prop} {s : Shared} {x y : Str} {t u v v' : Tok} {n i : Nat}
theorem count2 {Q : Value → Shared → Prop} (hn : n ≤ x.length) (h : Q (.int (occurrences x y 0 n (x.length + 1)).length s.toks) { s with toks := s.toks + 1 }) :
    wpAny (model prog w) A (call (.builtin "str.count") [.str x t, .str y u, .int 0 v, .int n v']) Q E s :=
  call_gives F.slot_str_count (typeIs_str s x t) F.entry_str_count (F.args_str_count_4 _ _ _ _) (gives_count2 x y n t u v v' hn) h
theorem rindex2 {Q : Value → Shared → Prop} (hn : n ≤ x.length) (hi : lastOccurrence x y 0 n = some i) (h : Q (.int i s.toks) { s with toks := s.toks + 1 }) :
    wpAny (model prog w) A (call (.builtin "str.rindex") [.str x t, .str y u, .int 0 v, .int n v']) Q E s :=
  call_gives F.slot_str_rindex (typeIs_str s x t) F.entry_str_rindex (F.args_str_rindex_4 _ _ _ _) (gives_rindex2 x y n i t u v v' hn hi) h
theorem index1 {rest : List Nat} {Q : Value → Shared → Prop} (hi : occurrences x y n x.length 1 = i :: rest) (h : Q (.int i s.toks) { s with toks := s.toks + 1 }) :
    wpAny (model prog w) A (call (.builtin "str.index") [.str x t, .str y u, .int n v]) Q E s :=
  call_gives F.slot_str_index (typeIs_str s x t) F.entry_str_index (F.args_str_index_3 _ _ _) (gives_index1 x y n i rest t u v hi) h
theorem index1_out {Q : Value → Shared → Prop} (hA : A.handled = none) (hi : occurrences x y n x.length 1 = []) (h : ∀ h' tk e, Heap.NewExc s.heap h' e "ValueError" → E (.ref e) { s with heap := h', toks := tk }) :
    wpAny (model prog w) A (call (.builtin "str.index") [.str x t, .str y u, .int n v]) Q E s :=
  call_meets F.slot_str_index (typeIs_str _ _ _) F.entry_str_index (F.args_str_index_3 _ _ _) (raises_index1 x y n t u v hi) ⟨hA, h⟩
end
end Mine
end
section
open PySem PySem.W PyProof.Rows PySem.Calls
set_option maxRecDepth 100000
namespace Mine
/-- line and column of a place, as coord_repr counts them -/
noncomputable def lineOf (x : Str) (i : Nat) : Nat := (spots 10 x 0 i).length + 1
noncomputable def colOf (x : Str) (i : Nat) : Nat := match (spots 10 x 0 i).getLast? with | none => i + 1 | some k => i - k
noncomputable def lcStr (l c : Nat) : Str := Str.empty ++ Str.ofString "line " ++ Str.ofString (toString (l : Int)) ++ Str.ofString ", column " ++ Str.ofString (toString (c : Int))
noncomputable def coordStr (x : Str) (i : Nat) : Str := if x.length ≤ i then Str.ofString "end of document" else lcStr (lineOf x i) (colOf x i)
theorem nl_str : Str.ofString "\n" = ⟨#[10]⟩ := by rfl
theorem occ_lines (x : Str) (i : Nat) (hi : i ≤ x.length) : Builtin.Str.occurrences x (Str.ofString "\n") 0 i (x.length + 1) = spots 10 x 0 i := by
  rw [nl_str, occ_spots, List.take_of_length_le]
  · simp
  · have : (spots 10 x 0 (i - 0)).length ≤ (List.range' 0 (i - 0)).length := List.length_filter_le ..
    simp at this ⊢
    omega
theorem spots_lt {c : Nat} {x : Str} {n k : Nat} (h : k ∈ spots c x 0 n) : k < n := by
  have := (List.mem_filter.mp h).1
  simp at this
  omega
noncomputable def crStmt : Stmt := ((bodyAt 13).head?).getD (.Pass ⟨0, 0, 0, 0⟩)
local macro_rules | `(tactic| k_steps) => `(tactic| repeat' (first | (k_unfold; (try dsimp only)) | ((fail_if_success (with_reducible show wpAny _ _ (exec (Stmt.While _ _ _ _) _) _ _ _)); (fail_if_success (with_reducible show wpAny _ _ (exec (Stmt.For _ _ _ _ _) _) _ _ _)); (fail_if_success (with_reducible show Exists _)); (fail_if_success (with_reducible show LeaveK _ _ _ _ _ _ _)); (fail_if_success (with_reducible show wpAny _ _ (call (Value.ref _) _ _) _ _ _)); (first | walk1 | (dsimp only; walk1)))))
set_option maxHeartbeats 8000000 in
theorem coord_call {A A₀ : Around} {base h₀ : Heap} {outer : List Env} {env : Env} {L f c' : Addr} {m mg mb : Str → Option Value} {news : List (Addr × Obj)} {s : Shared} {w : World} {p : Program} {loose : List Str} {mean : ExcName → Option Value} {Q : Value → Shared → Prop} {E : Value → Shared → Prop}
  {src qual : Str} {pos : Nat} {t1 t2 : Tok} {doc pm ctv : Value}
  (B : Below A₀ base outer h₀) (F : Fr h₀ L s.heap m) (X : (K w.params).In h₀) (N : News h₀ L s.heap news) (T : Top p loose mean mg mb h₀)
  (hA : A.frames = some (env :: outer)) (hf : env.frame = some L) (hke : env.scope.kind = .function) (hd : A.depth + 40 < recursionLimit) (hu : A.units + 300 < cLine)
  (hm : (f, fnMade (Str.ofString "coord_repr") qual (fPars crStmt) (fBody crStmt) (fScope crStmt) [] doc pm c' ctv) ∈ news) (hcd : s.heap.CodeRec (.ref c') qual) (hz : src.length < 5000) (hp : pos ≤ src.length)
  (h : ∀ h' tk u, Fr h₀ L h' m → News h₀ L h' news → Q (.str (coordStr src pos) u) { s with heap := h', toks := tk })
  : wpAny (model PR w) A (call (.ref f) [.str src t1, .int pos t2]) Q E s := by
  revert X; unfold PR; k_fill; intro X
  refine wpAny_noRaise (wpAny_call ?_)
  refine code_nest (binds := [(Str.ofString "src", .str src t1), (Str.ofString "pos", .int pos t2)]) B F X N T hA hf hke hm hcd (by omega) (BindsTo.of_eq (by rfl)) (locs (by rfl)) ?_ (by rfl) (by rfl) (by rfl) (by decide +kernel)
  intro g' L' h' FG' F' N' B' X' T'
  have hb : fBody crStmt = fBody crStmt := rfl
  conv at hb => rhs; whnf
  have hs : fScope crStmt = fScope crStmt := rfl
  conv at hs => rhs; whnf
  rw [hb, hs]
  clear hb hs
  dsimp only
  clear FG' F N B T X
  rw [lk2] at F'
  refine wpAny_noRaise ?_
  k_steps
  · rename_i hle
    have e : coordStr src pos = Str.ofString "end of document" := by unfold coordStr; rw [if_pos (by omega)]
    rw [e] at h
    exact leaveK_ F' N' fun F N => h _ _ _ F N
  · rename_i hlt
    refine count2 hp ?_
    rw [occ_lines src pos hp]
    dsimp only
    k_steps
    · rename_i hl h2 F2 N2
      have hn : spots 10 src 0 pos = [] := List.length_eq_zero_iff.mp (by omega)
      have e : coordStr src pos = lcStr 1 (pos + 1) := by unfold coordStr lineOf colOf; rw [if_neg (by omega), hn]; rfl
      rw [e] at h
      refine leaveK_ F2 N2 fun F N => ?_
      have e1 : ((spots 10 src 0 pos).length : Int) + 1 = ((1 : Nat) : Int) := by omega
      rw [e1]
      exact h _ _ _ F N
    · rename_i h2 F2 N2 hl
      obtain ⟨k, hk⟩ : ∃ k, (spots 10 src 0 pos).getLast? = some k := by
        cases hq : (spots 10 src 0 pos).getLast? with
        | none => rw [List.getLast?_eq_none_iff] at hq; rw [hq] at hl; simp at hl
        | some k => exact ⟨k, rfl⟩
      have hkp : k < pos := spots_lt (List.mem_of_getLast? hk)
      refine rindex2 (i := k) hp (by rw [nl_str, last_spots, hk]) ?_
      have e : coordStr src pos = lcStr ((spots 10 src 0 pos).length + 1) (pos - k) := by unfold coordStr lineOf colOf; rw [if_neg (by omega), hk]
      rw [e] at h
      have hsl : ((spots 10 src 0 pos).length : Int) ≤ 5000 := by
        have : (spots 10 src 0 pos).length ≤ (List.range' 0 pos).length := List.length_filter_le ..
        simp at this
        omega
      dsimp only
      k_steps
      rename_i h3 F3 N3
      dsimp only
      show LeaveK _ _ _ _ _ _ _
      refine leaveK_ F3 N3 fun F N => ?_
      have e1 : ((spots 10 src 0 pos).length : Int) + 1 = (((spots 10 src 0 pos).length + 1 : Nat) : Int) := by omega
      have e2 : (pos : Int) - (k : Int) = ((pos - k : Nat) : Int) := by omega
      rw [e1, e2]
      exact h _ _ _ F N
end Mine
end
section
open PySem PySem.W PyProof.Rows PySem.Calls
set_option maxRecDepth 100000
namespace Mine
theorem coord_len {x : Str} {i : Nat} (hz : x.length < 5000) (hi : i ≤ x.length) : (coordStr x i).length ≤ 100 := by
  unfold coordStr
  split
  · decide
  · unfold lcStr
    have h1 : (spots 10 x 0 i).length ≤ (List.range' 0 i).length := List.length_filter_le ..
    simp at h1
    have a1 := KT.len_num (n := ((lineOf x i : Nat) : Int)) (by omega) (by unfold lineOf; omega)
    have a2 := KT.len_num (n := ((colOf x i : Nat) : Int)) (by omega) (by unfold colOf; split <;> omega)
    have b1 : (Str.ofString "line ").length = 5 := by decide
    have b2 : (Str.ofString ", column ").length = 9 := by decide
    have b3 : Str.empty.length = 0 := by decide
    simp only [Str.length_append, b1, b2, b3]
    omega
theorem ns54 (P : Params) : nsOkIn (K P) 54 = true := by kernel_rfl
theorem ni54 (P : Params) : nsIn (K P) 54 (Str.ofString "__init__") = some none := by kernel_rfl
theorem make_err {prog : Program} {w : World} {A : Around} {E : Value → Shared → Prop} {s : Shared} {v : Value} {Q : Value → Shared → Prop} (X : (K w.params).In s.heap)
    (h : ∀ h' e, Heap.MadeExcOf s.heap h' e (.ref 55) [v] → Q (.ref e) { s with heap := h' }) : wpAny (model prog w) A (call (.ref 55) [v]) Q E s := by
  obtain ⟨hp, g, d, t, os⟩ := s
  have hC : hp.get? 55 = some ob55 := X _ _ rfl
  exact wpAny_call_exc_sub F.excBase_ValueError hC (Heap.Ns.of_isNs (isNs_of_in X (ns54 w.params))) (nsMap_none_of_in X (ns54 w.params) (ni54 w.params)) h
/-- the table of the code of suffixed_err: empty, or with the code of coord_repr -/
noncomputable def crPos : Pos := match crStmt with | .FunctionDef _ _ _ _ _ _ _ _ _ p => p | _ => ⟨0, 0, 0, 0⟩
noncomputable def crQual : Str := qualnameIn (envOf (Str.ofString "suffixed_err") (scopeAt 13) 0 100 (.ref 99)) (Str.ofString "coord_repr") (Str.ofString "coord_repr")
noncomputable def tabN : Option (Addr × Obj) → List (Addr × Obj)
  | none => [(95, tabObj #[])]
  | some (c, oc) => [(95, tabObj (#[] ++ #[rawInt crPos.line, rawInt crPos.col, .ref c])), (c, oc)]
noncomputable def TabOk : Option (Addr × Obj) → Prop
  | none => True
  | some (_, oc) => ∃ vs t, oc.data = .fields vs ∧ vs[1]? = some (.str crQual t)
noncomputable abbrev excObj (t : Addr) : Obj := { cls := .ref 55, data := .fields #[.ref t, .none, .none, .none, .bool false, .none] }
noncomputable abbrev tupObj (vs : List Value) : Obj := { cls := .type "tuple", data := .seq vs.toArray }
noncomputable def errStr (msg x : Str) (i : Nat) : Str := Str.empty ++ msg ++ Str.ofString " (at " ++ coordStr x i ++ Str.ofString ")"
theorem news_sub {g h : Heap} {L : Addr} {l l' : List (Addr × Obj)} (N : News g L h l) (hs : ∀ q ∈ l', q ∈ l) : News g L h l' := fun q hq => N q (hs q hq)
theorem made_news {g h h' : Heap} {L e : Addr} {m : Str → Option Value} {news : List (Addr × Obj)} {vs : List Value} (F : Fr g L h m) (N : News g L h news) (hx : Heap.MadeExcOf h h' e (.ref 55) vs) :
    ∃ t, Fr g L h' m ∧ News g L h' ((e, excObj t) :: (t, tupObj vs) :: news) ∧ ∀ q ∈ news, q.1 ≠ e ∧ q.1 ≠ t := by
  obtain ⟨t, he, htn, ht⟩ := hx.there
  have F' : Fr g L h' m := F.grownK hx.keeps
  have fresh : ∀ b, h.get? b = none → g.get? b = none := fun b q => by
    cases z : g.get? b with
    | none => rfl
    | some o => have := F.keep _ _ z; rw [q] at this; cases this
  have nl : ∀ b, h.get? b = none → b ≠ L := fun b q z => by
    obtain ⟨oL, _, _, hL, _⟩ := F.ns
    rw [z, hL] at q; cases q
  refine ⟨t, F', fun q hq => ?_, fun q hq => ⟨fun z => ?_, fun z => ?_⟩⟩
  · rcases List.mem_cons.mp hq with rfl | hq
    · exact ⟨he, nl _ hx.new, fresh _ hx.new⟩
    · rcases List.mem_cons.mp hq with rfl | hq
      · exact ⟨ht, nl _ htn, fresh _ htn⟩
      · exact ⟨hx.keeps _ _ (N q hq).1, (N q hq).2⟩
  · have := (N q hq).1; rw [z, hx.new] at this; cases this
  · have := (N q hq).1; rw [z, htn] at this; cases this
local macro_rules | `(tactic| k_steps) => `(tactic| repeat' (first | (k_unfold; (try dsimp only)) | ((fail_if_success (with_reducible show wpAny _ _ (exec (Stmt.While _ _ _ _) _) _ _ _)); (fail_if_success (with_reducible show wpAny _ _ (exec (Stmt.For _ _ _ _ _) _) _ _ _)); (fail_if_success (with_reducible show Exists _)); (fail_if_success (with_reducible show LeaveK _ _ _ _ _ _ _)); (fail_if_success (with_reducible show wpAny _ _ (call (Value.ref _) _ _) _ _ _)); (first | walk1 | (dsimp only; walk1)))))
set_option maxHeartbeats 8000000 in
theorem suffixed_err_call {A A₀ : Around} {base h₀ : Heap} {outer : List Env} {env : Env} {L : Addr} {m mg mb : Str → Option Value} {rest : List (Addr × Obj)} {o : Option (Addr × Obj)} {s : Shared} {w : World} {p : Program} {loose : List Str} {mean : ExcName → Option Value} {Q : Value → Shared → Prop} {E : Value → Shared → Prop}
  {src msg : Str} {pos : Nat} {t1 t2 t3 : Tok}
  (B : Below A₀ base outer h₀) (F : Fr h₀ L s.heap m) (X : (K w.params).In h₀) (C : CodeHd h₀ 99 95) (N : News h₀ L s.heap (tabN o ++ rest)) (ho : TabOk o) (T : Top p loose mean mg mb h₀)
  (hA : A.frames = some (env :: outer)) (hf : env.frame = some L) (hke : env.scope.kind = .function) (hd : A.depth + 50 < recursionLimit) (hu : A.units + 400 < cLine)
  (hoff : ∀ p ∈ rest, p.1 ≠ 95) (hz : src.length < 5000) (hp : pos ≤ src.length) (hzm : msg.length < 5000)
  (h : ∀ e t o' h' tk u, TabOk o' → Fr h₀ L h' m → News h₀ L h' ((e, excObj t) :: (t, tupObj [.str (errStr msg src pos) u]) :: (tabN o' ++ rest)) → (∀ q ∈ tabN o' ++ rest, q.1 ≠ e ∧ q.1 ≠ t) → Q (.ref e) { s with heap := h', toks := tk })
  : wpAny (model PR w) A (call (.ref 100) [.str src t1, .int pos t2, .str msg t3]) Q E s := by
  revert X; unfold PR; k_fill; intro X
  refine wpAny_noRaise (wpAny_call ?_)
  refine code_def (params := parsAt 13) (body := bodyAt 13) (scope := scopeAt 13) (binds := [(Str.ofString "src", .str src t1), (Str.ofString "pos", .int pos t2), (Str.ofString "msg", .str msg t3)]) B F X N T hA hf hke (show (K w.params).lookup 100 = some ob100 from rfl) (by rfl) (by omega) (BindsTo.of_eq (by rfl)) (locs (by rfl)) ?_ (by rfl) (by rfl) (by rfl) (by decide +kernel)
  intro g' L' h' FG' F' N' B' X' T'
  have C' : CodeHd g' 99 95 := C.keeps FG'.keep
  have hb : bodyAt 13 = bodyAt 13 := rfl
  conv at hb => rhs; whnf
  have hs : scopeAt 13 = scopeAt 13 := rfl
  conv at hs => rhs; whnf
  rw [hb, hs]
  clear hb hs
  dsimp only
  clear FG' F N B T X C
  rw [lk3] at F'
  refine wpAny_noRaise ?_
  have hcl := coord_len hz hp
  have hzm' : msg.length ≤ 5000 := by omega
  clear hzm
  unfold errStr at h
  k_steps
  refine nestDef_K rfl rfl rfl ?_
  rcases o with _ | ⟨c', oc⟩
  · refine nest_K (ps := #[]) F' N' T' C' rfl (.head hoff) True.intro rfl rfl ?_
    intro f c' oc vs t ctv doc h2 tk2 F2 N2 hvd hv1 l1 l2
    replace N2 := news_sub (l' := (f, _) :: (tabN (some (c', oc)) ++ rest)) N2 (fun q hq => by
      rcases List.mem_cons.mp hq with rfl | hq
      · exact .head _
      · rcases List.mem_cons.mp hq with rfl | hq
        · exact .tail _ (.tail _ (.head _))
        · rcases List.mem_cons.mp hq with rfl | hq
          · exact .tail _ (.head _)
          · exact .tail _ (.tail _ (.tail _ hq)))
    have hok : TabOk (some (c', oc)) := ⟨vs, t, hvd, hv1⟩
    clear hvd hv1 vs t
    obtain ⟨vs, t, hvd, hv1⟩ := hok
    clear F' N'
    dsimp only at F2 ⊢
    k_steps
    rename Fr _ _ _ _ => F3
    rename News _ _ _ _ => N3
    refine coord_call B' F3 X' N3 T' (by show A.frames.map _ = _; rw [hA]; rfl) rfl rfl (by show A.depth + 1 + 40 < _; omega) (by show A.units + 3 + 300 < _; omega) (.head _) (codeRec_news N3 (.tail _ (.tail _ (.head _))) hvd hv1) hz hp fun h4 tk4 u4 F4 N4 => ?_
    clear F3 N3
    revert F4 N4 hcl h
    generalize coordStr src pos = cst
    intro h hcl F4 N4
    dsimp only
    k_steps
    refine make_err (X'.keeps F4.keep) fun h5 e5 hx5 => ?_
    obtain ⟨t5, F5, N5, hne5⟩ := made_news F4 (news_sub (l' := tabN (some (c', oc)) ++ rest) N4 (fun q hq => .tail _ hq)) hx5
    exact leaveK_ F5 N5 fun F N => h e5 t5 (some (c', oc)) _ _ _ ⟨vs, t, hvd, hv1⟩ F N hne5
  · refine nestHit_K (c' := c') (ps := #[] ++ #[rawInt crPos.line, rawInt crPos.col, .ref c']) F' N' T' C' rfl (.head _) (by kn_triples) (by kn_hit) rfl ?_
    intro f ctv doc h2 tk2 F2 N2 l1
    have hok : TabOk (some (c', oc)) := ho
    obtain ⟨vs, t, hvd, hv1⟩ := hok
    clear F' N'
    dsimp only at F2 ⊢
    k_steps
    rename Fr _ _ _ _ => F3
    rename News _ _ _ _ => N3
    refine coord_call B' F3 X' N3 T' (by show A.frames.map _ = _; rw [hA]; rfl) rfl rfl (by show A.depth + 1 + 40 < _; omega) (by show A.units + 3 + 300 < _; omega) (.head _) (codeRec_news N3 (.tail _ (.tail _ (.head _))) hvd hv1) hz hp fun h4 tk4 u4 F4 N4 => ?_
    clear F3 N3
    revert F4 N4 hcl h
    generalize coordStr src pos = cst
    intro h hcl F4 N4
    dsimp only
    k_steps
    refine make_err (X'.keeps F4.keep) fun h5 e5 hx5 => ?_
    obtain ⟨t5, F5, N5, hne5⟩ := made_news F4 (news_sub (l' := tabN (some (c', oc)) ++ rest) N4 (fun q hq => .tail _ hq)) hx5
    exact leaveK_ F5 N5 fun F N => h e5 t5 (some (c', oc)) _ _ _ ⟨vs, t, hvd, hv1⟩ F N hne5
end Mine
end
section
open PySem PySem.W PyProof.Rows PySem.Calls
set_option maxRecDepth 100000
namespace Mine
theorem lkc (z a : Str) (x : Value) (l : List (Str × Value)) : List.lookup z ((a, x) :: l) = if z = a then some x else List.lookup z l := by
  by_cases h : z = a
  · subst h; simp
  · have : (z == a) = false := beq_eq_false_iff_ne.mpr h
    simp [List.lookup, this, h]
theorem lk5 (a b c d e : Str) (x y v v' v'' : Value) : (fun z => List.lookup z ([(a, x), (b, y), (c, v), (d, v'), (e, v'')] : List (Str × Value)).reverse) =
    fun z => if z = e then some v'' else if z = d then some v' else if z = c then some v else if z = b then some y else if z = a then some x else none := by
  funext z
  show List.lookup z [(e, v''), (d, v'), (c, v), (b, y), (a, x)] = _
  simp only [lkc]
  rfl
/-- the first place of the sign c from i on, or the end -/
noncomputable def nextAt (c : Nat) (x : Str) (i : Nat) : Nat := ((spots c x i (x.length - i)).head?).getD x.length
/-- the signs from a to b -/
noncomputable def cut (x : Str) (a b : Nat) : Str := ⟨((x.cps.toList.drop a).take (b - a)).toArray⟩
theorem slice_cut {x : Str} {a b : Nat} (hab : a ≤ b) (hb : b ≤ x.length) : Txt.slice x (some (a : Int)) (some (b : Int)) = cut x a b := by
  have := eq_of_beq (slice_closes (x := x) (i := a) (j := b) ⟨by omega, by omega, by simp only [Str.length] at hb; simpa using hb⟩)
  rw [this]
  unfold cut
  rw [Int.toNat_natCast, show ((b : Int) - (a : Int)).toNat = b - a from by omega]
theorem slice_cut0 {x : Str} {b : Nat} (hb : b ≤ x.length) : Txt.slice x none (some (b : Int)) = cut x 0 b := by
  have := eq_of_beq (slice_closes_to (x := x) (j := b) ⟨by omega, by simp only [Str.length] at hb; simpa using hb⟩)
  rw [this]
  unfold cut
  rw [show ((b : Int) - 0).toNat = b - 0 from by omega]
  rfl
theorem cut_mem {x : Str} {a b c : Nat} (h : c ∈ (cut x a b).cps.toList) : ∃ k, a ≤ k ∧ k < b ∧ x.cps[k]? = some c := by
  unfold cut at h
  simp only at h
  obtain ⟨k, hk, e⟩ := List.mem_iff_getElem.mp h
  simp only [List.length_take, List.length_drop] at hk
  rw [List.getElem_take, List.getElem_drop] at e
  refine ⟨a + k, by omega, by omega, ?_⟩
  rw [← Array.getElem?_toList, List.getElem?_eq_getElem (by omega), e]
theorem spots_ge {c : Nat} {x : Str} {lo n k : Nat} (h : k ∈ spots c x lo n) : lo ≤ k ∧ k < lo + n ∧ x.cps[k]? = some c := by
  have := List.mem_filter.mp h
  have h1 := List.mem_range'_1.mp this.1
  exact ⟨h1.1, h1.2, by simpa using this.2⟩
local macro_rules | `(tactic| k_steps) => `(tactic| repeat' (first | (k_unfold; (try dsimp only)) | ((fail_if_success (with_reducible show wpAny _ _ (exec (Stmt.While _ _ _ _) _) _ _ _)); (fail_if_success (with_reducible show wpAny _ _ (exec (Stmt.For _ _ _ _ _) _) _ _ _)); (fail_if_success (with_reducible show Exists _)); (fail_if_success (with_reducible show LeaveK _ _ _ _ _ _ _)); (fail_if_success (with_reducible show LeaveS _ _ _ _ _ _ _ _ _ _ _ _ _ _ _ _ _ _)); (fail_if_success (with_reducible show wpAny _ _ (call (Value.ref _) _ _) _ _ _)); (first | walk1 | (dsimp only; walk1)))))
set_option maxHeartbeats 8000000 in
theorem skip_until_ok {A A₀ : Around} {base h₀ : Heap} {outer : List Env} {env : Env} {L : Addr} {m mg mb : Str → Option Value} {news : List (Addr × Obj)} {s : Shared} {w : World} {p : Program} {loose : List Str} {mean : ExcName → Option Value} {Q : Value → Shared → Prop} {E : Value → Shared → Prop}
  {src : Str} {pos c : Nat} {t1 t2 t3 : Tok} {eof : Bool} {P : Str → Bool}
  (B : Below A₀ base outer h₀) (F : Fr h₀ L s.heap m) (XB : (K w.params).In base) (N : News h₀ L s.heap news) (TB : Top p loose mean mg mb base) (D : KtsDicts (outer.filterMap (·.frame)) h₀)
  (hA : A.frames = some (env :: outer)) (hf : env.frame = some L) (hke : env.scope.kind = .function) (hd : A.depth + 70 < recursionLimit) (hu : A.units + 500 < cLine) (hh : A.handled = none)
  (hS : StrSet base 36 P) (hz : src.length < 5000) (hp : pos ≤ src.length) (hok : eof = false ∨ spots c src pos (src.length - pos) ≠ [])
  (hdis : ∀ i, pos ≤ i → i < nextAt c src pos → ∀ x, src.cps[i]? = some x → P ⟨#[x]⟩ = false)
  (h : ∀ h₀' h' tk u, KtsTurn (outer.filterMap (·.frame)) h₀ h₀' → Below A₀ base outer h₀' → KtsDicts (outer.filterMap (·.frame)) h₀' → Fr h₀' L h' m → News h₀' L h' news → Q (.int (nextAt c src pos : Nat) u) { s with heap := h', toks := tk })
  : wpAny (model PR w) A (call (.ref 72) [.str src t1, .int pos t2, .str ⟨#[c]⟩ t3] [(Str.ofString "error_on", .ref 36), (Str.ofString "error_on_eof", .bool eof)]) Q E s := by
  revert XB; unfold PR; k_fill; intro XB
  refine wpAny_noRaise (wpAny_call ?_)
  refine code_defE (g₀ := h₀) (params := parsAt 9) (body := bodyAt 9) (scope := scopeAt 9) (binds := [(Str.ofString "src", .str src t1), (Str.ofString "pos", .int pos t2), (Str.ofString "expect", .str ⟨#[c]⟩ t3), (Str.ofString "error_on", .ref 36), (Str.ofString "error_on_eof", .bool eof)]) B F (XB.keeps B.stays) N (TB.keeps B.stays) XB TB D KtsTurn.refl hA hf hke (show (K w.params).lookup 72 = some ob72 from rfl) (by rfl) (by omega) (BindsTo.of_eq (by rfl)) (locs (by rfl)) ?_ (by rfl) (by rfl) (by rfl) (by decide +kernel)
  intro g' L' h' FG' F' N' B' X' T' D'
  have hb : bodyAt 9 = bodyAt 9 := rfl
  conv at hb => rhs; whnf
  have hs : scopeAt 9 = scopeAt 9 := rfl
  conv at hs => rhs; whnf
  rw [hb, hs]
  clear hb hs
  dsimp only
  clear FG' F N 
  rw [lk5] at F'
  refine wpAny_noRaise ?_
  k_steps
  cases hsp : spots c src pos (src.length - pos) with
  | cons i rest =>
    have hnx : nextAt c src pos = i := by unfold nextAt; rw [hsp]; rfl
    rw [hnx] at h hdis
    refine index1 (i := i) (rest := []) (by rw [occ_spots, hsp]; rfl) ?_
    dsimp only
    k_steps
    rename Fr _ _ _ _ => F3
    rename News _ _ _ _ => N3
    refine getMethod_isdisjoint (P := P) (hS.keeps fun b o q => F3.keep _ _ (B'.stays _ _ q)) ?_
    dsimp only
    k_steps
    rename News _ _ _ _ => N4
    rename Fr _ _ _ _ => F4
    have hip := spots_ge (x := src) (c := c) (lo := pos) (n := src.length - pos) (k := i) (by rw [hsp]; exact .head _)
    rw [slice_cut hip.1 (by omega)]
    refine isdisjoint_fset (P := P) hh (hS.keeps fun b o q => F4.keep _ _ (B'.stays _ _ q)) (fun x hx => ?_) fun h5 tk5 keep5 => ?_
    · obtain ⟨k, h1, h2, h3⟩ := cut_mem hx
      exact hdis k h1 h2 x h3
    have F5 := F4.grownK keep5
    have N5 := N4.grown keep5
    clear F4 N4
    dsimp only
    k_steps
    exact leaveS_l F5 N5 fun F N => h _ _ _ _ KtsTurn.refl B D F N
  | nil =>
    have hnx : nextAt c src pos = src.length := by unfold nextAt; rw [hsp]; rfl
    rw [hnx] at h hdis
    have he : eof = false := hok.resolve_right (fun z => z hsp)
    subst he
    refine index1_out hh (by rw [occ_spots, hsp]; rfl) fun hE tkE e hx => ?_
    refine catch_new (g₀ := g') (KF := K w.params) hx F' N' B' XB TB D' KtsTurn.refl (test_name (c := .type "ValueError") (by kts_nm) (by kts_exm) rfl rfl (by decide)) ?_ ?_ rfl
    · intro h2 g2 KT F2 N2 B2 X2 T2 D2
      clear F' N' B' X' T' D'
      dsimp only at F2 ⊢
      k_steps
      rename Fr _ _ _ _ => F3
      rename News _ _ _ _ => N3
      refine getMethod_isdisjoint (P := P) (hS.keeps fun b o q => F3.keep _ _ (B2.stays _ _ q)) ?_
      dsimp only
      k_steps
      rename News _ _ _ _ => N4
      rename Fr _ _ _ _ => F4
      rw [slice_cut hp (Nat.le_refl _)]
      refine isdisjoint_fset (P := P) hh (hS.keeps fun b o q => F4.keep _ _ (B2.stays _ _ q)) (fun x hx => ?_) fun h5 tk5 keep5 => ?_
      · obtain ⟨k, h1, h2, h3⟩ := cut_mem hx
        exact hdis k h1 h2 x h3
      have F5 := F4.grownK keep5
      have N5 := N4.grown keep5
      clear F4 N4
      dsimp only
      k_steps
      exact leaveS_r F5 N5 KT fun h₀' KT' F N B X T D => h _ _ _ _ KT' B D F N
    · with_unfolding_all passes_own
end Mine
end
section
open PySem PySem.W PyProof.Rows PySem.Calls
set_option maxRecDepth 100000
namespace Mine
/-- an exception whose context is None -/
noncomputable def Ctx0 (e : Addr) (h : Heap) : Prop := ∃ oe vs, h.get? e = some oe ∧ oe.data = .fields vs ∧ vs[2]? = some .none
theorem Ctx0.keeps {e : Addr} {h h' : Heap} (x : Ctx0 e h) (k : ∀ b o, h.get? b = some o → h'.get? b = some o) : Ctx0 e h' := let ⟨oe, vs, he, r⟩ := x; ⟨oe, vs, k _ _ he, r⟩
section
variable {M : Model} {A A₀ : Around} {E : Value → Shared → Prop} {s' : Shared} {base g h G B : Heap} {outer l : List Env} {L a e t : Addr} {m : Str → Option Value} {name : Str} {scope : Scope} {cd cls a0 fl : Value} {news : List (Addr × Obj)}
theorem note2 {env : Env} {oe : Obj} {vs : Array Value} {Q : Unit → Shared → Prop} (hfr : A.frames = some (env :: outer)) (hl : s'.heap.FunFrames base (env :: outer)) (hf : env.frame = some L)
    (he : s'.heap.get? e = some oe) (hkb : base.StaysIn s'.heap) (hen : base.get? e = none) (hd : oe.data = .fields vs) (h1 : vs[1]? = some .none) (h0 : vs[0]? = some a0) (h2 : vs[2]? = some .none)
    (h : ∀ h', Heap.HeldW base (env :: outer) e oe.cls a0 L h' → s'.heap.UpToSlots h' → Ctx0 e h' → Q () { s' with heap := h' }) : wpAny M A (noteFrame (.ref e) env) Q E s' := by
  have hsz : 1 < vs.size := (Array.getElem?_eq_some_iff.mp h1).1
  have hene : e ∉ (env :: outer).filterMap (·.frame) := fun hm => by
    obtain ⟨_, o, ho, hnf⟩ := hl.mem hm
    rw [he] at ho; cases ho; exact hnf vs hd
  unfold noteFrame
  simp only [hf]
  refine wpAny_bind (wpAny_field he hd h1 ?_)
  rw [if_neg (by decide)]
  refine wpAny_bind (wpAny_frameOf_fun hfr hl hf fun h₁ hs₁ => ?_)
  refine wpAny_bind (wpAny_entryPlaceOf fun pl hpl => ?_)
  unfold EntryCells.newEntry newFields
  refine wpAny_bind (wpAny_newObj_type ?_ (hpl.sizeOk5 _ _ _ _ _))
  have he₁ : h₁.get? e = some oe := (hs₁.2.1 e hene).trans he
  have kb₁ : base.StaysIn h₁ := fun b o hbo => (hs₁.2.1 b fun hm => by rw [(hl.mem hm).1] at hbo; cases hbo).trans (hkb b o hbo)
  have hTe : h₁.objs.size ≠ e := Nat.ne_of_gt (Heap.lt_size he₁)
  generalize htb : ({ cls := .type "traceback", dict := none, data := .fields ([Value.none, .ref L, .none, rawInt L, .none] ++ (if pl.isEmpty then List.replicate 6 Value.none else pl)).toArray } : Obj) = tb
  have htd : ∃ ts, tb.data = .fields ts ∧ ts[3]? = some (rawInt L) := by
    subst htb
    exact ⟨_, rfl, by simp⟩
  obtain ⟨ts, htd, ht3⟩ := htd
  have hfr1 : tb.isFreed = false := Obj.isFreed_of_fields htd
  have he₂ : (h₁.push tb).get? e = some oe := Heap.get?_push_of_some _ he₁
  refine wpAny_setField he₂ hd hsz ?_
  have hd₃ := Obj.data_mapFields hd (·.setIfInBounds 1 (Value.ref h₁.objs.size))
  have he₃ := Heap.get?_update_self (Obj.mapFields (·.setIfInBounds 1 (Value.ref h₁.objs.size))) he₂ (Obj.isFreed_of_fields hd₃)
  have hT₃ := (Heap.get?_update_other (h₁.push tb) (Obj.mapFields (·.setIfInBounds 1 (Value.ref h₁.objs.size))) (Ne.symm hTe)).trans (Heap.get?_push_size h₁ hfr1)
  have keep : ∀ b o, b ≠ e → h₁.get? b = some o → ((h₁.push tb).update e (Obj.mapFields (·.setIfInBounds 1 (Value.ref h₁.objs.size)))).get? b = some o := fun b o hbe hb => by
    rw [Heap.get?_update_other _ _ (Ne.symm hbe)]
    exact Heap.get?_push_of_some _ hb
  have noRecord : ∀ b o, s'.heap.get? b = some o → (∀ vs, o.data ≠ .fields vs) → b ≠ e := fun b o hb hnf q => by
    rw [q, he] at hb; cases hb; exact hnf vs hd
  refine h _ ⟨fun b o hbo => keep b o (fun q => by rw [q, hen] at hbo; cases hbo) (kb₁ b o hbo), hen, hl.of_keeps fun b o hb hnf => ?_, ?_⟩ (fun b o hb hnf => ?_) ?_
  · obtain ⟨sl, hs⟩ := hs₁.2.2 b o hb
    exact ⟨_, keep b _ (noRecord b o hb hnf) hs, rfl⟩
  · exact ⟨_, _, h₁.objs.size, _, _, he₃, ⟨Obj.cls_mapFields _ _, by rw [Array.getElem?_setIfInBounds_ne (by decide)]; exact h0⟩, hd₃, by simp [hsz], kb₁.fresh, hTe, hT₃, htd, ht3⟩
  · obtain ⟨sl, hs⟩ := hs₁.2.2 b o hb
    exact ⟨sl, keep b _ (noRecord b o hb hnf) hs⟩
  · exact ⟨_, _, he₃, hd₃, by rw [Array.getElem?_setIfInBounds_ne (by decide)]; exact h2⟩
theorem land2 {Q : Unit → Shared → Prop} (hkb : B.StaysIn s'.heap) (hen : B.get? e = none) (hl : s'.heap.FunFrames B l) (ht : s'.heap.TracedAtW B e cls a0 fl) (hc : Ctx0 e s'.heap)
    (h : ∀ h', Heap.FlyingW B l e cls a0 h' → s'.heap.UpToSlots h' → Ctx0 e h' → Q () { s' with heap := h' }) : wpAny M A (setFlight (.ref e) none) Q E s' := by
  obtain ⟨oe, vs, T, oT, ts, he, hcls, hd, h1, hnT, hTe, hT, hdT, h3⟩ := ht
  have hsz3 : 3 < ts.size := (Array.getElem?_eq_some_iff.mp h3).1
  have other : ∀ b, b ≠ T → (s'.heap.update T (Obj.mapFields (·.setIfInBounds 3 ((none : Option Addr).elim Value.none fun f => rawInt f)))).get? b = s'.heap.get? b :=
    fun b hb => Heap.get?_update_other _ _ (Ne.symm hb)
  have noRecord : ∀ b o, s'.heap.get? b = some o → (∀ vs, o.data ≠ .fields vs) → b ≠ T := fun b o hb hnf q => by
    rw [q, hT] at hb; cases hb; exact hnf ts hdT
  unfold setFlight
  refine wpAny_bind (wpAny_field he hd h1 ?_)
  rw [if_pos (show (Value.ref T != Value.none) = true from by simp)]
  refine wpAny_setField hT hdT hsz3 (h _ ⟨fun b o hbo => (other b fun q => by rw [q, hnT] at hbo; cases hbo).trans (hkb b o hbo), hen,
    hl.of_keeps fun b o hb hnf => ⟨o, (other b (noRecord b o hb hnf)).trans hb, rfl⟩, ?_⟩ (fun b o hb hnf => ⟨o.slots, (other b (noRecord b o hb hnf)).trans hb⟩) ?_)
  · exact ⟨oe, vs, T, _, _, (other e (Ne.symm hTe)).trans he, hcls, hd, h1, hnT, hTe, Heap.get?_update_self _ hT (Obj.isFreed_of_fields (Obj.data_mapFields hdT _)), Obj.data_mapFields hdT _, by simp [hsz3]⟩
  · obtain ⟨oe', vs', he', r⟩ := hc
    exact ⟨oe', vs', (other e (Ne.symm hTe)).trans he', r⟩
end
section
variable {M : Model} {A : Around} {E : Value → Shared → Prop} {s' : Shared} {base g : Heap} {outer : List Env} {L a e t : Addr} {m : Str → Option Value} {name : Str} {scope : Scope} {cd : Value} {news : List (Addr × Obj)}
/-- an exception with one tuple of arguments leaves the frame that raised it -/
theorem leave_any {oe ot : Obj} {ws : Array Value} {vs : List Value} {n : Nat} {Q : Unit → Shared → Prop} (K : Below A base outer g) (F : Fr g L s'.heap m) (N : News g L s'.heap news)
    (ee : s'.heap.get? e = some oe) (hen : g.get? e = none) (hnn : ∀ q ∈ news, q.1 ≠ e) (hd : oe.data = .fields ws) (h1 : ws[1]? = some .none) (h0 : ws[0]? = some (.ref t))
    (ht : s'.heap.get? t = some ot) (htc : ot.cls = .type "tuple") (htd : ot.data = .seq vs.toArray n) (htg : g.get? t = none) (htn : ∀ q ∈ news, q.1 ≠ t) (hk : scope.kind = .function)
    (hQ : ∀ h', RaisedS base g outer e oe.cls t vs news h' → g.UpToSlots h' → Q () { s' with heap := h' }) :
    wpAny M (A.deeper (envOf name scope L a cd)) (leaving (envOf name scope L a cd) (.ref e)) Q E s' := by
  have hLt : L ≠ t := fun q => by
    obtain ⟨oL, es, ep, hL, hLd, _⟩ := F.ns
    rw [q, ht] at hL; cases hL; rw [htd] at hLd; cases hLd
  unfold leaving
  refine wpAny_bind (note_any (a0 := .ref t) (extra := [t]) K (Around.frames_deeper K.stack) F N ee hen hnn hd h1 h0 (fun b hb => by rw [List.mem_singleton.mp hb]; exact htg) (fun b hb => by rw [List.mem_singleton.mp hb]; exact htn)
    (fun hb => hLt (List.mem_singleton.mp hb)) hk fun h1 R FG U1 => ?_)
  obtain ⟨B, hB, hBG, hl, hh, hx⟩ := R
  refine wpAny_landsW hh fun h2 hfl U2 => ?_
  obtain ⟨k1, k2, ⟨_, _, k3⟩, k4⟩ := hfl
  refine hQ h2 ⟨⟨B, hB, fun b o q nm => hBG b o (FG.keep b o q) (fun hm => ?_), fun q hq => ⟨(hl q hq).1, (N q hq).2.2, (hl q hq).2.2⟩, ⟨k1, k2, k3, k4⟩, hx t (.head _)⟩, ?_⟩ ((Heap.UpToSlots.of_keeps F.keep).trans (U1.trans U2))
  · rcases kts_mem hm with z | z
    · rw [z, kts_self F] at q
      cases q
    · exact nm z
  · exact Heap.TupAt.of_slots (Heap.TupAt.of_slots ⟨ot, n, ht, htc, htd⟩ U1) U2
end
section
variable {prog : Program} {w : World} {A₀ : Around} {E : Value → Shared → Prop} {s' : Shared} {base g g₀ h : Heap} {outer : List Env} {L a e t : Addr} {m : Str → Option Value} {name : Str} {scope : Scope} {cd cls : Value}
  {b₀ : Stmt} {suite : List Stmt} {pos : Pos} {rest : List ExceptHandler} {Q : Flow → Shared → Prop} {news : List (Addr × Obj)} {KF : Frag} {tt : Expr}
  {p : Program} {loose : List Str} {mean : ExcName → Option Value} {mg mb : Str → Option Value}
/-- an exception made in this frame, inside its try: caught there; its record is known -/
theorem catch_new2 {X : String} (hx : Heap.NewExc h s'.heap e X) (F : Fr g L h m) (N : News g L h news) (K : Below A₀ base outer g) (XB : KF.In base) (TB : Top p loose mean mg mb base)
    (D : KtsDicts (outer.filterMap (·.frame)) g) (T0 : KtsTurn (outer.filterMap (·.frame)) g₀ g) (T : KtsTest prog w KF p loose mg mb name scope L a cd (.type X) tt true)
    (k : ∀ h' g' oe vs, KtsTurn (outer.filterMap (·.frame)) g₀ g' → Fr g' L h' m → News g' L h' ((e, oe) :: news) → oe.data = .fields vs → vs[2]? = some .none → (∀ q ∈ news, q.1 ≠ e) → Below A₀ base outer g' → KF.In g' → Top p loose mean mg mb g' → KtsDicts (outer.filterMap (·.frame)) g' →
      wpAny (model prog w) ((A₀.deeper (envOf name scope L a cd)).mark (some (.ref e))) (execs (b₀ :: suite) (envOf name scope L a cd)) Q E { s' with heap := h' })
    (hE : PassesOwnAt (model prog w) ((A₀.deeper (envOf name scope L a cd)).mark (some (.ref e))) (A₀.deeper (envOf name scope L a cd)) (envOf name scope L a cd) E) (hk : scope.kind = .function) :
    wpAny (model prog w) (A₀.deeper (envOf name scope L a cd)) (noteFrame (.ref e) (envOf name scope L a cd))
      (fun _ s₂ => wpAny (model prog w) (A₀.deeper (envOf name scope L a cd)) (setFlight (.ref e) none) (fun _ s₃ =>
        wpAny (model prog w) (A₀.deeper (envOf name scope L a cd)) (handleBy (.ref e) (envOf name scope L a cd) (.ExceptHandler (some tt) none (b₀ :: suite) pos :: rest)) Q E s₃) E s₂) E s' := by
  obtain ⟨ob, tp, he, hcls, hd⟩ := hx.there
  have F' : Fr g L s'.heap m := F.grownK hx.keeps
  have N' : News g L s'.heap news := N.grown hx.keeps
  have hen : g.get? e = none := by
    cases q : g.get? e with
    | none => rfl
    | some o => have := F.keep _ _ q; rw [hx.new] at this; cases this
  have hnn : ∀ q ∈ news, q.1 ≠ e := fun q hq z => by have := (N q hq).1; rw [z, hx.new] at this; cases this
  have K' := K.push (name := name) (a := a) (cd := cd) F' hk
  have hLe : L ≠ e := fun q => by
    obtain ⟨oL, es, ep, hL, hLd, _⟩ := F'.ns
    rw [q, he] at hL; cases hL; rw [hd] at hLd; cases hLd
  let fs := (envOf name scope L a cd :: outer).filterMap (·.frame)
  have hnof : ∀ b ∈ fs, b ≠ e := fun b hb hx => by
    rcases kts_mem hb with z | z
    · exact hLe (z ▸ hx)
    · obtain ⟨o, ho, _⟩ := (K.frames.mem z).2
      rw [hx, hen] at ho; cases ho
  let B := hideAll s'.heap (fs ++ [e])
  let G := hideAll s'.heap (e :: news.map (·.1))
  have hin : ∀ env ∈ (envOf name scope L a cd :: outer), ∀ b, env.frame = some b → b ∈ fs ++ [e] := fun env he b hb => List.mem_append_left _ (List.mem_filterMap.mpr ⟨env, he, hb⟩)
  have sg : ∀ b o, s'.heap.get? b = some o → b ∉ fs → b ≠ e → B.get? b = some o := fun b o q n1 n2 => hideAll_get _ q fun hm => (List.mem_append.mp hm).elim n1 (fun z => n2 (List.mem_singleton.mp z))
  have hBe : B.get? e = none := hideAll_none _ (List.mem_append_right _ (.head _))
  have hBL : B.get? L = none := hideAll_none _ (List.mem_append_left _ (List.mem_filterMap.mpr ⟨_, .head _, rfl⟩))
  have hBG : ∀ b o, G.get? b = some o → b ∉ (envOf name scope L a cd :: outer).filterMap (·.frame) → B.get? b = some o := fun b o q n => by
    have nb : b ∉ e :: news.map (·.1) := fun hb => by rw [show G.get? b = none from hideAll_none _ hb] at q; cases q
    exact sg b o (of_hideAll _ q) n fun z => nb (z ▸ .head _)
  have hl : ∀ q ∈ news, B.get? q.1 = some q.2 := fun q hq => sg _ _ (N' q hq).1 (fun hm => by
    rcases kts_mem hm with z | z
    · exact (N' q hq).2.1 z
    · obtain ⟨o, ho, _⟩ := (K.frames.mem z).2
      rw [(N' q hq).2.2] at ho; cases ho) (hnn q hq)
  have FG : Fr g L G m := fr_hide F' (fun b hb => by
    rcases List.mem_cons.mp hb with rfl | hb
    · exact hen
    · obtain ⟨q, hq, rfl⟩ := List.mem_map.mp hb
      exact (N' q hq).2.2) (fun hb => by
    rcases List.mem_cons.mp hb with hb | hb
    · exact hLe hb
    · obtain ⟨q, hq, e2⟩ := List.mem_map.mp hb
      exact (N' q hq).2.1 e2)
  refine note2 (base := B) (a0 := tp) (Around.frames_deeper K.stack) (funFrames_hide K'.frames hin) rfl he (fun b o hb => of_hideAll _ hb) hBe hd rfl rfl rfl fun h1 H1 U1 C1 => ?_
  refine land2 H1.1 H1.2.1 H1.2.2.1 H1.2.2.2 C1 fun h2 H2 U2 C2 => ?_
  have hsm : G.UpToSlots h2 := (hide_up.trans U1).trans U2
  obtain ⟨g₅, T₅, F₅, K₅⟩ := kts_ground K FG hBG H2.1 hsm
  have ty : Looks (model prog w) h2 (typeOf (.ref e)) (.type X) := by
    obtain ⟨o5, ho5, hc5⟩ := H2.there
    have := hc5.trans hcls
    rw [← this]
    exact (Looks.ld ho5).andThen .now
  refine wpAny_handleBy_cons (codeAny_handlers_test (T _ _ _ { s' with heap := h2 } g₅ e m F₅ (XB.keeps K₅.stays) (topRead_of (TB.keeps K₅.stays)) ty fun h₅ kp => ?_)) (by intro q; cases q)
  have H5 := flying_keeps H2 kp
  have C5 := C2.keeps kp
  refine codeAny_handlers_suite ?_
  refine land2 (s' := { s' with heap := h₅ }) H5.1 H5.2.1 H5.2.2.1 H5.2.2.2.at C5 fun h₆ H6 U6 C6 => ?_
  have hsm6 : G.UpToSlots h₆ := (hsm.trans (Heap.UpToSlots.of_keeps kp)).trans U6
  obtain ⟨g₆, T₆, F₆, K₆⟩ := kts_ground K FG hBG H6.1 hsm6
  obtain ⟨oe, vs, hoe, hoed, hv2⟩ := C6
  have ne₆ : g₆.get? e = none := T₆.none_ _ hen
  refine wpAny_passesOwnAt hE (k h₆ g₆ oe vs (T0.trans T₆) F₆ (fun q hq => ?_) hoed hv2 hnn K₆ (XB.keeps K₆.stays) (TB.keeps K₆.stays) (D.turn T₆))
  rcases List.mem_cons.mp hq with rfl | hq
  · exact ⟨hoe, hLe.symm, ne₆⟩
  · exact ⟨H6.1 _ _ (hl q hq), (N' q hq).2.1, T₆.none_ _ (N' q hq).2.2⟩
end
section
variable {prog : Program} {w : World} {A : Around} {E : Value → Shared → Prop} {s : Shared} {env : Env}
theorem entry_unchain : entryFor table "proto.unchain" = some Builtin.«proto.unchain» := entryFor_of_tree (by kernel_rfl)
theorem plain_unchain : plainId "proto.unchain" = true := by decide +kernel
theorem unchain_none {v : Value} {e0 : Addr} {Q : Value → Shared → Prop} (hc : Ctx0 e0 s.heap) (h : Q .none s) : wpAny (model prog w) A (runValue (.builtin "proto.unchain" ⟨[v, .ref e0, .ref e0, .bool false], []⟩)) Q E s := by
  obtain ⟨oe, vs, he, hd, h2⟩ := hc
  refine wpAny_runValue (codeAny_builtin entry_unchain ?_)
  unfold Builtin.«proto.unchain»
  dsimp only
  refine wpAny_bind (wpAny_field he hd h2 ?_)
  rw [if_pos (by decide)]
  exact wpAny_pure h
theorem raise_new_in {α : Type} {e e0 : Addr} {oe : Obj} {vs : Array Value} {Q : α → Shared → Prop} (hh : A.handled = some (.ref e0)) (hne : e ≠ e0) (hc : Ctx0 e0 s.heap) (he : s.heap.get? e = some oe) (hd : oe.data = .fields vs) (h2 : 2 < vs.size)
    (h : E (.ref e) { s with heap := s.heap.update e (Obj.mapFields (·.setIfInBounds 2 (.ref e0))) }) : wpAny (model prog w) A (raiseNew (.ref e) : Sem α) Q E s := by
  unfold raiseNew
  refine wpAny_bind (wpAny_handled ?_)
  rw [hh]
  dsimp only
  rw [if_pos (show (Value.ref e0 != Value.ref e) = true from by simp [Ne.symm hne])]
  refine wpAny_bind (wpAny_holding (unchain_none hc ?_))
  refine wpAny_bind (wpAny_setField (a := e) he hd h2 ?_)
  exact wpAny_throw h
theorem raise_from {X C : Sem Value} {Q : Flow → Shared → Prop}
    (h : wpAny (model prog w) A X (fun v s₁ => wpAny (model prog w) A C (fun cv s₂ => cv = .none ∧ ∃ e t e0, v = .ref e ∧ A.handled = some (.ref e0) ∧ e ≠ e0 ∧ s₂.heap.get? 55 = some ob55 ∧ s₂.heap.get? e = some (excObj t) ∧ Ctx0 e0 s₂.heap ∧
      ∀ h', (∀ b, b ≠ e → h'.get? b = s₂.heap.get? b) → h'.get? e = some { cls := .ref 55, data := .fields #[.ref t, .none, .ref e0, .none, .bool true, .none] } → E (.ref e) { s₂ with heap := h' }) E s₁) E s) :
    wpAny (model prog w) A (raiseStmt env (some X) (some C)) Q E s := by
  unfold raiseStmt
  refine wpAny_bind (wpAny_mono h (fun v s₁ h₁ => ?_) fun _ _ x => x)
  refine wpAny_bind (wpAny_holding (wpAny_mono h₁ (fun cv s₂ h₂ => ?_) fun _ _ x => x))
  obtain ⟨rfl, e, t, e0, rfl, hh, hne, hC, he, hc, hE⟩ := h₂
  obtain ⟨hp, g, d, tk, os⟩ := s₂
  dsimp only at hC he hc hE
  have hC' : hp.get? 55 = some (excClassObj (Str.ofString "TOMLDecodeError") (Str.ofString "TOMLDecodeError") 55 54 [.type "ValueError"] [.type "ValueError", .type "Exception", .type "BaseException", .type "object"] true [] [] false none none (some (.ref 46)) none (some (.str (Str.ofString "TOMLDecodeError") 349)) (some (.str (Str.ofString "TOMLDecodeError") 357)) (some (.bool true)) "ValueError.__new__") := hC
  have hsub : (Value.ref 55 :: [Value.type "ValueError", .type "Exception", .type "BaseException", .type "object"]).contains (.type "BaseException") = true := by decide
  refine wpAny_bind (wpAny_pure ?_)
  dsimp only
  refine wpAny_bind (wpAny_holding ?_)
  unfold excFromValue isExcClass
  repeat (first | with_reducible refine wpAny_loadPart_at he ?_ | with_reducible refine wpAny_loadPart_at hC' ?_ | (with_reducible refine wpAny_isSubtype_exc hC' ?_; rw [hsub]) | wp_step)
  have h55 : (55 : Addr) ≠ e := fun q => by rw [q, he] at hC; cases hC
  have hf1 : (Obj.mapFields (fun x => x.setIfInBounds 3 Value.none) (excObj t)).isFreed = false := rfl
  have hf2 : (Obj.mapFields (fun x => x.setIfInBounds 4 (Value.bool true)) (Obj.mapFields (fun x => x.setIfInBounds 3 Value.none) (excObj t))).isFreed = false := rfl
  have he1 := Heap.get?_update_self (Obj.mapFields (fun x => x.setIfInBounds 3 Value.none)) he hf1
  have he2 := Heap.get?_update_self (Obj.mapFields (fun x => x.setIfInBounds 4 (Value.bool true))) he1 hf2
  have oth : ∀ b, b ≠ e → ((hp.update e (Obj.mapFields fun x => x.setIfInBounds 3 Value.none)).update e (Obj.mapFields fun x => x.setIfInBounds 4 (Value.bool true))).get? b = hp.get? b := fun b hb => by
    rw [Heap.get?_update_other _ _ (Ne.symm hb), Heap.get?_update_other _ _ (Ne.symm hb)]
  have hC2 := (oth 55 h55).trans hC
  refine wpAny_loadPart_at hC2 ?_
  refine wpAny_pure ?_
  rw [if_pos (by decide)]
  refine wpAny_pure ?_
  have hd2 : (Obj.mapFields (fun x => x.setIfInBounds 4 (Value.bool true)) (Obj.mapFields (fun x => x.setIfInBounds 3 Value.none) (excObj t))).data = .fields #[.ref t, .none, .none, .none, .bool true, .none] := rfl
  unfold setFlight
  refine wpAny_bind (wpAny_bind (wpAny_field he2 hd2 (x := .none) rfl ?_))
  rw [if_neg (by decide)]
  refine wpAny_pure ?_
  refine raise_new_in hh hne ?_ he2 hd2 (by simp) (hE _ (fun b hb => ?_) ?_)
  · obtain ⟨o0, v0, h0, r0⟩ := hc
    exact ⟨o0, v0, (oth e0 (Ne.symm hne)).trans h0, r0⟩
  · exact (Heap.get?_update_other _ _ (Ne.symm hb)).trans (oth b hb)
  · exact Heap.get?_update_self _ he2 rfl
end
section
variable {A₀ : Around} {base h₀ g g2 h h' : Heap} {outer : List Env} {L a e : Addr} {m : Str → Option Value} {name : Str} {scope : Scope} {cd : Value} {news : List (Addr × Obj)}
theorem fr_but (F : Fr g L h m) (ho : ∀ b, b ≠ e → h'.get? b = h.get? b) (hL : e ≠ L) (hg : g.get? e = none) : Fr g L h' m := by
  obtain ⟨oL, es, ep, hLh, r⟩ := F.ns
  exact ⟨⟨oL, es, ep, (ho L (Ne.symm hL)).trans hLh, r⟩, fun b o q => (ho b (fun z => by rw [z, hg] at q; cases q)).trans (F.keep b o q), F.above⟩
theorem news_but (N : News g L h news) (ho : ∀ b, b ≠ e → h'.get? b = h.get? b) (hn : ∀ q ∈ news, q.1 ≠ e) : News g L h' news := fun q hq => ⟨(ho _ (hn q hq)).trans (N q hq).1, (N q hq).2⟩
end
end Mine
end
section
open PySem PySem.W PyProof.Rows PySem.Calls
set_option maxRecDepth 100000
namespace Mine
local macro_rules | `(tactic| k_steps) => `(tactic| repeat' (first | (k_unfold; (try dsimp only)) | ((fail_if_success (with_reducible show wpAny _ _ (exec (Stmt.While _ _ _ _) _) _ _ _)); (fail_if_success (with_reducible show wpAny _ _ (exec (Stmt.For _ _ _ _ _) _) _ _ _)); (fail_if_success (with_reducible show Exists _)); (fail_if_success (with_reducible show LeaveK _ _ _ _ _ _ _)); (fail_if_success (with_reducible show LeaveS _ _ _ _ _ _ _ _ _ _ _ _ _ _ _ _ _ _)); (fail_if_success (with_reducible show wpAny _ _ (call (Value.ref _) _ _) _ _ _)); (first | walk1 | (dsimp only; walk1)))))
set_option maxHeartbeats 8000000 in
theorem skip_until_raise {A A₀ : Around} {base h₀ : Heap} {outer : List Env} {env : Env} {L : Addr} {m mg mb : Str → Option Value} {rest : List (Addr × Obj)} {o : Option (Addr × Obj)} {s : Shared} {w : World} {p : Program} {loose : List Str} {mean : ExcName → Option Value} {Q : Value → Shared → Prop} {E : Value → Shared → Prop}
  {src : Str} {pos : Nat} {t1 t2 t3 : Tok}
  (B : Below A₀ base outer h₀) (F : Fr h₀ L s.heap m) (XB : (K w.params).In base) (C : CodeHd base 99 95) (N : News h₀ L s.heap (tabN o ++ rest)) (ho : TabOk o) (TB : Top p loose mean mg mb base) (D : KtsDicts (outer.filterMap (·.frame)) h₀)
  (hA : A.frames = some (env :: outer)) (hf : env.frame = some L) (hke : env.scope.kind = .function) (hd : A.depth + 70 < recursionLimit) (hu : A.units + 500 < cLine) (hh : A.handled = none)
  (hoff : ∀ p ∈ rest, p.1 ≠ 95) (hz : src.length < 5000) (hp : pos ≤ src.length) (hno : spots 39 src pos (src.length - pos) = [])
  (h : ∀ h₀' G h' e t o' tk u, KtsTurn (outer.filterMap (·.frame)) h₀ h₀' → Below A₀ base outer h₀' → KtsDicts (outer.filterMap (·.frame)) h₀' → TabOk o' → Fr h₀' L G m → RaisedS base G (env :: outer) e (.ref 55) t [.str (errStr (Str.ofString "Expected \"'\"") src src.length) u] (tabN o' ++ rest) h' → G.UpToSlots h' → E (.ref e) { s with heap := h', toks := tk })
  : wpAny (model PR w) A (call (.ref 72) [.str src t1, .int pos t2, .str (Str.ofString "'") t3] [(Str.ofString "error_on", .ref 36), (Str.ofString "error_on_eof", .bool true)]) Q E s := by
  revert XB; unfold PR; k_fill; intro XB
  refine wpAny_call ?_
  refine code_defE (g₀ := h₀) (params := parsAt 9) (body := bodyAt 9) (scope := scopeAt 9) (binds := [(Str.ofString "src", .str src t1), (Str.ofString "pos", .int pos t2), (Str.ofString "expect", .str (Str.ofString "'") t3), (Str.ofString "error_on", .ref 36), (Str.ofString "error_on_eof", .bool true)]) B F (XB.keeps B.stays) N (TB.keeps B.stays) XB TB D KtsTurn.refl hA hf hke (show (K w.params).lookup 72 = some ob72 from rfl) (by rfl) (by omega) (BindsTo.of_eq (by rfl)) (locs (by rfl)) ?_ (by rfl) (by rfl) (by rfl) (by decide +kernel)
  intro g' L' h' FG' F' N' B' X' T' D'
  have hb : bodyAt 9 = bodyAt 9 := rfl
  conv at hb => rhs; whnf
  have hs : scopeAt 9 = scopeAt 9 := rfl
  conv at hs => rhs; whnf
  rw [hb, hs]
  clear hb hs
  dsimp only
  clear F N 
  rw [lk5] at F'
  k_steps
  refine index1_out hh (by rw [show Str.ofString "'" = ⟨#[39]⟩ from rfl, occ_spots, hno]; rfl) fun hE tkE e hx => ?_
  refine catch_new2 (g₀ := g') (KF := K w.params) hx F' N' B' XB TB D' KtsTurn.refl (test_name (c := .type "ValueError") (by kts_nm) (by kts_exm) rfl rfl (by decide)) ?_ ?_ rfl
  · intro h2 g2 oe vs KT F2 N2 hoe hv2 hne B2 X2 T2 D2
    clear F' N' B' X' T' D'
    dsimp only at F2 ⊢
    k_steps
    rw [arm_exec_Raise]
    refine wpAny_bind (wpAny_standAt ?_)
    dsimp only [evalOpt, Option.map]
    refine raise_from ?_
    refine wpAny_bind ?_
    k_steps
    refine wpAny_pyReprObj_str ?_ (by decide +kernel)
    rw [show reprText (Str.ofString "'") = Str.ofString "\"'\"" from by decide +kernel]
    dsimp only
    k_steps
    rename Fr _ _ _ _ => F3
    rename News _ _ _ _ => N3
    rw [show Str.empty ++ Str.ofString "Expected " ++ Str.ofString "\"'\"" = Str.ofString "Expected \"'\"" from by decide +kernel]
    have h95 : (95 : Addr) ≠ e := by cases o <;> exact hne _ (.head _)
    refine suffixed_err_call (o := o) (rest := (e, oe) :: rest) B2 F3 X2 (C.keeps B2.stays) (news_sub N3 fun q hq => ?_) ho T2 (by show A.frames.map _ = _; rw [hA]; rfl) rfl rfl (by show A.depth + 1 + 50 < _; omega) (by show A.units + 3 + 400 < _; omega) (fun q hq => ?_) hz (Nat.le_refl _) (by decide) fun e5 t5 o5 h5 tk5 u5 ho5 F5 N5 hne5 => ?_
    · rcases List.mem_append.mp hq with hq | hq
      · exact .tail _ (List.mem_append_left _ hq)
      · rcases List.mem_cons.mp hq with rfl | hq
        · exact .head _
        · exact .tail _ (List.mem_append_right _ hq)
    · rcases List.mem_cons.mp hq with rfl | hq
      · exact h95.symm
      · exact hoff q hq
    refine wpAny_bind (wpAny_standAt (wpAny_pure ?_))
    refine wpAny_bind ?_
    clear F3 N3
    dsimp only
    k_steps
    refine wpAny_bind (wpAny_standAt (wpAny_pure ?_))
    have hee : e5 ≠ e := fun z => (hne5 (e, oe) (List.mem_append_right _ (.head _))).1 z.symm
    have n5 := N5 (e5, excObj t5) (.head _)
    have n5t := N5 (t5, tupObj [.str (errStr (Str.ofString "Expected \"'\"") src src.length) u5]) (.tail _ (.head _))
    have h5t : t5 ≠ e5 := fun z => by
      have q := n5t.1
      rw [z, n5.1] at q
      cases q
    have NR : News g2 L' h5 (tabN o5 ++ rest) := news_sub N5 fun q hq => .tail _ (.tail _ (by
      rcases List.mem_append.mp hq with hq | hq
      · exact List.mem_append_left _ hq
      · exact List.mem_append_right _ (.tail _ hq)))
    have hner : ∀ q ∈ tabN o5 ++ rest, q.1 ≠ e5 ∧ q.1 ≠ t5 := fun q hq => hne5 q (by
      rcases List.mem_append.mp hq with hq | hq
      · exact List.mem_append_left _ hq
      · exact List.mem_append_right _ (.tail _ hq))
    obtain ⟨h₀', KT0, F0, B0, D0⟩ := turn_down hf B FG' KT D
    refine ⟨rfl, e5, t5, e, rfl, rfl, hee, F5.keep _ _ (X2 _ _ rfl), n5.1, ⟨oe, vs, (N5 (e, oe) (.tail _ (.tail _ (List.mem_append_right _ (.head _))))).1, hoe, hv2⟩, fun h6 oth he6 => ?_⟩
    refine leave_any B2 (fr_but F5 oth n5.2.1 n5.2.2) (news_but NR oth fun q hq => (hner q hq).1) he6 n5.2.2 (fun q hq => (hner q hq).1) rfl rfl rfl ((oth t5 h5t).trans n5t.1) rfl rfl n5t.2.2 (fun q hq => (hner q hq).2) rfl fun h7 R7 U7 => ?_
    exact h h₀' g2 h7 e5 t5 o5 _ _ KT0 B0 D0 ho5 F0 R7 U7
  · with_unfolding_all passes_own
end Mine
end
section
open PySem PySem.W PyProof.Rows PySem.Calls
set_option maxRecDepth 100000
namespace Mine
theorem next_no {c : Nat} {x : Str} {i k : Nat} (h1 : i ≤ k) (h2 : k < nextAt c x i) : x.cps[k]? ≠ some c := fun hk => by
  have hx : k < x.length := (Array.getElem?_eq_some_iff.mp hk).1
  have hm : k ∈ spots c x i (x.length - i) := List.mem_filter.mpr ⟨List.mem_range'_1.mpr ⟨h1, by omega⟩, by rw [hk]; simp⟩
  unfold nextAt at h2
  cases hs : spots c x i (x.length - i) with
  | nil => rw [hs] at hm; cases hm
  | cons a l =>
    rw [hs] at h2 hm
    have ha : a ≤ k := by
      rcases List.mem_cons.mp hm with rfl | hm
      · exact Nat.le_refl _
      · have hp : (spots c x i (x.length - i)).Pairwise (· < ·) := List.Pairwise.filter _ List.pairwise_lt_range'
        rw [hs] at hp
        exact Nat.le_of_lt ((List.pairwise_cons.mp hp).1 k hm)
    exact absurd h2 (Nat.not_lt.mpr ha)
theorem next_ge {c : Nat} {x : Str} {i : Nat} (h : i ≤ x.length) : i ≤ nextAt c x i ∧ nextAt c x i ≤ x.length := by
  unfold nextAt
  cases hs : spots c x i (x.length - i) with
  | nil => exact ⟨h, Nat.le_refl _⟩
  | cons a l =>
    have := spots_ge (k := a) (by rw [hs]; exact .head _)
    exact ⟨this.1, by show a ≤ x.length; omega⟩
/-- behind a remark -/
noncomputable def remTo (x : Str) (i : Nat) : Nat := if x.cps[i]? = some 35 then nextAt 10 x (i + 1) else i
local macro_rules | `(tactic| k_steps) => `(tactic| repeat' (first | (k_unfold; (try dsimp only)) | ((fail_if_success (with_reducible show wpAny _ _ (exec (Stmt.While _ _ _ _) _) _ _ _)); (fail_if_success (with_reducible show wpAny _ _ (exec (Stmt.For _ _ _ _ _) _) _ _ _)); (fail_if_success (with_reducible show Exists _)); (fail_if_success (with_reducible show LeaveK _ _ _ _ _ _ _)); (fail_if_success (with_reducible show LeaveS _ _ _ _ _ _ _ _ _ _ _ _ _ _ _ _ _ _)); (fail_if_success (with_reducible show wpAny _ _ (call (Value.ref _) _ _) _ _ _)); (first | walk1 | (dsimp only; walk1)))))
set_option maxHeartbeats 8000000 in
theorem skip_comment_call {A A₀ : Around} {base h₀ : Heap} {outer : List Env} {env : Env} {L : Addr} {m mg mb : Str → Option Value} {news : List (Addr × Obj)} {s : Shared} {w : World} {p : Program} {loose : List Str} {mean : ExcName → Option Value} {Q : Value → Shared → Prop} {E : Value → Shared → Prop}
  {src : Str} {pos : Nat} {t1 t2 : Tok} {P : Str → Bool}
  (B : Below A₀ base outer h₀) (F : Fr h₀ L s.heap m) (XB : (K w.params).In base) (N : News h₀ L s.heap news) (TB : Top p loose mean mg mb base) (D : KtsDicts (outer.filterMap (·.frame)) h₀)
  (hA : A.frames = some (env :: outer)) (hf : env.frame = some L) (hke : env.scope.kind = .function) (hd : A.depth + 90 < recursionLimit) (hu : A.units + 600 < cLine) (hh : A.handled = none)
  (hS : StrSet base 36 P) (hz : src.length < 5000) (hp : pos ≤ src.length) (hcl : ∀ (i x : Nat), src.cps[i]? = some x → x ≠ 10 → P ⟨#[x]⟩ = false)
  (h : ∀ h₀' h' tk u, KtsTurn (outer.filterMap (·.frame)) h₀ h₀' → Below A₀ base outer h₀' → KtsDicts (outer.filterMap (·.frame)) h₀' → Fr h₀' L h' m → News h₀' L h' news → Q (.int (remTo src pos : Nat) u) { s with heap := h', toks := tk })
  : wpAny (model PR w) A (call (.ref 79) [.str src t1, .int pos t2]) Q E s := by
  revert XB; unfold PR; k_fill; intro XB
  refine wpAny_noRaise (wpAny_call ?_)
  refine code_defE (g₀ := h₀) (params := parsAt 10) (body := bodyAt 10) (scope := scopeAt 10) (binds := [(Str.ofString "src", .str src t1), (Str.ofString "pos", .int pos t2)]) B F (XB.keeps B.stays) N (TB.keeps B.stays) XB TB D KtsTurn.refl hA hf hke (show (K w.params).lookup 79 = some ob79 from rfl) (by rfl) (by omega) (BindsTo.of_eq (by rfl)) (locs (by rfl)) ?_ (by rfl) (by rfl) (by rfl) (by decide +kernel)
  intro g' L' h' FG' F' N' B' X' T' D'
  have hb : bodyAt 10 = bodyAt 10 := rfl
  conv at hb => rhs; whnf
  have hs : scopeAt 10 = scopeAt 10 := rfl
  conv at hs => rhs; whnf
  rw [hb, hs]
  clear hb hs
  dsimp only
  clear FG' F N 
  rw [lk2] at F'
  refine wpAny_noRaise ?_
  k_steps
  refine item_str_or hh (by unfold fitsSsize; simp; omega) (fun hout hE tkE e hx => ?_) (fun _ hlt => ?_)
  · refine catch_new (g₀ := g') (KF := K w.params) hx F' N' B' XB TB D' KtsTurn.refl (test_name (c := .type "IndexError") (by kts_nm) (by kts_exm) rfl rfl (by decide)) ?_ ?_ rfl
    · intro h2 g2 KT F2 N2 B2 X2 T2 D2
      clear F' N' B' X' T' D'
      dsimp only at F2 ⊢
      k_steps
      rename Fr _ _ _ _ => F3
      rename News _ _ _ _ => N3
      have e : remTo src pos = pos := by unfold remTo; rw [if_neg]; rw [Array.getElem?_eq_none (by simp only [Str.length] at hout; omega)]; simp
      rw [e] at h
      exact leaveS_r F3 N3 KT fun h₀' KT' F N B X T D => h _ _ _ _ KT' B D F N
    · with_unfolding_all passes_own
  · dsimp only
    obtain ⟨c, hc⟩ : ∃ c, src.cps[pos]? = some c := ⟨_, Array.getElem?_eq_getElem (by have := hlt; simp only [Str.length] at this; omega)⟩
    rw [item_cp hc]
    k_steps
    · rename_i hq
      rename Fr _ _ _ _ => F3
      rename News _ _ _ _ => N3
      have hc35 : c = 35 := by have := eq_of_beq hq; rw [show Str.ofString "#" = ⟨#[35]⟩ from rfl] at this; injection this with this; simpa using this
      subst hc35
      have e : remTo src pos = nextAt 10 src (pos + 1) := by unfold remTo; rw [if_pos hc]
      rw [e] at h
      have hp1 : pos + 1 ≤ src.length := by omega
      rw [nl_str, show ((pos : Int) + 1) = ((pos + 1 : Nat) : Int) from by omega]
      refine skip_until_ok (c := 10) (eof := false) (P := P) B' F3 XB N3 TB D' (by show A.frames.map _ = _; rw [hA]; rfl) rfl rfl (by show A.depth + 1 + 70 < _; omega) (by show A.units + 3 + 500 < _; omega) hh hS hz hp1 (.inl rfl) (fun i h1 h2 x hx => hcl i x hx fun z => next_no h1 h2 (z ▸ hx)) fun g3 h3 tk3 u3 KT3 B3 D3 F4 N4 => ?_
      exact leaveS_r F4 N4 KT3 fun h₀' KT' F N B X T D => h _ _ _ _ KT' B D F N
    · rename_i hq
      rename Fr _ _ _ _ => F3
      rename News _ _ _ _ => N3
      have e : remTo src pos = pos := by
        unfold remTo; rw [if_neg]; rw [hc]
        intro z
        rw [Option.some.inj z] at hq
        exact absurd hq (by decide)
      rw [e] at h
      exact leaveS_l F3 N3 fun F N => h _ _ _ _ KtsTurn.refl B D F N
end Mine
end
section
open PySem PySem.W PyProof.Rows PySem.Calls
set_option maxRecDepth 100000
namespace Mine
theorem skipTo_ge {P : Str → Bool} {x : Str} {i : Nat} (h : i ≤ x.length) : i ≤ skipTo P x i ∧ skipTo P x i ≤ x.length := by
  unfold skipTo
  have : ((x.cps.toList.drop i).takeWhile fun c => P ⟨#[c]⟩).length ≤ (x.cps.toList.drop i).length := (List.takeWhile_sublist _).length_le
  simp only [List.length_drop, Array.length_toList] at this
  simp only [Str.length] at h ⊢
  omega
theorem remTo_ge {x : Str} {i : Nat} (h : i ≤ x.length) : i ≤ remTo x i ∧ remTo x i ≤ x.length := by
  unfold remTo
  split
  · rename_i hx
    have hi : i < x.length := (Array.getElem?_eq_some_iff.mp hx).1
    have := next_ge (c := 10) (x := x) (i := i + 1) (by omega)
    omega
  · omega
/-- one turn over blanks and a remark -/
noncomputable def turn (P : Str → Bool) (x : Str) (i : Nat) : Nat := remTo x (skipTo P x i)
theorem turn_ge {P : Str → Bool} {x : Str} {i : Nat} (h : i ≤ x.length) : i ≤ turn P x i ∧ turn P x i ≤ x.length := by
  unfold turn
  have a := skipTo_ge (P := P) h
  have b := remTo_ge a.2
  omega
/-- turn after turn, till it rests -/
noncomputable def settle (P : Str → Bool) (x : Str) : Nat → Nat → Nat
  | 0, i => i
  | n + 1, i => if turn P x i = i then i else settle P x n (turn P x i)
theorem settle_fuel (P : Str → Bool) (x : Str) : ∀ (d i n : Nat), x.length - i ≤ d → i ≤ x.length → x.length - i + 1 ≤ n → settle P x n i = settle P x (x.length - i + 1) i
  | d, i, n, hd, hi, hn => by
    obtain ⟨n', rfl⟩ : ∃ n', n = n' + 1 := ⟨n - 1, by omega⟩
    unfold settle
    by_cases h : turn P x i = i
    · rw [if_pos h, if_pos h]
    · rw [if_neg h, if_neg h]
      have ht := turn_ge (P := P) hi
      have hlt : i < turn P x i := by omega
      cases d with
      | zero => omega
      | succ d =>
        rw [settle_fuel P x d (turn P x i) n' (by omega) ht.2 (by omega), settle_fuel P x d (turn P x i) (x.length - i) (by omega) ht.2 (by omega)]
local macro_rules | `(tactic| k_steps) => `(tactic| repeat' (first | (k_unfold; (try dsimp only)) | ((fail_if_success (with_reducible show wpAny _ _ (exec (Stmt.While _ _ _ _) _) _ _ _)); (fail_if_success (with_reducible show wpAny _ _ (exec (Stmt.For _ _ _ _ _) _) _ _ _)); (fail_if_success (with_reducible show Exists _)); (fail_if_success (with_reducible show LeaveK _ _ _ _ _ _ _)); (fail_if_success (with_reducible show LeaveS _ _ _ _ _ _ _ _ _ _ _ _ _ _ _ _ _ _)); (fail_if_success (with_reducible show wpAny _ _ (call (Value.ref _) _ _) _ _ _)); (first | walk1 | (dsimp only; walk1)))))
set_option maxHeartbeats 8000000 in
theorem skip_ws_call {A A₀ : Around} {base h₀ : Heap} {outer : List Env} {env : Env} {L : Addr} {m mg mb : Str → Option Value} {news : List (Addr × Obj)} {s : Shared} {w : World} {p : Program} {loose : List Str} {mean : ExcName → Option Value} {Q : Value → Shared → Prop} {E : Value → Shared → Prop}
  {src : Str} {pos : Nat} {t1 t2 : Tok} {P W : Str → Bool}
  (B : Below A₀ base outer h₀) (F : Fr h₀ L s.heap m) (XB : (K w.params).In base) (N : News h₀ L s.heap news) (TB : Top p loose mean mg mb base) (D : KtsDicts (outer.filterMap (·.frame)) h₀)
  (hA : A.frames = some (env :: outer)) (hf : env.frame = some L) (hke : env.scope.kind = .function) (hd : A.depth + 110 < recursionLimit) (hu : A.units + 700 < cLine) (hh : A.handled = none)
  (hS : StrSet base 36 P) (hW : StrSet base 45 W) (hz : src.length < 5000) (hp : pos ≤ src.length) (hcl : ∀ (i x : Nat), src.cps[i]? = some x → x ≠ 10 → P ⟨#[x]⟩ = false)
  (h : ∀ h₀' h' tk u, KtsTurn (outer.filterMap (·.frame)) h₀ h₀' → Below A₀ base outer h₀' → KtsDicts (outer.filterMap (·.frame)) h₀' → Fr h₀' L h' m → News h₀' L h' news → Q (.int (settle W src (src.length - pos + 1) pos : Nat) u) { s with heap := h', toks := tk })
  : wpAny (model PR w) A (call (.ref 86) [.str src t1, .int pos t2]) Q E s := by
  revert XB; unfold PR; k_fill; intro XB
  refine wpAny_noRaise (wpAny_call ?_)
  refine code_defE (g₀ := h₀) (params := parsAt 11) (body := bodyAt 11) (scope := scopeAt 11) (binds := [(Str.ofString "src", .str src t1), (Str.ofString "pos", .int pos t2)]) B F (XB.keeps B.stays) N (TB.keeps B.stays) XB TB D KtsTurn.refl hA hf hke (show (K w.params).lookup 86 = some ob86 from rfl) (by rfl) (by omega) (BindsTo.of_eq (by rfl)) (locs (by rfl)) ?_ (by rfl) (by rfl) (by rfl) (by decide +kernel)
  intro g' L' h' FG' F' N' B' X' T' D'
  have hb : bodyAt 11 = bodyAt 11 := rfl
  conv at hb => rhs; whnf
  have hs : scopeAt 11 = scopeAt 11 := rfl
  conv at hs => rhs; whnf
  rw [hb, hs]
  clear hb hs
  dsimp only
  clear FG' F N 
  rw [lk2] at F'
  refine wpAny_noRaise ?_
  k_steps
  refine while_inv (fun n s' => ∃ i u g2 h2 tk f, n = src.length - i ∧ i ≤ src.length ∧ settle W src (src.length - i + 1) i = settle W src (src.length - pos + 1) pos ∧ s' = { s with heap := h2, toks := tk } ∧
    KtsTurn ((env :: outer).filterMap (·.frame)) g' g2 ∧ Below A base (env :: outer) g2 ∧ KtsDicts ((env :: outer).filterMap (·.frame)) g2 ∧
    Fr g2 L' h2 (fun z => if z = Str.ofString "pos" then some (.int (i : Nat) u) else if z = Str.ofString "src" then some (.str src t1) else f z) ∧ News g2 L' h2 news) ?_ (src.length - pos) ⟨pos, t2, g', _, _, fun _ => none, rfl, hp, rfl, rfl, KtsTurn.refl, B', D', F', N'⟩
  intro n s' hI
  obtain ⟨i, u, g2, h1, tk1, f, hn, hi, hst, rfl, KT, B2, D2, F1, N1⟩ := hI
  clear F' N' B' D'
  have X2 : (K w.params).In g2 := XB.keeps B2.stays
  have T2 : Top p loose mean mg mb g2 := TB.keeps B2.stays
  clear X' T'
  k_steps
  rename Fr _ _ _ _ => F3
  rename News _ _ _ _ => N3
  refine skip_chars_call (P := W) B2 F3 XB N3 TB D2 (by show A.frames.map _ = _; rw [hA]; rfl) rfl rfl (by show A.depth + 1 + 10 < _; omega) (by show A.units + 3 + 100 < _; omega) hh hW hz hi fun g3 h3 tk3 u3 KT3 B3 D3 F4 N4 => ?_
  clear F3 N3 X2 T2
  have X3 : (K w.params).In g3 := XB.keeps B3.stays
  have T3 : Top p loose mean mg mb g3 := TB.keeps B3.stays
  dsimp only
  k_steps
  rename Fr _ _ _ _ => F5
  rename News _ _ _ _ => N5
  refine skip_comment_call (P := P) B3 F5 XB N5 TB D3 (by show A.frames.map _ = _; rw [hA]; rfl) rfl rfl (by show A.depth + 1 + 90 < _; omega) (by show A.units + 3 + 600 < _; omega) hh hS hz (skipTo_ge hi).2 hcl fun g4 h4 tk4 u4 KT4 B4 D4 F6 N6 => ?_
  clear F5 N5 X3 T3
  have X4 : (K w.params).In g4 := XB.keeps B4.stays
  have T4 : Top p loose mean mg mb g4 := TB.keeps B4.stays
  dsimp only
  k_steps
  · rename_i hq
    rename Fr _ _ _ _ => F7
    rename News _ _ _ _ => N7
    have ht : turn W src i = i := by unfold turn; omega
    have e : settle W src (src.length - pos + 1) pos = remTo src (skipTo W src i) := by
      rw [← hst]; unfold settle; rw [if_pos ht]; exact ht.symm
    rw [e] at h
    exact leaveS_r F7 N7 ((KT.trans KT3).trans KT4) fun h₀' KT' F N B X T D => h _ _ _ _ KT' B D F N
  · rename_i hq
    rename Fr _ _ _ _ => F7
    rename News _ _ _ _ => N7
    have ht : turn W src i ≠ i := by unfold turn; omega
    have hg := turn_ge (P := W) hi
    refine ⟨src.length - turn W src i, by omega, turn W src i, u4, g4, _, _, fun y => if y = Str.ofString "pos_before_skip" then some (.int (i : Nat) u) else f y, rfl, hg.2, ?_, rfl, (KT.trans KT3).trans KT4, B4, D4, fr_map F7 (fun z => ?_), N7⟩
    · rw [← hst]
      conv => rhs; unfold settle
      rw [if_neg ht, settle_fuel W src (src.length - i) (turn W src i) (src.length - i) (by omega) hg.2 (by omega)]
    · by_cases e1 : z = Str.ofString "pos"
      · subst e1; rfl
      · by_cases e2 : z = Str.ofString "src"
        · subst e2; rfl
        · simp [e1, e2]
end Mine
end
section
open PySem PySem.W PyProof.Rows PySem.Calls
set_option maxRecDepth 100000
namespace Mine
local macro_rules | `(tactic| k_steps) => `(tactic| repeat' (first | (k_unfold; (try dsimp only)) | ((fail_if_success (with_reducible show wpAny _ _ (exec (Stmt.While _ _ _ _) _) _ _ _)); (fail_if_success (with_reducible show wpAny _ _ (exec (Stmt.For _ _ _ _ _) _) _ _ _)); (fail_if_success (with_reducible show Exists _)); (fail_if_success (with_reducible show LeaveK _ _ _ _ _ _ _)); (fail_if_success (with_reducible show LeaveS _ _ _ _ _ _ _ _ _ _ _ _ _ _ _ _ _ _)); (fail_if_success (with_reducible show wpAny _ _ (call (Value.ref _) _ _) _ _ _)); (first | walk1 | (dsimp only; walk1)))))
set_option maxHeartbeats 8000000 in
theorem parse_ok {A A₀ : Around} {base h₀ : Heap} {outer : List Env} {env : Env} {L : Addr} {m mg mb : Str → Option Value} {news : List (Addr × Obj)} {s : Shared} {w : World} {p : Program} {loose : List Str} {mean : ExcName → Option Value} {Q : Value → Shared → Prop} {E : Value → Shared → Prop}
  {src : Str} {pos : Nat} {t1 t2 : Tok} {P : Str → Bool}
  (B : Below A₀ base outer h₀) (F : Fr h₀ L s.heap m) (XB : (K w.params).In base) (N : News h₀ L s.heap news) (TB : Top p loose mean mg mb base) (D : KtsDicts (outer.filterMap (·.frame)) h₀)
  (hA : A.frames = some (env :: outer)) (hf : env.frame = some L) (hke : env.scope.kind = .function) (hd : A.depth + 90 < recursionLimit) (hu : A.units + 600 < cLine) (hh : A.handled = none)
  (hS : StrSet base 36 P) (hz : src.length < 5000) (hp : pos + 1 ≤ src.length) (hq : spots 39 src (pos + 1) (src.length - (pos + 1)) ≠ [])
  (hdis : ∀ (i : Nat), pos + 1 ≤ i → i < nextAt 39 src (pos + 1) → ∀ (x : Nat), src.cps[i]? = some x → P ⟨#[x]⟩ = false)
  (h : ∀ h₀' h' tk u v a, KtsTurn (outer.filterMap (·.frame)) h₀ h₀' → Below A₀ base outer h₀' → KtsDicts (outer.filterMap (·.frame)) h₀' → Fr h₀' L h' m → News h₀' L h' ((a, tupObj [.int (nextAt 39 src (pos + 1) + 1 : Nat) u, .str (cut src (pos + 1) (nextAt 39 src (pos + 1))) v]) :: news) → (∀ q ∈ news, q.1 ≠ a) → Q (.ref a) { s with heap := h', toks := tk })
  : wpAny (model PR w) A (call (.ref 93) [.str src t1, .int pos t2]) Q E s := by
  revert XB; unfold PR; k_fill; intro XB
  refine wpAny_noRaise (wpAny_call ?_)
  refine code_defE (g₀ := h₀) (params := parsAt 12) (body := bodyAt 12) (scope := scopeAt 12) (binds := [(Str.ofString "src", .str src t1), (Str.ofString "pos", .int pos t2)]) B F (XB.keeps B.stays) N (TB.keeps B.stays) XB TB D KtsTurn.refl hA hf hke (show (K w.params).lookup 93 = some ob93 from rfl) (by rfl) (by omega) (BindsTo.of_eq (by rfl)) (locs (by rfl)) ?_ (by rfl) (by rfl) (by rfl) (by decide +kernel)
  intro g' L' h' FG' F' N' B' X' T' D'
  have hb : bodyAt 12 = bodyAt 12 := rfl
  conv at hb => rhs; whnf
  have hs : scopeAt 12 = scopeAt 12 := rfl
  conv at hs => rhs; whnf
  rw [hb, hs]
  clear hb hs
  dsimp only
  clear FG' F N 
  rw [lk2] at F'
  refine wpAny_noRaise ?_
  k_steps
  rename Fr _ _ _ _ => F3
  rename News _ _ _ _ => N3
  try dsimp only at F3 ⊢
  rw [show ((pos : Int) + 1) = ((pos + 1 : Nat) : Int) from by omega] at F3 ⊢
  rw [show Str.ofString "'" = ⟨#[39]⟩ from rfl]
  refine skip_until_ok (c := 39) (eof := true) (P := P) B' F3 XB N3 TB D' (by show A.frames.map _ = _; rw [hA]; rfl) rfl rfl (by show A.depth + 1 + 70 < _; omega) (by show A.units + 3 + 500 < _; omega) hh hS hz hp (.inr hq) hdis fun g3 h3 tk3 u3 KT3 B3 D3 F4 N4 => ?_
  clear F3 N3 X' T' B' D'
  have X3 : (K w.params).In g3 := XB.keeps B3.stays
  have T3 : Top p loose mean mg mb g3 := TB.keeps B3.stays
  dsimp only
  k_steps
  rename_i hlen _ h5 F5 N5 hlt
  have hn := next_ge (c := 39) hp
  rw [slice_cut hn.1 hn.2, show ((nextAt 39 src (pos + 1) : Nat) : Int) + 1 = ((nextAt 39 src (pos + 1) + 1 : Nat) : Int) from by omega] at N5
  exact leaveS_r F5 N5 KT3 fun h₀' KT' F N B X T D => h _ _ _ _ _ _ KT' B D F N fun q hq => Nat.ne_of_lt (hlt q hq)
set_option maxHeartbeats 8000000 in
theorem parse_raise {A A₀ : Around} {base h₀ : Heap} {outer : List Env} {env : Env} {L : Addr} {m mg mb : Str → Option Value} {rest : List (Addr × Obj)} {o : Option (Addr × Obj)} {s : Shared} {w : World} {p : Program} {loose : List Str} {mean : ExcName → Option Value} {Q : Value → Shared → Prop} {E : Value → Shared → Prop}
  {src : Str} {pos : Nat} {t1 t2 : Tok}
  (B : Below A₀ base outer h₀) (F : Fr h₀ L s.heap m) (XB : (K w.params).In base) (C : CodeHd base 99 95) (N : News h₀ L s.heap (tabN o ++ rest)) (ho : TabOk o) (TB : Top p loose mean mg mb base) (D : KtsDicts (outer.filterMap (·.frame)) h₀)
  (hA : A.frames = some (env :: outer)) (hf : env.frame = some L) (hke : env.scope.kind = .function) (hd : A.depth + 90 < recursionLimit) (hu : A.units + 600 < cLine) (hh : A.handled = none)
  (hoff : ∀ p ∈ rest, p.1 ≠ 95) (hz : src.length < 5000) (hp : pos + 1 ≤ src.length) (hno : spots 39 src (pos + 1) (src.length - (pos + 1)) = [])
  (h : ∀ h₀' G h' e t o' tk u, KtsTurn (outer.filterMap (·.frame)) h₀ h₀' → Below A₀ base outer h₀' → KtsDicts (outer.filterMap (·.frame)) h₀' → TabOk o' → Fr h₀' L G m → RaisedS base G (env :: outer) e (.ref 55) t [.str (errStr (Str.ofString "Expected \"'\"") src src.length) u] (tabN o' ++ rest) h' → G.UpToSlots h' → E (.ref e) { s with heap := h', toks := tk })
  : wpAny (model PR w) A (call (.ref 93) [.str src t1, .int pos t2]) Q E s := by
  revert XB; unfold PR; k_fill; intro XB
  refine wpAny_call ?_
  refine code_defE (g₀ := h₀) (params := parsAt 12) (body := bodyAt 12) (scope := scopeAt 12) (binds := [(Str.ofString "src", .str src t1), (Str.ofString "pos", .int pos t2)]) B F (XB.keeps B.stays) N (TB.keeps B.stays) XB TB D KtsTurn.refl hA hf hke (show (K w.params).lookup 93 = some ob93 from rfl) (by rfl) (by omega) (BindsTo.of_eq (by rfl)) (locs (by rfl)) ?_ (by rfl) (by rfl) (by rfl) (by decide +kernel)
  intro g' L' h' FG' F' N' B' X' T' D'
  have hb : bodyAt 12 = bodyAt 12 := rfl
  conv at hb => rhs; whnf
  have hs : scopeAt 12 = scopeAt 12 := rfl
  conv at hs => rhs; whnf
  rw [hb, hs]
  clear hb hs
  dsimp only
  clear F N 
  rw [lk2] at F'
  k_steps
  rename Fr _ _ _ _ => F3
  rename News _ _ _ _ => N3
  try dsimp only at F3 ⊢
  rw [show ((pos : Int) + 1) = ((pos + 1 : Nat) : Int) from by omega] at F3 ⊢
  refine skip_until_raise B' F3 XB C N3 ho TB D' (by show A.frames.map _ = _; rw [hA]; rfl) rfl rfl (by show A.depth + 1 + 70 < _; omega) (by show A.units + 3 + 500 < _; omega) hh hoff hz hp hno fun g3 G3 h3 e3 t3 o3 tk3 u3 KT3 B3 D3 ho3 FG3 R3 U3 => ?_
  refine leave_onS B3 FG3 R3 U3 fun h4 R4 _ U4 => ?_
  obtain ⟨h₀', KT0, F0, B0, D0⟩ := turn_down hf B FG' KT3 D
  exact h h₀' g3 h4 e3 t3 o3 _ _ KT0 B0 D0 ho3 F0 R4 U4
end Mine
end
section
open PySem PySem.W PyProof.Rows PySem.Calls Builtin Builtin.Str Builtin.BaseException
set_option maxRecDepth 100000
namespace Mine
/-- an exception of the own class with one text -/
noncomputable def ErrAt (h : Heap) (e : Addr) (m : Str) (tk : Tok) : Prop := ∃ o vs t0, h.get? e = some o ∧ o.cls = .ref 55 ∧ o.data = .fields vs ∧ vs[0]? = some (.ref t0) ∧ h.TupAt t0 [.str m tk]
theorem nstr54 (P : Params) : nsIn (K P) 54 (Str.ofString "__str__") = some none := by kernel_rfl
theorem mro_VE : mroOf (.type "ValueError") = pure [.type "ValueError", .type "Exception", .type "BaseException", .type "object"] := F.excBase_ValueError.mroIs
section
variable {prog : Program} {w : World} {A : Around} {E : Value → Shared → Prop} {s : Shared} {e : Addr} {m : Str} {tk : Tok} {P : Params}
theorem err_entry {Q : Fin → Shared → Prop} (x : ErrAt s.heap e m tk) (hq : Q (.done (.ret (.str m tk))) s) : wpAny (model prog w) A (Builtin.«BaseException.__str__» ⟨[.ref e], []⟩) Q E s := by
  obtain ⟨o, vs, t0, ho, _, hd, h0, ot, k, hto, _, htd⟩ := x
  have hb : ∀ Q' : Value × List Value → Shared → Prop, Q' (.ref t0, [.str m tk]) s → wpAny (model prog w) A (bexcArgs (.ref e)) Q' E s := fun Q' hq' => by
    unfold bexcArgs
    refine wpAny_bind (wpAny_field ho hd h0 (wpAny_bind (wpAny_seqItems hto htd ?_)))
    exact wpAny_pure hq'
  unfold Builtin.«BaseException.__str__»
  repeat (first | with_reducible refine hb _ ?_ | wp_step)
  exact hq
theorem err_check {M : Model} {Q : Unit → Shared → Prop} (X : (K P).In s.heap) (x : ErrAt s.heap e m tk) (hq : Q () s) : wpAny M A (checkBuiltinCall "BaseException.__str__" ⟨[.ref e], []⟩) Q E s := by
  obtain ⟨o, vs, t0, ho, hc, _⟩ := x
  obtain ⟨hp, g, d, t, os⟩ := s
  have hC : hp.get? 55 = some (excClassObj (Str.ofString "TOMLDecodeError") (Str.ofString "TOMLDecodeError") 55 54 [.type "ValueError"] [.type "ValueError", .type "Exception", .type "BaseException", .type "object"] true [] [] false none none (some (.ref 46)) none (some (.str (Str.ofString "TOMLDecodeError") 349)) (some (.str (Str.ofString "TOMLDecodeError") 357)) (some (.bool true)) "ValueError.__new__") := X _ _ rfl
  have hk : builtinKind "BaseException.__str__" = some .slot := by decide +kernel
  have hsplit : splitId "BaseException.__str__" = some ("BaseException", "__str__") := by decide +kernel
  have hcB : (Value.ref 55 :: [Value.type "ValueError", .type "Exception", .type "BaseException", .type "object"]).contains (.type "BaseException") = true := by decide
  have ha := F.args_bexc_str (.ref e)
  simp only [checkBuiltinCall, hk, hsplit]
  refine wpAny_bind ?_
  · unfold isInstance
    repeat (first | (with_reducible refine wpAny_loadPart_at ho ?_; rw [hc]) | (with_reducible refine wpAny_isSubtype_exc hC ?_; rw [hcB]) | wp_step)
    exact hq
theorem err_strOf {Q : Value → Shared → Prop} (X : (K P).In s.heap) (hu : A.units < cLine) (x : ErrAt s.heap e m tk) (hq : Q (.str m tk) s) : wpAny (model prog w) A (Builtin.Str.strOf (.ref e)) Q E s := by
  have x' := x
  obtain ⟨o, vs, t0, ho, hc, _⟩ := x'
  have hX : s.heap.get? 55 = some ob55 := X _ _ rfl
  have hn := nsMap_none_of_in X (ns54 P) (nstr54 P)
  have hN : s.heap.Ns 54 (s.heap.nsMap 54) := Heap.Ns.of_isNs (isNs_of_in X (ns54 P))
  have hsp : ∀ Q' : Option Value → Shared → Prop, Q' (some (.builtin "BaseException.__str__")) s → wpAny (model prog w) A (specialOf (.ref e) (Str.ofString "__str__")) Q' E s := fun Q' hq' => by
    obtain ⟨hp, g, d, t, os⟩ := s
    unfold specialOf
    refine wpAny_bind ?_
    unfold typeOf
    refine wpAny_bind (wpAny_loadPart_at ho ?_)
    refine wpAny_pure ?_
    rw [hc]
    refine wpAny_typeLookup_exc hX hN mro_VE F.excStr_ValueError.str.lookup ?_
    dsimp only at hn
    rw [hn]
    exact hq'
  have hcs : ∀ Q' : Option Value → Shared → Prop, Q' (some (.str m tk)) s → wpAny (model prog w) A (callSpecial? (.ref e) (Str.ofString "__str__")) Q' E s := fun Q' hq' => by
    unfold callSpecial?
    refine wpAny_bind (hsp _ ?_)
    refine wpAny_holding (wpAny_bind (wpAny_of_eq (F.excStr_ValueError.str.bind _) ?_))
    refine wpAny_bind (wpAny_call (codeAny_call_builtin F.excStr_ValueError.str.plain F.entry_bexc_str (err_check X x (err_entry x ?_))))
    exact wpAny_pure hq'
  unfold Builtin.Str.strOf
  repeat (first | with_reducible refine wpAny_cRoomFor hu ?_ | with_reducible refine hcs _ ?_ | wp_step)
  exact hq
theorem err_str {Q : Value → Shared → Prop} (X : (K P).In s.heap) (hu : A.units + 2 < cLine) (x : ErrAt s.heap e m tk) (h : Q (.str m tk) s) : wpAny (model prog w) A (call (.type "str") [.ref e]) Q E s :=
  callType_new F.called_str (by decide) (F.typeCall_str_1 _) (F.newCall_str_1 _) (fun obj => F.args_object_init_2 obj _) F.entry_str_new
    (meets_str_new (S := fun A' R s' => A'.units + 1 < cLine ∧ (K P).In s'.heap ∧ ErrAt s'.heap e m tk ∧ R (.ok (.ret (.str m tk))) s')
      fun _ _ A' _ _ hq => err_strOf (A := A'.in1) hq.2.1 hq.1 hq.2.2.1 hq.2.2.2)
    ⟨(show A.units + 1 + 1 < cLine from hu), X, x, typeIs_str _ _ _, h⟩
end
end Mine
end
section
open PySem PySem.W PyProof.Rows PySem.Calls
set_option maxRecDepth 100000
namespace Mine
local macro_rules | `(tactic| k_steps) => `(tactic| repeat' (first | (k_unfold; (try dsimp only)) | ((fail_if_success (with_reducible show wpAny _ _ (exec (Stmt.While _ _ _ _) _) _ _ _)); (fail_if_success (with_reducible show wpAny _ _ (exec (Stmt.For _ _ _ _ _) _) _ _ _)); (fail_if_success (with_reducible show Exists _)); (fail_if_success (with_reducible show LeaveK _ _ _ _ _ _ _)); (fail_if_success (with_reducible show LeaveS _ _ _ _ _ _ _ _ _ _ _ _ _ _ _ _ _ _)); (fail_if_success (with_reducible show wpAny _ _ (call (Value.ref _) _ _) _ _ _)); (first | walk1 | (dsimp only; walk1)))))
set_option maxHeartbeats 8000000 in
theorem refused_call {A A₀ : Around} {base h₀ : Heap} {outer : List Env} {env : Env} {L : Addr} {m mg mb : Str → Option Value} {rest : List (Addr × Obj)} {o : Option (Addr × Obj)} {s : Shared} {w : World} {p : Program} {loose : List Str} {mean : ExcName → Option Value} {Q : Value → Shared → Prop} {E : Value → Shared → Prop}
  {src : Str} {pos : Nat} {t1 t2 : Tok}
  (B : Below A₀ base outer h₀) (F : Fr h₀ L s.heap m) (XB : (K w.params).In base) (C : CodeHd base 99 95) (N : News h₀ L s.heap (tabN o ++ rest)) (ho : TabOk o) (TB : Top p loose mean mg mb base) (D : KtsDicts (outer.filterMap (·.frame)) h₀)
  (hA : A.frames = some (env :: outer)) (hf : env.frame = some L) (hke : env.scope.kind = .function) (hd : A.depth + 110 < recursionLimit) (hu : A.units + 700 < cLine) (hh : A.handled = none)
  (hoff : ∀ p ∈ rest, p.1 ≠ 95) (hz : src.length < 5000) (hp : pos + 1 ≤ src.length) (hno : spots 39 src (pos + 1) (src.length - (pos + 1)) = [])
  (h : ∀ h₀' h' o' tk u, KtsTurn (outer.filterMap (·.frame)) h₀ h₀' → Below A₀ base outer h₀' → KtsDicts (outer.filterMap (·.frame)) h₀' → TabOk o' → Fr h₀' L h' m → News h₀' L h' (tabN o' ++ rest) → Q (.str (errStr (Str.ofString "Expected \"'\"") src src.length) u) { s with heap := h', toks := tk })
  : wpAny (model PR w) A (call (.ref 147) [.str src t1, .int pos t2]) Q E s := by
  revert XB; unfold PR; k_fill; intro XB
  refine wpAny_noRaise (wpAny_call ?_)
  refine code_defE (g₀ := h₀) (params := parsAt 22) (body := bodyAt 22) (scope := scopeAt 22) (binds := [(Str.ofString "src", .str src t1), (Str.ofString "place", .int pos t2)]) B F (XB.keeps B.stays) N (TB.keeps B.stays) XB TB D KtsTurn.refl hA hf hke (show (K w.params).lookup 147 = some ob147 from rfl) (by rfl) (by omega) (BindsTo.of_eq (by rfl)) (locs (by rfl)) ?_ (by rfl) (by rfl) (by rfl) (by decide +kernel)
  intro g' L' h' FG' F' N' B' X' T' D'
  have hb : bodyAt 22 = bodyAt 22 := rfl
  conv at hb => rhs; whnf
  have hs : scopeAt 22 = scopeAt 22 := rfl
  conv at hs => rhs; whnf
  rw [hb, hs]
  clear hb hs
  dsimp only
  clear FG' F N 
  rw [lk2] at F'
  refine wpAny_noRaise ?_
  k_steps
  refine parse_raise B' F' XB C N' ho TB D' (by show A.frames.map _ = _; rw [hA]; rfl) rfl rfl (by show A.depth + 1 + 90 < _; omega) (by show A.units + 3 + 600 < _; omega) hh hoff hz hp hno fun g3 G3 h3 e3 t3 o3 tk3 u3 KT3 B3 D3 ho3 FG3 R3 U3 => ?_
  refine kts_lookS R3 FG3 B3 U3 D3 fun h4 R4 U4 => ?_
  refine hit_SB R4 FG3 B3 U4 XB TB D3 KT3 (test_name (c := .ref 55) (by kts_nm) (by kts_exm) rfl rfl (by decide)) fun h5 g5 news5 tk5 KT5 F5 N5 got N5' B5 X5 T5 D5 => ?_
  clear F' N' B' X' T' D'
  have herr : ErrAt h5 e3 (errStr (Str.ofString "Expected \"'\"") src src.length) u3 := by
    obtain ⟨oe, ot, ws, nt, hm1, hm2, h3, h4, h5', h6, h7⟩ := got
    exact ⟨oe, ws, t3, (N5 _ hm1).1, h3, h4, h5', ot, nt, (N5 _ hm2).1, h6, h7⟩
  dsimp only at F5 ⊢
  k_steps
  refine err_str (X5.keeps F5.keep) (by show A.units + 3 + 2 < _; omega) herr ?_
  clear N5 got herr
  k_steps
  rename News _ _ _ _ => N7
  rename Fr _ _ _ _ => F7
  exact leaveS_r F7 N7 KT5 fun h₀' KT' F N B X T D => h _ _ _ _ _ KT' B D ho3 F N
end Mine
end
section
open PySem PySem.W PyProof.Rows PySem.Calls
set_option maxRecDepth 100000
namespace Mine
/-- a list's iterator at place i -/
noncomputable def IterOf (o : Obj) (l : Addr) (i : Nat) : Prop := o.cls = .type "list_iterator" ∧ o.data = .fields #[.ref l, .int (i : Nat) 0]
section
variable {prog : Program} {w : World} {A : Around} {E : Value → Shared → Prop} {s : Shared}
theorem owned_list {target : PySem.Expr} {it : Addr} {o : Obj} {vs : Array Value} {v : Value} {Q : Unit → Shared → Prop} (ho : s.heap.get? it = some o) (hc : o.cls = .type "list_iterator") (hd : o.data = .fields vs) (h : Q () s) :
    wpAny (model prog w) A (letOwnedTupleGo target (.ref it) v) Q E s := by
  unfold letOwnedTupleGo
  split
  all_goals first | exact wpAny_pure h | skip
  all_goals
    cases v
    case ref a =>
      refine wpAny_bind (wpAny_load ho ?_)
      rw [hc, hd]
      dsimp only
      rw [if_neg (by
        have : (["enumerate", "zip", "dict_itemiterator", "dict_reverseitemiterator", "odict_iterator", "itertools.zip_longest", "itertools.pairwise"].contains "list_iterator") = false := by decide
        rw [this]; simp)]
      exact wpAny_pure h
    all_goals exact wpAny_pure h
theorem for_go {target : PySem.Expr} {body : List Stmt} {env : Env} {L it : Addr} {vs : List Value} {Q : Flow → Shared → Prop} (hh : A.handled = none) (I : Nat → Shared → Prop)
    (turn : ∀ i s, I i s → ∃ g m news l ep oi, Fr g L s.heap m ∧ News g L s.heap ((it, oi) :: news) ∧ IterOf oi l i ∧ (l, listOf vs.toArray ep) ∈ news ∧ (∀ q ∈ news, q.1 ≠ it) ∧
      (∀ v, vs[i]? = some v → ∀ h' oi', IterOf oi' l (i + 1) → Fr g L h' m → News g L h' ((it, oi') :: news) →
        wpAny (model prog w) A (assign target env v) (fun _ s₂ => wpAny (model prog w) A (execs body env) (fun f s₃ => match f with
          | .next | .cont => I (i + 1) s₃
          | .brk => Q .next s₃
          | .ret v => Q (.ret v) s₃) (fun _ _ => False) s₂) (fun _ _ => False) { s with heap := h' }) ∧
      (vs[i]? = none → ∀ h', Fr g L h' m → News g L h' news → Q .next { s with heap := h' }))
    (h : I 0 s) :
    codeAny (model prog w) A (.forLoop target (.ref it) body [] env) (fun r s' => match r with | .ok f => Q f s' | .error e => cameBackBy (model prog w) A env E e s') s := by
  refine codeAny_forLoop_any (fun n s => ∃ i, n = vs.length + 1 - i ∧ i ≤ vs.length ∧ I i s) ?_ (vs.length + 1) ⟨0, rfl, Nat.zero_le _, h⟩
  rintro n s ⟨i, rfl, hi, hI⟩
  obtain ⟨g, m, news, l, ep, oi, F, N, hoi, hl, hoff, hstep, hend⟩ := turn i s hI
  have hlist : s.heap.IsList l vs.toArray := ⟨_, (N _ (.tail _ hl)).1, rfl, ep, rfl⟩
  have hn := N (it, oi) (.head _)
  have hit : s.heap.IsListIter it l i := ⟨oi, hn.1, hoi.1, hoi.2⟩
  have hlit : l ≠ it := hoff _ hl
  cases hv : vs[i]? with
  | none =>
    refine wpAny_pyNext_list_end hh hit hlist (by simpa using hv) fun h' hx => ?_
    refine wpAny_execs_nil (hend hv h' ⟨?_, fun b o q => hx b o (fun z => by rw [z, hn.2.2] at q; cases q) (F.keep b o q), F.above⟩ fun q hq => ⟨hx _ _ (hoff q hq) (N q (.tail _ hq)).1, (N q (.tail _ hq)).2⟩)
    obtain ⟨oL, es, e2, hL, r⟩ := F.ns
    exact ⟨oL, es, e2, hx _ _ (Ne.symm hn.2.1) hL, r⟩
  | some v =>
    have hlt : i < vs.length := (List.getElem?_eq_some_iff.mp hv).1
    refine wpAny_pyNext_list_item hit hlist (x := v) (by simpa using hv) fun h' hit' hsb => ?_
    obtain ⟨oi', hoi', hc', hd'⟩ := hit'
    refine owned_list (s := { s with heap := h' }) hoi' hc' hd' ?_
    refine wpAny_noRaise (wpAny_mono (hstep v hv h' oi' ⟨hc', hd'⟩ (F.change hsb hn.2.1 hn.2.2) fun q hq => ?_) (fun _ s₂ h₂ => wpAny_noRaise (wpAny_mono h₂ (fun f s₃ h₃ => ?_) fun _ _ z => z)) fun _ _ z => z)
    · rcases List.mem_cons.mp hq with rfl | hq
      · exact ⟨hoi', hn.2⟩
      · exact ⟨(hsb.2 q.1 (hoff q hq)).trans (N q (.tail _ hq)).1, (N q (.tail _ hq)).2⟩
    · cases f with
      | next => exact ⟨_, (by omega), i + 1, rfl, by omega, h₃⟩
      | cont => exact ⟨_, (by omega), i + 1, rfl, by omega, h₃⟩
      | brk => exact h₃
      | ret v => exact h₃
theorem for_list {target iter : PySem.Expr} {body : List Stmt} {pos : Pos} {env : Env} {L : Addr} {vs : List Value} {Q : Flow → Shared → Prop} (hh : A.handled = none)
    (h : wpAny (model prog w) A (eval iter env) (fun xv s₁ => ∃ g m news l ep, xv = .ref l ∧ Fr g L s₁.heap m ∧ News g L s₁.heap news ∧ (l, listOf vs.toArray ep) ∈ news ∧
      ∀ it, (∀ q ∈ news, q.1 ≠ it) → ∃ I : Nat → Shared → Prop, (∀ h' oi, IterOf oi l 0 → Fr g L h' m → News g L h' ((it, oi) :: news) → I 0 { s₁ with heap := h' }) ∧
      ∀ i s, I i s → ∃ g m news l ep oi, Fr g L s.heap m ∧ News g L s.heap ((it, oi) :: news) ∧ IterOf oi l i ∧ (l, listOf vs.toArray ep) ∈ news ∧ (∀ q ∈ news, q.1 ≠ it) ∧
      (∀ v, vs[i]? = some v → ∀ h' oi', IterOf oi' l (i + 1) → Fr g L h' m → News g L h' ((it, oi') :: news) →
        wpAny (model prog w) A (assign target env v) (fun _ s₂ => wpAny (model prog w) A (execs body env) (fun f s₃ => match f with
          | .next | .cont => I (i + 1) s₃
          | .brk => Q .next s₃
          | .ret v => Q (.ret v) s₃) (fun _ _ => False) s₂) (fun _ _ => False) { s with heap := h' }) ∧
      (vs[i]? = none → ∀ h', Fr g L h' m → News g L h' news → Q .next { s with heap := h' })) E s)
    (hs : ∀ x, foldedSetIterable iter env x = pure x := by intro _; rfl) :
    wpAny (model prog w) A (exec (.For target iter body [] pos) env) Q E s := by
  refine wpAny_For (wpAny_mono h (fun xv s₁ h₁ => ?_) fun _ _ z => z) hs
  obtain ⟨g, m, news, l, ep, rfl, F, N, hl, hgo⟩ := h₁
  have hlist : s₁.heap.IsList l vs.toArray := ⟨_, (N _ hl).1, rfl, ep, rfl⟩
  obtain ⟨I, hI0, turn⟩ := hgo s₁.heap.objs.size fun q hq => Nat.ne_of_lt (Heap.lt_size (N q hq).1)
  refine wpAny_pyIter_list hlist (for_go hh I turn (hI0 _ { cls := .type "list_iterator", data := .fields #[.ref l, .int 0 0] } ⟨rfl, rfl⟩ (F.grownK fun b o q => Heap.get?_push_of_some _ q) fun q hq => ?_))
  rcases List.mem_cons.mp hq with rfl | hq
  · exact ⟨Heap.get?_push_size _ rfl, (Nat.ne_of_lt F.ns.lt).symm, Heap.get?_none_of_le (Nat.le_trans F.above (Nat.le_of_lt F.ns.lt))⟩
  · exact ⟨Heap.get?_push_of_some _ (N q hq).1, (N q hq).2⟩
end
end Mine
end
section
open PySem PySem.W PyProof.Rows PySem.Calls
set_option maxRecDepth 100000
namespace Mine
/-- a comprehension's own names -/
noncomputable def NsOf (o : Obj) (m : Str → Option Value) : Prop := ∃ es ep, o.data = .dict es ep ∧ (∀ h' a, h'.get? a = some o → Heap.Ns h' a m)
section
variable {prog : Program} {w : World} {A : Around} {E : Value → Shared → Prop} {s : Shared}
theorem ns_of {h : Heap} {a : Addr} {m : Str → Option Value} (x : h.Ns a m) : ∃ o, h.get? a = some o ∧ NsOf o m := by
  obtain ⟨o, es, ep, ho, hd, hk, hf⟩ := x
  exact ⟨o, ho, es, ep, hd, fun h' a' e => ⟨o, es, ep, e, hd, hk, hf⟩⟩
/-- a list comprehension over a list of the ledger; the body may do as it likes -/
theorem comp_list {elt target iter : PySem.Expr} {scope : Scope} {cl : List (Str × Addr)} {pos : Pos} {env : Env} {L : Addr} {vs : List Value} {Q : Value → Shared → Prop} (hh : A.handled = none)
    (hclos : closureFor scope env = pure cl) (hcell : ∀ y ∈ scope.names, y.2 ≠ .cell) (hkind : scope.kind = .function) (hnames : ∀ y ∈ scope.names, y.2 = .local → scope.names.lookup y.1 = some .local)
    (h : wpAny (model prog w) A (eval iter env) (fun xv s₁ => ∃ g m news l ep, xv = .ref l ∧ Fr g L s₁.heap m ∧ News g L s₁.heap news ∧ (l, listOf vs.toArray ep) ∈ news ∧
      ∀ it D C, (∀ q ∈ news, q.1 < it) → it < D → D < C → ∃ I : Nat → Shared → Prop,
      (∀ h' tk oi oC, IterOf oi l 0 → NsOf oC (fun _ => none) → Fr g L h' m → News g L h' ((it, oi) :: (D, listOf #[] 0) :: (C, oC) :: news) → I 0 { s₁ with heap := h', toks := tk }) ∧
      ∀ i s, I i s → ∃ g m news l ep oi oD oC mC, Fr g L s.heap m ∧ News g L s.heap ((it, oi) :: (D, oD) :: (C, oC) :: news) ∧ IterOf oi l i ∧ NsOf oC mC ∧ (l, listOf vs.toArray ep) ∈ news ∧ (∀ q ∈ news, q.1 ≠ it ∧ q.1 ≠ C) ∧
      (∀ v, vs[i]? = some v → ∀ h' oi', IterOf oi' l (i + 1) → Fr g L h' m → News g L h' ((it, oi') :: (D, oD) :: (C, oC) :: news) →
        wpAny (model prog w) A (assign target (compEnvC scope cl C env) v) (fun _ s₂ => wpAny (model prog w) A (eval elt (compEnvC scope cl C env)) (fun y s₃ =>
          wpAny (model prog w) A (call (.builtin "list.append") [.ref D, y]) (fun _ s₄ => I (i + 1) s₄) (fun _ _ => False) s₃) (fun _ _ => False) s₂) (fun _ _ => False) { s with heap := h' }) ∧
      (vs[i]? = none → ∀ h', Fr g L h' m → News g L h' ((D, oD) :: news) → Q (.ref D) { s with heap := h' })) E s)
    (hs : ∀ x, foldedSetIterable iter env x = pure x := by intro _; rfl) :
    wpAny (model prog w) A (eval (.ListComp elt [⟨target, iter, [], 0⟩] scope pos) env) Q E s := by
  rw [eval_ListComp]
  refine wpAny_comprehension_free (use := none) rfl hs hclos hkind hnames (wpAny_mono h (fun xv s₁ h₁ => ?_) fun _ _ e => e)
  obtain ⟨g, m, news, l, ep, rfl, F, N, hl, hgo⟩ := h₁
  have hlist : s₁.heap.IsList l vs.toArray := ⟨_, (N _ hl).1, rfl, ep, rfl⟩
  refine wpAny_pyIter_list hlist ?_
  refine wpAny_newObj_type ?_
  refine wpAny_newFunctionEnv hcell (by intro y hy; simp at hy) (fun h₁ hns₁ hsb₁ => ?_) hkind
  dsimp only at hns₁ hsb₁ ⊢
  generalize hIt : s₁.heap.push { cls := .type "list_iterator", data := .fields #[.ref l, .int 0 0] } = H1 at hns₁ hsb₁ ⊢
  generalize hH2 : H1.push { cls := .type "list", dict := none, data := .seq ([] : List Value).toArray } = H2 at hns₁ hsb₁ ⊢
  have s1 : H1.objs.size = s₁.heap.objs.size + 1 := by rw [← hIt, Heap.size_push]
  have s2 : H2.objs.size = H1.objs.size + 1 := by rw [← hH2, Heap.size_push]
  have n12 : s₁.heap.objs.size < H1.objs.size := by omega
  have n23 : H1.objs.size < H2.objs.size := by omega
  have n13 : s₁.heap.objs.size < H2.objs.size := by omega
  obtain ⟨oC, hgC, hoC⟩ := ns_of hns₁
  have keep : ∀ b o, s₁.heap.get? b = some o → h₁.get? b = some o := fun b o e => hsb₁.extBut b o (Nat.ne_of_lt (Nat.lt_trans (Heap.lt_size e) n13)) (Heap.get?_push_of_some _ (hH2 ▸ Heap.get?_push_of_some _ (hIt ▸ Heap.get?_push_of_some _ e)))
  have hgI : h₁.get? s₁.heap.objs.size = some { cls := .type "list_iterator", data := .fields #[.ref l, .int 0 0] } := hsb₁.extBut _ _ (Nat.ne_of_lt n13) (Heap.get?_push_of_some _ (hH2 ▸ Heap.get?_push_of_some _ (hIt ▸ Heap.get?_push_size _ rfl)))
  have hgD : h₁.get? H1.objs.size = some (listOf #[] 0) := hsb₁.extBut _ _ (Nat.ne_of_lt n23) (Heap.get?_push_of_some _ (hH2 ▸ Heap.get?_push_size _ rfl))
  have hLlt : L < s₁.heap.objs.size := F.ns.lt
  have fresh : ∀ b, s₁.heap.objs.size ≤ b → g.get? b = none := fun b hb => Heap.get?_none_of_le (Nat.le_trans F.above (Nat.le_trans (Nat.le_of_lt hLlt) hb))
  have N₁ : News g L h₁ ((s₁.heap.objs.size, { cls := .type "list_iterator", data := .fields #[.ref l, .int 0 0] }) :: (H1.objs.size, listOf #[] 0) :: (H2.objs.size, oC) :: news) := fun q hq => by
    rcases List.mem_cons.mp hq with rfl | hq
    · exact ⟨hgI, Ne.symm (Nat.ne_of_lt hLlt), fresh _ (Nat.le_refl _)⟩
    · rcases List.mem_cons.mp hq with rfl | hq
      · exact ⟨hgD, Ne.symm (Nat.ne_of_lt (Nat.lt_trans hLlt n12)), fresh _ (Nat.le_of_lt n12)⟩
      · rcases List.mem_cons.mp hq with rfl | hq
        · exact ⟨hgC, Ne.symm (Nat.ne_of_lt (Nat.lt_trans hLlt n13)), fresh _ (Nat.le_of_lt n13)⟩
        · exact ⟨keep _ _ (N q hq).1, (N q hq).2⟩
  obtain ⟨I, hI0, turn⟩ := hgo s₁.heap.objs.size H1.objs.size H2.objs.size (fun q hq => Heap.lt_size (N q hq).1) n12 n23
  have hI := hI0 h₁ (s₁.toks + ([] : List (Str × Value)).length) _ oC ⟨rfl, rfl⟩ hoC (F.grownK keep) N₁
  clear hI0 hgo
  have loop : ∀ s₃ : Shared, I 0 s₃ → codeAny (model prog w) A (.compLoop (.ListComp elt [⟨target, iter, [], 0⟩] scope pos) 0 (.ref s₁.heap.objs.size) (.ref H1.objs.size) (compEnvC scope cl H2.objs.size env))
      (compPost (model prog w) A E none Q (.ref H1.objs.size) H2.objs.size) s₃ := by
    intro s₃ hs₃
    refine codeAny_loop rfl (fun n s => ∃ i, n = vs.length + 1 - i ∧ i ≤ vs.length ∧ I i s) ?_ (vs.length + 1) ⟨0, rfl, Nat.zero_le _, hs₃⟩
    rintro n s ⟨i, rfl, hi, hIi⟩
    obtain ⟨g, m, news, l, ep, oi, oD, oC, mC, F, N, hoi, hoC, hl, hoff, hstep, hend⟩ := turn i s hIi
    have hlist : s.heap.IsList l vs.toArray := ⟨_, (N _ (.tail _ (.tail _ (.tail _ hl)))).1, rfl, ep, rfl⟩
    have hn := N (s₁.heap.objs.size, oi) (.head _)
    have hnD := N (H1.objs.size, oD) (.tail _ (.head _))
    have hnC := N (H2.objs.size, oC) (.tail _ (.tail _ (.head _)))
    have hit : s.heap.IsListIter s₁.heap.objs.size l i := ⟨oi, hn.1, hoi.1, hoi.2⟩
    show wpAny _ _ ((compTurn (.ListComp elt [⟨target, iter, [], 0⟩] scope pos) 0 (.ref s₁.heap.objs.size) (.ref H1.objs.size) (compEnvC scope cl H2.objs.size env)).onRaise (fun x => do noteFrame x (compEnvC scope cl H2.objs.size env); theTreesLotGoes x)) _ _ s
    refine wpAny_noted ?_
    rw [compTurn_list1]
    cases hv : vs[i]? with
    | none =>
      refine wpAny_bind (wpAny_standAt (wpAny_bind (wpAny_pyNext_list_end hh hit hlist (by simpa using hv) fun h' hx => wpAny_pure ?_)))
      obtain ⟨oL, es, e2, hL, r⟩ := F.ns
      obtain ⟨_, _, _, hnsC⟩ := hoC
      refine ⟨mC, hnsC _ _ (hx _ _ (Ne.symm (Nat.ne_of_lt n13)) hnC.1), fun h'' hs'' => hend hv h'' ⟨⟨oL, es, e2, (hs''.2 L (fun z => hnC.2.1 z.symm)).trans (hx _ _ (Ne.symm hn.2.1) hL), r⟩, fun b o q => ?_, F.above⟩ fun q hq => ?_⟩
      · exact (hs''.2 b (fun z => by rw [z, hnC.2.2] at q; cases q)).trans (hx b o (fun z => by rw [z, hn.2.2] at q; cases q) (F.keep b o q))
      · rcases List.mem_cons.mp hq with rfl | hq
        · exact ⟨(hs''.2 _ (Nat.ne_of_lt n23)).trans (hx _ _ (Ne.symm (Nat.ne_of_lt n12)) hnD.1), hnD.2⟩
        · have z := N q (.tail _ (.tail _ (.tail _ hq)))
          exact ⟨(hs''.2 _ (hoff q hq).2).trans (hx _ _ (hoff q hq).1 z.1), z.2⟩
    | some v =>
      have hlt : i < vs.length := (List.getElem?_eq_some_iff.mp hv).1
      refine wpAny_bind (wpAny_standAt (wpAny_bind (wpAny_pyNext_list_item hit hlist (x := v) (by simpa using hv) fun h' hit' hsb => ?_)))
      obtain ⟨oi', hoi', hc', hd'⟩ := hit'
      refine wpAny_bind (owned_list (s := { s with heap := h' }) hoi' hc' hd' ?_)
      have hst := hstep v hv h' oi' ⟨hc', hd'⟩ (F.change hsb hn.2.1 hn.2.2) fun q hq => by
        rcases List.mem_cons.mp hq with rfl | hq
        · exact ⟨hoi', hn.2⟩
        · rcases List.mem_cons.mp hq with rfl | hq
          · exact ⟨(hsb.2 _ (Ne.symm (Nat.ne_of_lt n12))).trans hnD.1, hnD.2⟩
          · rcases List.mem_cons.mp hq with rfl | hq
            · exact ⟨(hsb.2 _ (Ne.symm (Nat.ne_of_lt n13))).trans hnC.1, hnC.2⟩
            · have z := N q (.tail _ (.tail _ (.tail _ hq)))
              exact ⟨(hsb.2 q.1 (hoff q hq).1).trans z.1, z.2⟩
      refine wpAny_noRaise (wpAny_bind (wpAny_mono hst (fun _ s₂ h₂ => wpAny_bind (wpAny_bind (wpAny_mono h₂ (fun y s₃ h₃ => wpAny_bind (wpAny_mono h₃ (fun _ s₄ h₄ => wpAny_pure (wpAny_pure ?_)) fun _ _ z => z)) fun _ _ z => z))) fun _ _ z => z))
      exact ⟨rfl, _, by omega, i + 1, rfl, by omega, h₄⟩
  exact codeAny_compStart_list (loop _ hI) (wpAny_pyIter_listiter (l := l) (i := 0) ⟨_, hgI, rfl, rfl⟩ (loop _ hI))
end
end Mine
end
section
open PySem PySem.W PyProof.Rows PySem.Calls
set_option maxRecDepth 100000
namespace Mine
theorem allLt_at {d : Nat} {l : List (Addr × Obj)} (h : AllLt d l) : ∀ p ∈ l, p.1 < d := by
  induction l with
  | nil => intro p hp; cases hp
  | cons q r ih =>
    intro p hp
    rcases List.mem_cons.mp hp with rfl | hp
    · exact h.1
    · exact ih h.2 p hp
/-- the test of the comprehension, as a word on values -/
noncomputable def leAt (told : List RowD) (r : RowD) (v : Value) : Bool := match told.find? (fun q => q.val == v) with | some q => rowLe q r | none => false
theorem leAt_of {told : List RowD} {r q : RowD} (hq : q ∈ told) (hd : ∀ a ∈ told, ∀ b ∈ told, a.adr = b.adr → a = b) : leAt told r q.val = rowLe q r := by
  unfold leAt
  cases hf : told.find? (fun z => z.val == q.val) with
  | none => have := List.find?_eq_none.mp hf q hq; simp at this
  | some z =>
    have h1 := List.mem_of_find?_eq_some hf
    have h2 := List.find?_some hf
    have : z.adr = q.adr := by simpa using h2
    rw [hd z h1 q hq this]
theorem filter_leAt {told : List RowD} {r : RowD} (hd : ∀ a ∈ told, ∀ b ∈ told, a.adr = b.adr → a = b) : ∀ l : List RowD, (∀ q ∈ l, q ∈ told) → (l.map RowD.val).filter (leAt told r) = (l.filter (rowLe · r)).map RowD.val
  | [], _ => rfl
  | q :: l, hl => by
    have ih := filter_leAt (r := r) hd l fun z hz => hl z (.tail _ hz)
    rw [List.map_cons, List.filter_cons, List.filter_cons, leAt_of (hl q (.head _)) hd, ih]
    split <;> rfl
theorem paired_eq {l : List Value} {ys : List Value} (h : Paired (fun v y => y = v) l ys) : ys = l := by
  induction h with
  | nil => rfl
  | cons h _ ih => rw [h, ih]
/-- one row laid among the risen ones -/
noncomputable def layIn (told : List RowD) (r : RowD) : List RowD := told.take (told.filter (rowLe · r)).length ++ [r] ++ told.drop (told.filter (rowLe · r)).length
noncomputable def rise (rs : List RowD) : List RowD := rs.foldl layIn []
theorem layIn_perm (told : List RowD) (r : RowD) : (layIn told r).Perm (told ++ [r]) := by
  unfold layIn
  have h := List.take_append_drop (told.filter (rowLe · r)).length told
  generalize (told.filter (rowLe · r)).length = k at h ⊢
  rw [List.append_assoc]
  refine (List.Perm.append_left _ List.perm_append_comm).trans ?_
  rw [← List.append_assoc, h]
theorem fold_perm : ∀ (l acc : List RowD), (l.foldl layIn acc).Perm (acc ++ l)
  | [], acc => by simp
  | r :: l, acc => by
    rw [List.foldl_cons]
    refine (fold_perm l (layIn acc r)).trans ?_
    refine (List.Perm.append_right _ (layIn_perm acc r)).trans ?_
    simp
theorem row_inj {h : Heap} {a b : RowD} (ha : h.get? a.adr = some a.obj) (hb : h.get? b.adr = some b.obj) (e : a.adr = b.adr) : a = b := by
  rw [e, hb] at ha
  obtain ⟨aa, aw, as', ae, atw, ats, ate, aep⟩ := a
  obtain ⟨ba, bw, bs, be, btw, bts, bte, bep⟩ := b
  simp only [RowD.obj, RowD.its, Option.some.injEq, Obj.mk.injEq, true_and, and_true, Data.seq.injEq] at ha
  obtain ⟨h1, h2⟩ := ha
  simp only [Array.mk.injEq, List.cons.injEq, Value.str.injEq, Value.int.injEq, and_true] at h1
  obtain ⟨⟨h3, h4⟩, ⟨h5, h6⟩, h7, h8⟩ := h1
  subst h2 h3 h4 h5 h6 h7 h8
  simp only at e
  rw [e]
local macro_rules | `(tactic| k_steps) => `(tactic| repeat' (first | (k_unfold; (try dsimp only)) | ((fail_if_success (with_reducible show wpAny _ _ (exec (Stmt.While _ _ _ _) _) _ _ _)); (fail_if_success (with_reducible show wpAny _ _ (exec (Stmt.For _ _ _ _ _) _) _ _ _)); (fail_if_success (with_reducible show Exists _)); (fail_if_success (with_reducible show LeaveK _ _ _ _ _ _ _)); (fail_if_success (with_reducible show LeaveS _ _ _ _ _ _ _ _ _ _ _ _ _ _ _ _ _ _)); (fail_if_success (with_reducible show wpAny _ _ (call (Value.ref _) _ _) _ _ _)); (first | walk1 | (dsimp only; walk1)))))
set_option maxHeartbeats 8000000 in
theorem rising_call {A A₀ : Around} {base h₀ : Heap} {outer : List Env} {env : Env} {L l : Addr} {m mg mb : Str → Option Value} {news : List (Addr × Obj)} {rs : List RowD} {n : Nat} {s : Shared} {w : World} {p : Program} {loose : List Str} {mean : ExcName → Option Value} {Q : Value → Shared → Prop} {E : Value → Shared → Prop}
  (B : Below A₀ base outer h₀) (F : Fr h₀ L s.heap m) (X : (K w.params).In h₀) (N : News h₀ L s.heap news) (T : Top p loose mean mg mb h₀)
  (hA : A.frames = some (env :: outer)) (hf : env.frame = some L) (hke : env.scope.kind = .function) (hd : A.depth + 40 < recursionLimit) (hu : A.units + 300 < cLine) (hh : A.handled = none)
  (hl : (l, listOf (rs.map RowD.val).toArray n) ∈ news) (hrow : ∀ r ∈ rs, (r.adr, r.obj) ∈ news) (hz : rs.length < 800)
  (h : ∀ h' tk l' n', Fr h₀ L h' m → News h₀ L h' ((l', listOf ((rise rs).map RowD.val).toArray n') :: news) → (∀ q ∈ news, q.1 ≠ l') → Q (.ref l') { s with heap := h', toks := tk })
  : wpAny (model PR w) A (call (.ref 152) [.ref l]) Q E s := by
  revert X; unfold PR; k_fill; intro X
  refine wpAny_noRaise (wpAny_call ?_)
  refine code_defC (params := parsAt 23) (body := bodyAt 23) (scope := scopeAt 23) (binds := [(Str.ofString "rows", .ref l)]) B F X N T hA hf hke (show (K w.params).lookup 152 = some ob152 from rfl) (by rfl) (by omega) (BindsTo.of_eq (by rfl)) (by rfl) (by decide +kernel) ?_ (by rfl) (by rfl) (by rfl)
  intro g' L' h' tk' cells' FG' F' N' Y' B' X' T' l1
  have hb : bodyAt 23 = bodyAt 23 := rfl
  conv at hb => rhs; whnf
  have hs : scopeAt 23 = scopeAt 23 := rfl
  conv at hs => rhs; whnf
  rw [hs] at F' Y' ⊢
  rw [hb]
  clear hb hs
  dsimp only at F' Y' ⊢
  k_cells Y'
  simp only [List.cons_append, List.nil_append] at N'
  clear FG' F N B T X
  refine wpAny_noRaise ?_
  k_steps
  rename_i lt _ hlt h3 F3 N3
  have hcn : ∀ q ∈ news, q.1 ≠ L' + 1 := fun q hq => Nat.ne_of_lt (Nat.lt_succ_of_lt (l1 q hq))
  refine for_list (L := L') (vs := rs.map RowD.val) hh ?_
  k_steps
  refine ⟨g', _, _, l, n, rfl, F3, N3, .tail _ (.tail _ hl), fun it hit => ?_⟩
  have hni : ∀ q ∈ news, q.1 ≠ it := fun q hq => hit q (.tail _ (.tail _ hq))
  have hci : (L' + 1 : Addr) ≠ it := hit _ (.tail _ (.head _))
  obtain ⟨Inv, toInv, ofInv⟩ : ∃ Inv : Nat → Shared → Prop, (∀ i s', (∃ lt nt oc v0 oi h2 tk, ∃ f : Str → Option Value, s' = { s with heap := h2, toks := tk } ∧ Fr g' L' h2 (fun z => if z = Str.ofString "told" then some (.ref lt) else if z = Str.ofString "rows" then some (.ref l) else f z) ∧
    News g' L' h2 ((it, oi) :: (L' + 1, oc) :: (lt, listOf (((rs.take i).foldl layIn []).map RowD.val).toArray nt) :: news) ∧ IterOf oi l i ∧ oc.data = .cell v0 ∧ (∀ q ∈ (L' + 1, oc) :: news, q.1 ≠ lt) ∧ lt ≠ it) → Inv i s') ∧ ∀ i s', Inv i s' → (∃ lt nt oc v0 oi h2 tk, ∃ f : Str → Option Value, s' = { s with heap := h2, toks := tk } ∧ Fr g' L' h2 (fun z => if z = Str.ofString "told" then some (.ref lt) else if z = Str.ofString "rows" then some (.ref l) else f z) ∧
    News g' L' h2 ((it, oi) :: (L' + 1, oc) :: (lt, listOf (((rs.take i).foldl layIn []).map RowD.val).toArray nt) :: news) ∧ IterOf oi l i ∧ oc.data = .cell v0 ∧ (∀ q ∈ (L' + 1, oc) :: news, q.1 ≠ lt) ∧ lt ≠ it) :=
    ⟨fun i s' => ∃ lt nt oc v0 oi h2 tk, ∃ f : Str → Option Value, s' = { s with heap := h2, toks := tk } ∧ Fr g' L' h2 (fun z => if z = Str.ofString "told" then some (.ref lt) else if z = Str.ofString "rows" then some (.ref l) else f z) ∧
    News g' L' h2 ((it, oi) :: (L' + 1, oc) :: (lt, listOf (((rs.take i).foldl layIn []).map RowD.val).toArray nt) :: news) ∧ IterOf oi l i ∧ oc.data = .cell v0 ∧ (∀ q ∈ (L' + 1, oc) :: news, q.1 ≠ lt) ∧ lt ≠ it, fun _ _ x => x, fun _ _ x => x⟩
  refine ⟨Inv, ?_, ?_⟩
  · intro h4 oi hoi F4 N4
    refine toInv _ _ ⟨lt, 0, _, _, oi, h4, _, fun _ => none, rfl, fr_map F4 (fun z => ?_), news_sub N4 (fun q hq => ?_), hoi, (by assumption), (fun q hq => ?_), hit _ (.head _)⟩
    · rfl
    · rcases List.mem_cons.mp hq with rfl | hq
      · exact .head _
      · rcases List.mem_cons.mp hq with rfl | hq
        · exact .tail _ (.tail _ (.head _))
        · rcases List.mem_cons.mp hq with rfl | hq
          · exact .tail _ (.head _)
          · exact .tail _ (.tail _ (.tail _ hq))
    · rcases List.mem_cons.mp hq with rfl | hq
      · exact Nat.ne_of_lt hlt.1
      · exact Nat.ne_of_lt (allLt_at hlt.2 q hq)
  · intro i s' hInv
    obtain ⟨lt, nt, oc, v0, oi, h2, tk2, f, rfl, F4, N4, hoi, hoc, hlt', hlti⟩ := ofInv i s' hInv
    clear hInv
    refine ⟨g', _, _, l, n, oi, F4, N4, hoi, .tail _ (.tail _ hl), (fun q hq => ?_), ?_, ?_⟩
    · rcases List.mem_cons.mp hq with rfl | hq
      · exact hci
      · rcases List.mem_cons.mp hq with rfl | hq
        · exact hlti
        · exact hni q hq
    · intro v hv h5 oi' hoi' F5 N5
      clear F4 N4
      k_steps
      refine storeX_C (g := fun o => (it, oi') :: (L' + 1, o) :: (lt, listOf (((rs.take i).foldl layIn []).map RowD.val).toArray nt) :: news) F5 N5 rfl (.tail (Ne.symm hci) (.head fun q hq => ?_)) hoc ?_
      · rcases List.mem_cons.mp hq with rfl | hq
        · exact fun z => hlt' (L' + 1, oc) (.head _) z.symm
        · exact hcn q hq
      intro h6 oc' F6 N6 hoc'
      clear F5 N5 hoc
      dsimp only
      k_steps
      have hlti6 : ∃ r, rs[i]? = some r ∧ v = r.val := by
        rw [List.getElem?_map] at hv
        cases hr : rs[i]? with
        | none => rw [hr] at hv; cases hv
        | some r => rw [hr] at hv; exact ⟨r, rfl, (Option.some.inj hv).symm⟩
      obtain ⟨r, hr, rfl⟩ := hlti6
      generalize htold : (rs.take i).foldl layIn [] = told at N6
      refine wpAny_ListComp_free (cl := [(Str.ofString "row", L' + 1)]) (leAt told r) (fun v y => y = v) rfl (by decide) rfl (by decide) rfl ?_
      k_steps
      refine wpAny_pyIter_list (N6.isList (.tail _ (.tail _ (.head _)))) ?_
      dsimp only
      have htp : told.Perm (rs.take i) := by have := fold_perm (rs.take i) []; rw [htold] at this; simpa using this
      have hti : ∀ q ∈ told, q ∈ rs := fun q hq => List.mem_of_mem_take (htp.mem_iff.mp hq)
      have hget : ∀ q ∈ rs, h6.get? q.adr = some q.obj := fun q hq => (N6 _ (.tail _ (.tail _ (.tail _ (hrow q hq))))).1
      have hdst : ∀ a ∈ told, ∀ b ∈ told, a.adr = b.adr → a = b := fun a ha b hb e => row_inj (hget a (hti a ha)) (hget b (hti b hb)) e
      have hrr : r ∈ rs := List.mem_of_getElem? hr
      have hlt6 : lt < h6.objs.size := Heap.lt_size (N6 _ (.tail _ (.tail _ (.head _)))).1
      have htl : told.length ≤ rs.length := by have := htp.length_eq; simp at this; omega
      refine ⟨h6.objs.size, [h6.objs.size, lt], [h6.objs.size], _, fun i v => (told.map RowD.val).toArray[i]? = some v, fun i h => h.IsListIter h6.objs.size lt i ∧ h.IsList lt (told.map RowD.val).toArray, rfl, Walks.list (by exact hh) h6.objs.size lt (Nat.ne_of_lt hlt6) (told.map RowD.val).toArray, ?_, ⟨⟨_, Heap.get?_push_size _ rfl, rfl, rfl⟩, (N6.isList (.tail _ (.tail _ (.head _)))).push _⟩, ?_, ⟨?_, ?_⟩, ?_⟩
      · rw [sizeLine_eq]; simp; omega
      · intro b hb
        rw [Heap.size_push]
        rcases List.mem_cons.mp hb with rfl | hb
        · exact Nat.lt_succ_self _
        · rw [List.mem_singleton.mp hb]; exact Nat.lt_succ_of_lt hlt6
      · intro C j v s₃ m₃ E' hC hP hns hmx hk htk
        obtain ⟨q, hq, rfl⟩ : ∃ q ∈ told, v = q.val := by
          have : v ∈ (told.map RowD.val) := by simpa using List.mem_of_getElem? (by simpa using hP : (told.map RowD.val)[j]? = some v)
          obtain ⟨q, hq, e⟩ := List.mem_map.mp this
          exact ⟨q, hq, e.symm⟩
        have keep : ∀ b o, h6.get? b = some o → s₃.heap.get? b = some o := fun b o e => hk b o (fun z => by rw [List.mem_singleton.mp z] at e; exact absurd (Heap.lt_size e) (Nat.lt_irrefl _)) (Heap.get?_push_of_some _ e)
        rw [List.forIn_cons]
        refine wpAny_bind ?_
        rw [if_pos rfl]
        refine wpAny_bind (wpAny_isTrue_Compare1 (wpAny_Name (wpAny_loadName_local rfl rfl hns hmx (wpAny_Name (wpAny_loadName_cell rfl rfl rfl ⟨oc', keep _ _ (N6 _ (.tail _ (.head _))).1, hoc'⟩
          (le_rows (a := q) (b := r) (keep _ _ (hget q (hti q hq))) (keep _ _ (hget r hrr)) (by show A.units + 3 < _; omega) (wpAny_truthy_bool ?_)))))))
        refine wpAny_pure ?_
        dsimp only
        rw [List.forIn_nil]
        exact wpAny_pure ⟨(leAt_of hq hdst).symm, s₃.heap, s₃.toks, rfl, fun _ _ e => e⟩
      · intro C j v s₃ m₃ E' hC hP hpv hns hmx hk htk
        exact wpAny_Name (wpAny_loadName_local rfl rfl hns hmx ⟨rfl, s₃.heap, s₃.toks, rfl, fun _ _ e => e⟩)
      · intro D h7 tk7 ys vs hD hIs hPl hvl hvP hpr hk7
        have hvs : vs = told.map RowD.val := by
          apply List.ext_getElem?
          intro j
          by_cases hj : j < vs.length
          · have := hvP j vs[j] (List.getElem?_eq_getElem hj)
            rw [List.getElem?_eq_getElem hj]
            simpa using this.symm
          · rw [List.getElem?_eq_none (by omega), List.getElem?_eq_none (by simp at hvl ⊢; omega)]
        have hys : ys.toList = (told.filter (rowLe · r)).map RowD.val := by rw [paired_eq hpr, hvs]; exact filter_leAt hdst told (fun _ h => h)
        have keep7 : ∀ b o, h6.get? b = some o → h7.get? b = some o := fun b o e => hk7 b o (fun z => by rw [List.mem_singleton.mp z] at e; exact absurd (Heap.lt_size e) (Nat.lt_irrefl _)) (Heap.get?_push_of_some _ e)
        have hD6 : h6.get? D = none := by
          cases e : h6.get? D with
          | none => rfl
          | some o => have := Heap.get?_push_of_some { cls := .type "list_iterator", data := .fields #[.ref lt, .int 0 0] } e; rw [hD] at this; cases this
        obtain ⟨nD, hgD⟩ := hPl
        have F7 := F6.grownK keep7
        have N7 : News g' L' h7 ((D, listOf ((told.filter (rowLe · r)).map RowD.val).toArray nD) :: (it, oi') :: (L' + 1, oc') :: (lt, listOf (told.map RowD.val).toArray nt) :: news) := fun q hq => by
          rcases List.mem_cons.mp hq with rfl | hq
          · refine ⟨by rw [hgD]; congr 3; rw [← hys], fun z => ?_, ?_⟩
            · obtain ⟨oL, _, _, hL, _⟩ := F6.ns
              have z' : D = L' := z
              rw [z', hL] at hD6; cases hD6
            · cases e : g'.get? D with
              | none => rfl
              | some o => have := F6.keep _ _ e; rw [hD6] at this; cases this
          · exact ⟨keep7 _ _ (N6 q hq).1, (N6 q hq).2⟩
        clear F6 N6 hgD hIs hpr
        have hfl : (told.filter (rowLe · r)).length ≤ told.length := List.length_filter_le ..
        k_steps
        refine rows_len (ys := told.filter (rowLe · r)) N7 (.head _) (by omega) ?_
        dsimp only
        replace N7 := news_sub (l' := (it, oi') :: (L' + 1, oc') :: (lt, listOf (told.map RowD.val).toArray nt) :: news) N7 (fun q hq => .tail _ hq)
        generalize hk0 : (told.filter (rowLe · r)).length = k0 at hfl ⊢
        k_steps
        rename News _ _ _ _ => N8
        rename Fr _ _ _ _ => F8
        rw [slicePick_upto'] at N8
        dsimp only at N8 ⊢
        refine kmk_add_lit (zs := (told.take k0 ++ [r]).map RowD.val) F8 N8 (N8.isList (.tail _ (.head _))) (N8.isList (.head _)) ?_ ?_ ?_
        · simp [List.map_take]
        rotate_left
        · rw [sizeLine_eq]; simp; omega
        intro D9 h9 F9 N9 l9
        have hD9 : ∀ q ∈ (L' + 1, oc') :: news, q.1 < D9 := fun q hq => l9 q (.tail _ (.tail _ (.tail _ (by
          rcases List.mem_cons.mp hq with rfl | hq
          · exact .head _
          · exact .tail _ (.tail _ hq)))))
        replace N9 := news_sub (l' := (D9, listOf ((told.take k0 ++ [r]).map RowD.val).toArray 0) :: (it, oi') :: (L' + 1, oc') :: (lt, listOf (told.map RowD.val).toArray nt) :: news) N9 (fun q hq => by
          rcases List.mem_cons.mp hq with rfl | hq
          · exact .head _
          · exact .tail _ (.tail _ (.tail _ hq)))
        clear F8 N8 l9
        dsimp only
        k_steps
        rename News _ _ _ _ => N10
        rename Fr _ _ _ _ => F10
        rw [slicePick_from'] at N10
        dsimp only at N10 ⊢
        refine kmk_add_lit (zs := (layIn told r).map RowD.val) F10 N10 (N10.isList (.tail _ (.head _))) (N10.isList (.head _)) ?_ ?_ ?_
        · unfold layIn; rw [hk0]; simp [List.map_take, List.map_drop]
        rotate_left
        · rw [sizeLine_eq]; simp; omega
        intro D11 h11 F11 N11 l11
        have hD11 : ∀ q ∈ (L' + 1, oc') :: news, q.1 < D11 := fun q hq => l11 q (.tail _ (.tail _ (.tail _ (by
          rcases List.mem_cons.mp hq with rfl | hq
          · exact .head _
          · exact .tail _ (.tail _ hq)))))
        have hit11 : it < D11 := l11 (it, oi') (.tail _ (.tail _ (.head _)))
        replace N11 := news_sub (l' := (it, oi') :: (L' + 1, oc') :: (D11, listOf ((layIn told r).map RowD.val).toArray 0) :: news) N11 (fun q hq => by
          rcases List.mem_cons.mp hq with rfl | hq
          · exact .tail _ (.tail _ (.tail _ (.head _)))
          · rcases List.mem_cons.mp hq with rfl | hq
            · exact .tail _ (.tail _ (.tail _ (.tail _ (.head _))))
            · rcases List.mem_cons.mp hq with rfl | hq
              · exact .head _
              · exact .tail _ (.tail _ (.tail _ (.tail _ (.tail _ (.tail _ hq))))))
        clear F10 N10 l11 F9 N9
        dsimp only
        k_steps
        rename Fr _ _ _ _ => F12
        rename News _ _ _ _ => N12
        have hf1 : (rs.take (i + 1)).foldl layIn [] = layIn told r := by
          rw [List.take_succ, hr, List.foldl_append, htold]; rfl
        rw [← hf1] at N12
        exact toInv _ _ ⟨D11, 0, oc', _, oi', _, _, fun z => if z = Str.ofString "place" then some (.int (k0 : Nat) (tk7 + 1)) else f z, rfl, fr_map F12 (fun z => by
          by_cases e1 : z = Str.ofString "told"
          · subst e1; rfl
          · by_cases e2 : z = Str.ofString "rows"
            · subst e2; rfl
            · simp [e1, e2]), N12, hoi', hoc', fun q hq => Nat.ne_of_lt (hD11 q hq), Ne.symm (Nat.ne_of_lt hit11)⟩
    · intro hv h5 F5 N5
      clear F4 N4
      have hge : rs.length ≤ i := by
        rw [List.getElem?_eq_none_iff] at hv
        simpa using hv
      have e : (rs.take i).foldl layIn [] = rise rs := by rw [List.take_of_length_le hge]; rfl
      rw [e] at N5
      replace N5 := news_sub (l' := (lt, listOf ((rise rs).map RowD.val).toArray nt) :: news) N5 (fun q hq => .tail _ hq)
      dsimp only
      k_steps
      exact leaveK_ F5 N5 fun F N => h _ _ _ _ F N fun q hq => hlt' q (.tail _ hq)
end Mine
end
section
open PySem PySem.W PyProof.Rows PySem.Calls
set_option maxRecDepth 100000
namespace Mine
noncomputable def gapOf (x : Int) : Str := match (x.fmod 4).toNat with | 0 => Str.ofString " " | 1 => Str.ofString "\n" | 2 => Str.ofString " # it's\n" | _ => Str.ofString "\t\n"
noncomputable def signOf (j : Int) : Nat := match j.toNat with | 0 => 97 | 1 => 66 | 2 => 32 | _ => 35
noncomputable def textsOf (x : Int) : List Str := (List.range ((x.fdiv 4).fmod 3).toNat).map fun k => ⟨#[signOf (((x.fdiv 12).fdiv (4 ^ k)).fmod 4)]⟩
noncomputable def wordOf (x : Int) : Str := Txt.join (Str.ofString "") (textsOf x)
noncomputable def keyOf (r : RowD) : Str × Int × Int := (r.word, r.st, r.en)
noncomputable abbrev tupObj' (vs : List Value) : Obj := { cls := .type "tuple", data := .seq vs.toArray }
noncomputable def objs (rows : List RowD) : List (Addr × Obj) := rows.map fun r => (r.adr, r.obj)
noncomputable def layStep (a : Str × List (Str × Int × Int)) (x : Int) : Str × List (Str × Int × Int) :=
  let s := a.1 ++ gapOf x
  (s ++ Str.ofString "'" ++ wordOf x ++ Str.ofString "'", a.2 ++ [(wordOf x, (s.length : Int), (s.length : Int) + (wordOf x).length + 2)])
noncomputable def layAll (ns : List Int) : Str × List (Str × Int × Int) := ns.foldl layStep (Str.ofString "", [])
theorem walks_lt {prog : Program} {w : World} {A : Around} {I : Addr} {fp wr : List Addr} {n : Nat} {P : Nat → Value → Prop} {St : Nat → Heap → Prop} (W : Walks prog w A I fp wr n P St) : Walks prog w A I fp wr n (fun i v => i < n ∧ P i v) St where
  sub := W.sub
  frame := W.frame
  item := fun i s Q E hi st hQ => W.item i s Q E hi st fun v h' tk hp => hQ v h' tk ⟨hi, hp⟩
  done := W.done
  self := W.self
theorem size_c {c : Int} (h0 : 0 ≤ c) : Builtin.Range.rangeSize 0 c 1 = c := by
  unfold Builtin.Range.rangeSize
  rw [if_pos (by decide)]
  split <;> omega
theorem small_c {c : Int} (h0 : 0 ≤ c) (h3 : c < 3) : Builtin.Range.small 0 c 1 = true := by
  have : c = 0 ∨ c = 1 ∨ c = 2 := by omega
  rcases this with rfl | rfl | rfl <;> decide
theorem sign_item (y : Int) : Txt.item (Str.ofString "aB #") (y.fmod 4) = ⟨#[signOf (y.fmod 4)]⟩ := by
  have h1 : 0 ≤ y.fmod 4 := Int.fmod_nonneg_of_pos y (by decide)
  have h2 : y.fmod 4 < 4 := Int.fmod_lt_of_pos y (by decide)
  generalize y.fmod 4 = j at h1 h2
  have : j = 0 ∨ j = 1 ∨ j = 2 ∨ j = 3 := by omega
  rcases this with rfl | rfl | rfl | rfl <;> decide
theorem signs_of {x : Int} {vs : List Value} {ys : Array Value} (hvl : vs.length = ((x.fdiv 4).fmod 3).toNat) (hvP : ∀ (j : Nat) (v : Value), vs[j]? = some v → j < ((x.fdiv 4).fmod 3).toNat ∧ ∃ t, v = .int (0 + (j : Nat) * 1) t)
    (hpr : Paired (fun v y => ∃ k t u, v = .int (k : Nat) t ∧ y = .str ⟨#[signOf (((x.fdiv 12).fdiv (4 ^ k)).fmod 4)]⟩ u) (vs.filter fun _ => true) ys.toList) : ∃ l : List (Str × Tok), ys = (strValues l).toArray ∧ l.map (·.1) = textsOf x := by
  have key : ∀ (vs : List Value) (i : Nat) (zs : List Value), (∀ (j : Nat) (v : Value), vs[j]? = some v → ∃ t, v = .int ((i + j : Nat) : Int) t) →
      Paired (fun v y => ∃ k t u, v = .int (k : Nat) t ∧ y = .str ⟨#[signOf (((x.fdiv 12).fdiv (4 ^ k)).fmod 4)]⟩ u) vs zs →
      ∃ l : List (Str × Tok), zs = strValues l ∧ l.map (·.1) = (List.range' i vs.length).map fun k => (⟨#[signOf (((x.fdiv 12).fdiv (4 ^ k)).fmod 4)]⟩ : Str) := by
    intro vs
    induction vs with
    | nil => intro i zs _ hp; cases hp; exact ⟨[], rfl, rfl⟩
    | cons v vs ih =>
      intro i zs hP hp
      cases hp with
      | cons hvy hr =>
        obtain ⟨k, t, u, hv, hy⟩ := hvy
        obtain ⟨t', hv'⟩ := hP 0 v rfl
        obtain ⟨l, hl, hm⟩ := ih (i + 1) _ (fun j w hw => by
          obtain ⟨t2, h2⟩ := hP (j + 1) w hw
          exact ⟨t2, by rw [h2, show i + (j + 1) = i + 1 + j from by omega]⟩) hr
        have hk : k = i := by
          rw [hv] at hv'
          injection hv' with h1 _
          omega
        subst hk
        refine ⟨(⟨#[signOf (((x.fdiv 12).fdiv (4 ^ k)).fmod 4)]⟩, u) :: l, ?_, ?_⟩
        · rw [hy, hl]; rfl
        · rw [List.map_cons, hm, List.length_cons, List.range'_succ, List.map_cons]
  have hf : (vs.filter fun _ => true) = vs := by simp
  rw [hf] at hpr
  obtain ⟨l, h1, h2⟩ := key vs 0 ys.toList (fun j v hv => by
    obtain ⟨_, t, ht⟩ := hvP j v hv
    exact ⟨t, by rw [ht]; congr 1; omega⟩) hpr
  refine ⟨l, ?_, ?_⟩
  · rw [← h1]
  · unfold textsOf; rw [h2, hvl, List.range_eq_range']
theorem gap_len (x : Int) : (gapOf x).length ≤ 8 := by
  unfold gapOf
  split <;> decide
theorem texts_cases (x : Int) : textsOf x = [] ∨ (∃ a, textsOf x = [⟨#[a]⟩]) ∨ ∃ a b, textsOf x = [⟨#[a]⟩, ⟨#[b]⟩] := by
  have h1 : 0 ≤ (x.fdiv 4).fmod 3 := Int.fmod_nonneg_of_pos _ (by decide)
  have h2 : (x.fdiv 4).fmod 3 < 3 := Int.fmod_lt_of_pos _ (by decide)
  have : ((x.fdiv 4).fmod 3).toNat = 0 ∨ ((x.fdiv 4).fmod 3).toNat = 1 ∨ ((x.fdiv 4).fmod 3).toNat = 2 := by omega
  unfold textsOf
  rcases this with e | e | e <;> rw [e]
  · exact .inl rfl
  · exact .inr (.inl ⟨_, rfl⟩)
  · exact .inr (.inr ⟨_, _, rfl⟩)
theorem word_len (x : Int) : (wordOf x).length ≤ 2 := by
  unfold wordOf
  rcases texts_cases x with e | ⟨a, e⟩ | ⟨a, b, e⟩ <;> rw [e]
  · decide
  · show (1 : Nat) ≤ 2; decide
  · show (2 : Nat) ≤ 2; decide
theorem mk_row {g h : Heap} {L a : Addr} {rest : List (Addr × Obj)} {w : Str} {i j : Int} {t t1 t2 : Tok} (N : News g L h ((a, listOf #[.str w t, .int i t1, .int j t2] 0) :: rest)) :
    ∃ r : RowD, r.adr = a ∧ r.word = w ∧ r.st = i ∧ r.en = j ∧ News g L h ((r.adr, r.obj) :: rest) := ⟨⟨a, w, i, j, t, t1, t2, 0⟩, rfl, rfl, rfl, rfl, N⟩
theorem drop_second {g h : Heap} {L : Addr} {a b : Addr × Obj} {r : List (Addr × Obj)} (N : News g L h (a :: b :: r)) : News g L h (a :: r) := news_sub N fun q hq => by
  rcases List.mem_cons.mp hq with rfl | hq
  · exact .head _
  · exact .tail _ (.tail _ hq)
theorem gap_at (x : Int) (a b c d : Tok) : ∃ t, (#[Value.str (Str.ofString " ") a, .str (Str.ofString "\n") b, .str (Str.ofString " # it's\n") c, .str (Str.ofString "\t\n") d] : Array Value)[(x.fmod 4).toNat]? = some (.str (gapOf x) t) := by
  have h1 : 0 ≤ x.fmod 4 := Int.fmod_nonneg_of_pos x (by decide)
  have h2 : x.fmod 4 < 4 := Int.fmod_lt_of_pos x (by decide)
  unfold gapOf
  have : (x.fmod 4).toNat = 0 ∨ (x.fmod 4).toNat = 1 ∨ (x.fmod 4).toNat = 2 ∨ (x.fmod 4).toNat = 3 := by omega
  rcases this with e | e | e | e <;> rw [e] <;> exact ⟨_, rfl⟩
theorem lay_len (ns : List Int) : (layAll ns).2.length = ns.length := by
  have key : ∀ (l : List Int) (a : Str × List (Str × Int × Int)), (l.foldl layStep a).2.length = a.2.length + l.length := by
    intro l
    induction l with
    | nil => intro a; rfl
    | cons x l ih =>
      intro a
      rw [List.foldl_cons, ih]
      show (a.2 ++ [_]).length + l.length = _
      simp
      omega
  simpa [layAll] using key ns (Str.ofString "", [])
theorem objs_snoc (rows : List RowD) (r : RowD) : objs (rows ++ [r]) = objs rows ++ [(r.adr, r.obj)] := by unfold objs; rw [List.map_append]; rfl
theorem sub_rows {a b c : Addr × Obj} {d : Addr × Obj} {rs rs' news : List (Addr × Obj)} (e : rs' = rs ++ [d]) : ∀ q ∈ a :: b :: c :: (rs' ++ news), q ∈ d :: a :: b :: c :: (rs ++ news) := fun q hq => by
  subst e
  rcases List.mem_cons.mp hq with rfl | hq
  · exact .tail _ (.head _)
  · rcases List.mem_cons.mp hq with rfl | hq
    · exact .tail _ (.tail _ (.head _))
    · rcases List.mem_cons.mp hq with rfl | hq
      · exact .tail _ (.tail _ (.tail _ (.head _)))
      · rcases List.mem_append.mp hq with hq | hq
        · rcases List.mem_append.mp hq with hq | hq
          · exact .tail _ (.tail _ (.tail _ (.tail _ (List.mem_append_left _ hq))))
          · rw [List.mem_singleton.mp hq]; exact .head _
        · exact .tail _ (.tail _ (.tail _ (.tail _ (List.mem_append_right _ hq))))
local macro_rules | `(tactic| k_steps) => `(tactic| repeat' (first | (k_unfold; (try dsimp only)) | ((fail_if_success (with_reducible show wpAny _ _ (exec (Stmt.While _ _ _ _) _) _ _ _)); (fail_if_success (with_reducible show wpAny _ _ (exec (Stmt.For _ _ _ _ _) _) _ _ _)); (fail_if_success (with_reducible show wpAny _ _ (eval (PySem.Expr.ListComp _ _ _ _) _) _ _ _)); (fail_if_success (with_reducible show wpAny _ _ (eval (PySem.Expr.Name _ _) (compEnvC _ _ _ _)) _ _ _)); (fail_if_success (with_reducible show Exists _)); (fail_if_success (with_reducible show LeaveK _ _ _ _ _ _ _)); (fail_if_success (with_reducible show LeaveS _ _ _ _ _ _ _ _ _ _ _ _ _ _ _ _ _ _)); (fail_if_success (with_reducible show wpAny _ _ (call (Value.ref _) _ _) _ _ _)); (first | walk1 | (dsimp only; walk1)))))
set_option maxHeartbeats 8000000 in
theorem laid_call {A A₀ : Around} {base h₀ : Heap} {outer : List Env} {env : Env} {L l : Addr} {m mg mb : Str → Option Value} {news : List (Addr × Obj)} {vs : List Value} {ns : List Int} {n : Nat} {s : Shared} {w : World} {p : Program} {loose : List Str} {mean : ExcName → Option Value} {Q : Value → Shared → Prop} {E : Value → Shared → Prop}
  (B : Below A₀ base outer h₀) (F : Fr h₀ L s.heap m) (X : (K w.params).In h₀) (N : News h₀ L s.heap news) (T : Top p loose mean mg mb h₀)
  (hA : A.frames = some (env :: outer)) (hf : env.frame = some L) (hke : env.scope.kind = .function) (hd : A.depth + 40 < recursionLimit) (hu : A.units + 300 < cLine) (hh : A.handled = none)
  (hl : (l, listOf vs.toArray n) ∈ news) (hi : IntsAre vs ns) (hz : ns.length < 100)
  (h : ∀ h' tk tp u lr nr rows src, Fr h₀ L h' m → News h₀ L h' ((tp, tupObj' [.str (src ++ Str.ofString " # the end") u, .ref lr]) :: (lr, listOf (rows.map RowD.val).toArray nr) :: (objs rows ++ news)) → layAll ns = (src, rows.map keyOf) → (∀ q ∈ objs rows ++ news, q.1 ≠ lr) → (∀ q ∈ objs rows ++ news, q.1 ≠ tp) → lr ≠ tp → Q (.ref tp) { s with heap := h', toks := tk })
  : wpAny (model PR w) A (call (.ref 140) [.ref l]) Q E s := by
  revert X; unfold PR; k_fill; intro X
  refine wpAny_noRaise (wpAny_call ?_)
  refine code_defC (params := parsAt 21) (body := bodyAt 21) (scope := scopeAt 21) (binds := [(Str.ofString "numbers", .ref l)]) B F X N T hA hf hke (show (K w.params).lookup 140 = some ob140 from rfl) (by rfl) (by omega) (BindsTo.of_eq (by rfl)) (by rfl) (by decide +kernel) ?_ (by rfl) (by rfl) (by rfl)
  intro g' L' h' tk' cells' FG' F' N' Y' B' X' T' l1
  have hb : bodyAt 21 = bodyAt 21 := rfl
  conv at hb => rhs; whnf
  have hs : scopeAt 21 = scopeAt 21 := rfl
  conv at hs => rhs; whnf
  rw [hs] at F' Y' ⊢
  rw [hb]
  clear hb hs
  dsimp only at F' Y' ⊢
  k_cells Y'
  simp only [List.cons_append, List.nil_append] at N'
  clear FG' F N B T X
  refine wpAny_noRaise ?_
  k_steps
  rename Fr _ _ _ _ => F3
  rename News _ _ _ _ => N3
  refine unpackItemsN_ F3 N3 (N3.isTup (.head _)) hh rfl fun h4 F4 N4 => ?_
  clear F3 N3
  k_steps
  rename Fr _ _ _ _ => F5
  rename News _ _ _ _ => N5
  rename (_ ∧ _ ∧ AllLt _ _) => hD5
  rename (_ ∧ AllLt _ _) => hlr0
  refine for_list (L := L') (vs := vs) hh ?_
  k_steps
  refine ⟨g', _, _, l, n, rfl, F5, N5, .tail _ (.tail _ (.tail _ hl)), fun it hit => ?_⟩
  have hcn : ∀ q ∈ news, q.1 ≠ L' + 1 := fun q hq => Nat.ne_of_lt (Nat.lt_succ_of_lt (l1 q hq))
  have hni : ∀ q ∈ news, q.1 ≠ it := fun q hq => hit q (.tail _ (.tail _ (.tail _ hq)))
  have hci : (L' + 1 : Addr) ≠ it := hit _ (.tail _ (.tail _ (.head _)))
  obtain ⟨Inv, toInv, ofInv⟩ : ∃ Inv : Nat → Shared → Prop, (∀ i s', (∃ (src : Str) (rows : List RowD) (lr : Addr) (nr : Nat) (oc : Obj) (v0 : Option Value) (oi : Obj) (h2 : Heap) (tk tsr : Tok), ∃ f : Str → Option Value, s' = { s with heap := h2, toks := tk } ∧ Fr g' L' h2 (fun z => if z = Str.ofString "src" then some (.str src tsr) else if z = Str.ofString "rows" then some (.ref lr) else if z = Str.ofString "numbers" then some (.ref l) else f z) ∧
    News g' L' h2 ((it, oi) :: (L' + 1, oc) :: (lr, listOf (rows.map RowD.val).toArray nr) :: (objs rows ++ news)) ∧ IterOf oi l i ∧ oc.data = .cell v0 ∧ layAll (ns.take i) = (src, rows.map keyOf) ∧ src.length ≤ 12 * i ∧ rows.length = i ∧ (∀ q ∈ objs rows, q.1 ≠ it ∧ q.1 ≠ L' + 1) ∧ (∀ q ∈ (L' + 1, oc) :: (it, oi) :: (objs rows ++ news), q.1 ≠ lr)) → Inv i s') ∧ ∀ i s', Inv i s' → (∃ (src : Str) (rows : List RowD) (lr : Addr) (nr : Nat) (oc : Obj) (v0 : Option Value) (oi : Obj) (h2 : Heap) (tk tsr : Tok), ∃ f : Str → Option Value, s' = { s with heap := h2, toks := tk } ∧ Fr g' L' h2 (fun z => if z = Str.ofString "src" then some (.str src tsr) else if z = Str.ofString "rows" then some (.ref lr) else if z = Str.ofString "numbers" then some (.ref l) else f z) ∧
    News g' L' h2 ((it, oi) :: (L' + 1, oc) :: (lr, listOf (rows.map RowD.val).toArray nr) :: (objs rows ++ news)) ∧ IterOf oi l i ∧ oc.data = .cell v0 ∧ layAll (ns.take i) = (src, rows.map keyOf) ∧ src.length ≤ 12 * i ∧ rows.length = i ∧ (∀ q ∈ objs rows, q.1 ≠ it ∧ q.1 ≠ L' + 1) ∧ (∀ q ∈ (L' + 1, oc) :: (it, oi) :: (objs rows ++ news), q.1 ≠ lr)) :=
    ⟨fun i s' => ∃ (src : Str) (rows : List RowD) (lr : Addr) (nr : Nat) (oc : Obj) (v0 : Option Value) (oi : Obj) (h2 : Heap) (tk tsr : Tok), ∃ f : Str → Option Value, s' = { s with heap := h2, toks := tk } ∧ Fr g' L' h2 (fun z => if z = Str.ofString "src" then some (.str src tsr) else if z = Str.ofString "rows" then some (.ref lr) else if z = Str.ofString "numbers" then some (.ref l) else f z) ∧
    News g' L' h2 ((it, oi) :: (L' + 1, oc) :: (lr, listOf (rows.map RowD.val).toArray nr) :: (objs rows ++ news)) ∧ IterOf oi l i ∧ oc.data = .cell v0 ∧ layAll (ns.take i) = (src, rows.map keyOf) ∧ src.length ≤ 12 * i ∧ rows.length = i ∧ (∀ q ∈ objs rows, q.1 ≠ it ∧ q.1 ≠ L' + 1) ∧ (∀ q ∈ (L' + 1, oc) :: (it, oi) :: (objs rows ++ news), q.1 ≠ lr), fun _ _ x => x, fun _ _ x => x⟩
  refine ⟨Inv, ?_, ?_⟩
  · intro h4 oi hoi F4 N4
    exact toInv _ _ ⟨_, [], _, 0, _, _, oi, h4, _, _, fun _ => none, rfl, fr_map F4 (fun z => rfl), news_sub N4 (fun q hq => by
      rcases List.mem_cons.mp hq with rfl | hq
      · exact .head _
      · rcases List.mem_cons.mp hq with rfl | hq
        · exact .tail _ (.tail _ (.tail _ (.head _)))
        · rcases List.mem_cons.mp hq with rfl | hq
          · exact .tail _ (.tail _ (.head _))
          · exact .tail _ (.tail _ (.tail _ (.tail _ hq)))), hoi, (by assumption), rfl, by decide, rfl, (fun q hq => nomatch hq), fun q hq => by
      rcases List.mem_cons.mp hq with rfl | hq
      · exact Nat.ne_of_lt hlr0.1
      · rcases List.mem_cons.mp hq with rfl | hq
        · exact fun z => hit _ (.tail _ (.head _)) z.symm
        · exact Nat.ne_of_lt (allLt_at hlr0.2 q hq)⟩
  · intro i s' hInv
    obtain ⟨src, rows, lr, nr, oc, v0, oi, h2, tk2, tsr, f, rfl, F4, N4, hoi, hoc, hlay, hsl, hrl, hro, hlr⟩ := ofInv i s' hInv
    clear hInv
    refine ⟨g', _, _, l, n, oi, F4, N4, hoi, .tail _ (.tail _ (List.mem_append_right _ hl)), (fun q hq => ?_), ?_, ?_⟩
    · rcases List.mem_cons.mp hq with rfl | hq
      · exact hci
      · rcases List.mem_cons.mp hq with rfl | hq
        · exact fun z => hlr (it, oi) (.tail _ (.head _)) z.symm
        · rcases List.mem_append.mp hq with hq | hq
          · exact (hro q hq).1
          · exact hni q hq
    · intro v hv h5 oi' hoi' F5 N5
      obtain ⟨x, tx, rfl, hx⟩ : ∃ x tx, v = .int x tx ∧ ns[i]? = some x := hi.at i v hv
      clear F4 N4
      k_steps
      refine storeX_C (g := fun o => (it, oi') :: (L' + 1, o) :: (lr, listOf (rows.map RowD.val).toArray nr) :: (objs rows ++ news)) F5 N5 rfl (.tail (Ne.symm hci) (.head fun q hq => ?_)) hoc ?_
      · rcases List.mem_cons.mp hq with rfl | hq
        · exact fun z => hlr (L' + 1, oc) (.head _) z.symm
        · rcases List.mem_append.mp hq with hq | hq
          · exact (hro q hq).2
          · exact hcn q hq
      intro h6 oc' F6 N6 hoc'
      clear F5 N5 hoc
      dsimp only
      k_steps
      rename Fr _ _ _ _ => F7
      rename News _ _ _ _ => N7
      dsimp only
      have hin : i < ns.length := (List.getElem?_eq_some_iff.mp hx).1
      have hsg : (src ++ gapOf x).length ≤ 2000 := by rw [Str.length_append]; have := gap_len x; omega
      have hwl := word_len x
      have hgl := gap_len x
      have hsb : src.length ≤ 1200 := by omega
      have hc0 : 0 ≤ (x.fdiv 4).fmod 3 := Int.fmod_nonneg_of_pos _ (by decide)
      have hc3 : (x.fdiv 4).fmod 3 < 3 := Int.fmod_lt_of_pos _ (by decide)
      have hfm : 0 ≤ x.fmod 4 ∧ x.fmod 4 < 4 := ⟨Int.fmod_nonneg_of_pos x (by decide), Int.fmod_lt_of_pos x (by decide)⟩
      obtain ⟨tg, hg⟩ := gap_at x tk2 (tk2 + 1) (tk2 + 1 + 1) (tk2 + 1 + 1 + 1)
      refine item_at N7 (.head _) hfm.1 (by omega) hg ?_
      replace N7 := news_sub (l' := (it, oi') :: (L' + 1, oc') :: (lr, listOf (rows.map RowD.val).toArray nr) :: (objs rows ++ news)) N7 (fun q hq => .tail _ hq)
      k_steps
      refine wpAny_ListComp_free (cl := [(Str.ofString "x", L' + 1)]) (fun _ => true) (fun v y => ∃ k t u, v = .int (k : Nat) t ∧ y = .str ⟨#[signOf (((x.fdiv 12).fdiv (4 ^ k)).fmod 4)]⟩ u) rfl (by decide) rfl (by decide) rfl ?_
      k_steps
      rename IsRange _ _ _ _ _ _ _ _ => R8
      rename News _ _ _ _ => N8
      rename Fr _ _ _ _ => F8
      refine wpAny_pyIter_range R8 ?_ ?_
      · exact small_c hc0 hc3
      dsimp only
      refine ⟨_, _, _, ((x.fdiv 4).fmod 3).toNat, fun i v => i < ((x.fdiv 4).fmod 3).toNat ∧ ∃ t, v = .int (0 + (i : Nat) * 1) t, _, rfl, walks_lt (Walks.range (by exact hh) _ 0 1 ((x.fdiv 4).fmod 3).toNat), ?_, ?_, ?_, ⟨?_, ?_⟩, ?_⟩
      · rw [sizeLine_eq]; omega
      · show IsRangeIter _ _ _ _ _
        rw [size_c hc0]
        have e1 : ((((x.fdiv 4).fmod 3).toNat : Int) - ((0 : Nat) : Int)) = (x.fdiv 4).fmod 3 := by omega
        rw [e1]
        exact Heap.get?_push_size _ rfl
      · intro b hb
        rw [List.mem_singleton.mp hb, Heap.size_push]
        exact Nat.lt_succ_self _
      · intro C j v s₃ m₃ E' hC hP hns hmx hk htk
        rw [List.forIn_nil]
        exact wpAny_pure ⟨rfl, s₃.heap, s₃.toks, rfl, fun _ _ e => e⟩
      · intro C j v s₃ m₃ E' hC hP hpv hns hmx hk htk
        obtain ⟨hj, tj, rfl⟩ := hP
        have hxc : s₃.heap.get? (L' + 1) = some oc' := hk _ _ (fun z => by
          have e := (N8 (L' + 1, oc') (.tail _ (.head _))).1
          rw [List.mem_singleton.mp z] at e
          exact absurd (Heap.lt_size e) (Nat.lt_irrefl _)) (Heap.get?_push_of_some _ (N8 (L' + 1, oc') (.tail _ (.head _))).1)
        clear F8 N8 R8
        k_steps
        refine wpAny_Name (wpAny_loadName_cell rfl rfl rfl ⟨oc', hxc, hoc'⟩ ?_)
        k_steps
        refine wpAny_Name (wpAny_loadName_local rfl rfl hns hmx ?_)
        have hj2 : j = 0 ∨ j = 1 := by omega
        dsimp only
        rcases hj2 with rfl | rfl
        · rw [show (0 : Int) + ((0 : Nat) : Int) * 1 = 0 from by decide] at *
          k_steps
          · exact ⟨0, tj, _, rfl, congrArg (fun z => Value.str z _) (sign_item ((x.fdiv 12).fdiv (4 ^ 0)))⟩
          · exact ⟨s₃.heap, _, rfl, fun _ _ e => e⟩
        · rw [show (0 : Int) + ((1 : Nat) : Int) * 1 = 1 from by decide] at *
          k_steps
          · exact ⟨1, tj, _, rfl, congrArg (fun z => Value.str z _) (sign_item ((x.fdiv 12).fdiv (4 ^ 1)))⟩
          · exact ⟨s₃.heap, _, rfl, fun _ _ e => e⟩
      · intro D h9 tk9 ys vs9 hD hIs hPl hvl hvP hpr hk9
        obtain ⟨l9, hl9, ht9⟩ := signs_of hvl hvP hpr
        have keep9 : ∀ b o, _ → h9.get? b = some o := fun b o e => hk9 b o (fun z => by rw [List.mem_singleton.mp z] at e; exact absurd (Heap.lt_size e) (Nat.lt_irrefl _)) (Heap.get?_push_of_some _ e)
        have F9 := F8.grownK keep9
        have N9 := N8.grown keep9
        clear F8 N8 R8
        k_steps
        refine SC.join (l := l9) (texts := textsOf x) (by rw [← hl9]; exact hIs) ht9 ?_ fun t10 k10 => ?_
        · rcases texts_cases x with e | ⟨a, e⟩ | ⟨a, b, e⟩ <;> rw [e]
          · decide
          · show (!decide ((0 + 1 + 0) > sizeLine)) = true; rw [sizeLine_eq]; decide
          · show (!decide ((0 + 1 + 0 + 1 + 0) > sizeLine)) = true; rw [sizeLine_eq]; decide
        rw [show Txt.join (Str.ofString "") (textsOf x) = wordOf x from rfl]
        k_steps
        rename Fr _ _ _ _ => F11
        rename News _ _ _ _ => N11
        rename (_ ∧ _ ∧ _ ∧ AllLt _ _) => hlt11
        obtain ⟨rw, hra, hrw, hrs, hre, N12⟩ := mk_row N11
        subst hra
        clear N11
        refine append_K F11 N12 (.tail (Ne.symm (Nat.ne_of_lt hlt11.2.2.1)) (.tail (hlr (it, oi) (.tail _ (.head _))) (.tail (hlr (L' + 1, oc) (.head _)) (.head fun q hq => hlr q (.tail _ (.tail _ hq)))))) (fun h12 F12 N13 => ?_) (by rw [sizeLine_eq]; simp; omega)
        have e12 : (rows.map RowD.val).toArray.push rw.val = ((rows ++ [rw]).map RowD.val).toArray := by simp
        rw [e12] at N13
        clear F11 N12
        dsimp only
        k_steps
        rename Fr _ _ _ _ => F14
        rename News _ _ _ _ => N14
        have hlay' : layAll (ns.take (i + 1)) = (src ++ gapOf x ++ Str.ofString "'" ++ wordOf x ++ Str.ofString "'", (rows ++ [rw]).map keyOf) := by
          unfold layAll at hlay ⊢
          rw [List.take_add_one, hx, List.foldl_append, hlay]
          show layStep (src, rows.map keyOf) x = _
          unfold layStep keyOf
          rw [List.map_append]
          simp [hrw, hrs, hre]
        have hlen' : (src ++ gapOf x ++ Str.ofString "'" ++ wordOf x ++ Str.ofString "'").length ≤ 12 * (i + 1) := by
          simp only [Str.length_append]
          have := gap_len x
          have e1 : (Str.ofString "'").length = 1 := by decide
          omega
        exact toInv _ _ ⟨_, rows ++ [rw], lr, nr + 1, oc', _, oi', _, _, _, fun z => if z = Str.ofString "word" then some (.str (wordOf x) t10) else f z, rfl, fr_map F14 (fun z => by
          by_cases e1 : z = Str.ofString "src"
          · subst e1; rfl
          · by_cases e2 : z = Str.ofString "rows"
            · subst e2; rfl
            · by_cases e3 : z = Str.ofString "numbers"
              · subst e3; rfl
              · simp [e1, e2, e3]), news_sub N14 (sub_rows (objs_snoc rows rw)), hoi', hoc', hlay', hlen', by simp [hrl], (fun q hq => by
          rw [objs_snoc] at hq
          rcases List.mem_append.mp hq with hq | hq
          · exact hro q hq
          · rw [List.mem_singleton.mp hq]; exact ⟨Ne.symm (Nat.ne_of_lt hlt11.1), Ne.symm (Nat.ne_of_lt hlt11.2.1)⟩), fun q hq => by
          rcases List.mem_cons.mp hq with rfl | hq
          · exact hlr (L' + 1, oc) (.head _)
          · rcases List.mem_cons.mp hq with rfl | hq
            · exact hlr (it, oi) (.tail _ (.head _))
            · rcases List.mem_append.mp hq with hq | hq
              · rw [objs_snoc] at hq
                rcases List.mem_append.mp hq with hq | hq
                · exact hlr q (.tail _ (.tail _ (List.mem_append_left _ hq)))
                · rw [List.mem_singleton.mp hq]; exact Ne.symm (Nat.ne_of_lt hlt11.2.2.1)
              · exact hlr q (.tail _ (.tail _ (List.mem_append_right _ hq)))⟩
    · intro hv h5 F5 N5
      clear F4 N4
      have hge : ns.length ≤ i := by
        rw [List.getElem?_eq_none_iff] at hv
        have := hi.length
        omega
      rw [List.take_of_length_le hge] at hlay
      have hri : src.length ≤ 2000 := by
        have h1 : rows.length = ns.length := by
          have := congrArg (fun z => z.2.length) hlay
          simp only [List.length_map] at this
          rw [← this]; exact lay_len ns
        omega
      dsimp only
      k_steps
      rename Fr _ _ _ _ => F6
      rename News _ _ _ _ => N6
      rename (_ ∧ _ ∧ AllLt _ _) => hlt6
      replace N6 := drop_second N6
      exact leaveK_ F6 N6 fun F N => h _ _ _ _ _ _ _ _ F N hlay (fun q hq => hlr q (.tail _ (.tail _ hq))) (fun q hq => Nat.ne_of_lt (allLt_at hlt6.2.2 q hq)) (Nat.ne_of_lt hlt6.2.1)
end Mine
end
section
open PySem PySem.W PyProof.Rows PySem.Calls PySem.SeqAt
set_option maxRecDepth 100000
namespace Mine
section
variable {prog : Program} {w : World} {A : Around} {E : Value → Shared → Prop} {s : Shared} {Q : Value → Shared → Prop} {a b : RowD}
theorem reads_row {h : Heap} {a : RowD} (ha : h.get? a.adr = some a.obj) : Reads h a.val (.list [.str a.word, .int a.st, .int a.en]) [a.adr] :=
  .list ha rfl rfl (.cons (.str _ _) (.cons (.int _ _) (.cons (.int _ _) .nil)))
theorem eqvAll_refl3 (x : Str) (i j : Int) : PyData.eqv (.list [.str x, .int i, .int j]) (.list [.str x, .int i, .int j]) = true := by
  simp [PyData.eqv, PyData.eqvAll]
/-- two equal rows are not unlike -/
theorem ne_same (ha : s.heap.get? a.adr = some a.obj) (hb : s.heap.get? b.adr = some b.obj) (hw : PyData.strOk a.word = true) (he : keyOf a = keyOf b) (hu : A.units + 10 < cLine) (h : Q (.bool false) s) :
    wpAny (model prog w) A (compareOp .NotEq a.val b.val) Q E s := by
  unfold keyOf at he
  injection he with h1 h2
  injection h2 with h2 h3
  have rb := reads_row hb
  rw [← h1, ← h2, ← h3] at rb
  refine compareNe_reads (reads_row ha) rb (by simp [PyData.canLay0, PyData.canLayAll0, hw]) (by simp [PyData.canLay0, PyData.canLayAll0, hw]) ?_ ?_
  · have : min (PyData.list [.str a.word, .int a.st, .int a.en]).depth (PyData.list [.str a.word, .int a.st, .int a.en]).depth ≤ 9 := by
      simp [PyData.depth, PyData.depthAll]
    omega
  · rw [eqvAll_refl3]; exact h
/-- two equal pairs are not unlike -/
theorem ne_tup {ta tb : Addr} {i : Int} {x : Str} {t1 t2 u1 u2 : Tok} (ha : s.heap.get? ta = some { cls := .type "tuple", data := .seq #[.int i t1, .str x t2] }) (hb : s.heap.get? tb = some { cls := .type "tuple", data := .seq #[.int i u1, .str x u2] })
    (hw : PyData.strOk x = true) (hu : A.units + 10 < cLine) (h : Q (.bool false) s) : wpAny (model prog w) A (compareOp .NotEq (.ref ta) (.ref tb)) Q E s := by
  have ra : Reads s.heap (.ref ta) (.tuple [.int i, .str x]) [] := .tuple ha rfl rfl (.cons (.int _ _) (.cons (.str _ _) .nil))
  have rb : Reads s.heap (.ref tb) (.tuple [.int i, .str x]) [] := .tuple hb rfl rfl (.cons (.int _ _) (.cons (.str _ _) .nil))
  refine compareNe_reads ra rb (by simp [PyData.canLay0, PyData.canLayAll0, hw]) (by simp [PyData.canLay0, PyData.canLayAll0, hw]) ?_ ?_
  · have : min (PyData.tuple [.int i, .str x]).depth (PyData.tuple [.int i, .str x]).depth ≤ 9 := by
      simp [PyData.depth, PyData.depthAll]
    omega
  · rw [show PyData.eqv (.tuple [.int i, .str x]) (.tuple [.int i, .str x]) = true from by simp [PyData.eqv, PyData.eqvAll]]; exact h
end
end Mine
end
section
open PySem PySem.W PyProof.Rows PySem.Calls
set_option maxRecDepth 100000
namespace Mine
/-- the statement number k of law's body -/
noncomputable def lawAt (k : Nat) : Stmt := ((bodyAt 24)[k]?).getD (.Pass ⟨0, 0, 0, 0⟩)
noncomputable abbrev lawEnv (L : Addr) : Env := envOfC (Str.ofString "law") (scopeAt 24) L 157 (.ref 156)
noncomputable abbrev lawA (L : Addr) : Around := callerA.deeper (lawEnv L)
/-- the heap after one push -/
noncomputable def pushed (hs : List RowD) (r : RowD) : List RowD := sdFin rowLt r (hs ++ [r]) hs.length
theorem sd_mem {α : Type} (lt : α → α → Bool) (x : α) : ∀ (ys : List α) (pos : Nat) (q : α), q ∈ sdFin lt x ys pos → q = x ∨ q ∈ ys := by
  intro ys pos
  fun_induction sdFin lt x ys pos with
  | case1 ys => intro q hq; exact (List.mem_or_eq_of_mem_set hq).symm
  | case2 ys pos h p hp hlt ih =>
    intro q hq
    rcases ih q hq with h1 | h1
    · exact .inl h1
    · rcases List.mem_or_eq_of_mem_set h1 with h2 | h2
      · exact .inr h2
      · exact .inr (h2 ▸ List.mem_of_getElem? hp)
  | case3 ys pos h p hp hlt => intro q hq; exact (List.mem_or_eq_of_mem_set hq).symm
  | case4 ys pos h hp => intro q hq; exact (List.mem_or_eq_of_mem_set hq).symm
theorem sd_len {α : Type} (lt : α → α → Bool) (x : α) (ys : List α) (pos : Nat) : (sdFin lt x ys pos).length = ys.length := by
  fun_induction sdFin lt x ys pos with
  | case1 ys => simp
  | case2 ys pos h p hp hlt ih => rw [ih]; simp
  | case3 ys pos h p hp hlt => simp
  | case4 ys pos h hp => simp
theorem pushes_mem : ∀ (l : List RowD) (q : RowD), q ∈ l.foldl pushed [] → q ∈ l := by
  have key : ∀ (l acc : List RowD) (q : RowD), q ∈ l.foldl pushed acc → q ∈ acc ∨ q ∈ l := by
    intro l
    induction l with
    | nil => intro acc q hq; exact .inl hq
    | cons r l ih =>
      intro acc q hq
      rcases ih _ q hq with h | h
      · rcases sd_mem _ _ _ _ q h with h | h
        · exact .inr (h ▸ .head _)
        · rcases List.mem_append.mp h with h | h
          · exact .inl h
          · exact .inr (List.mem_singleton.mp h ▸ .head _)
      · exact .inr (.tail _ h)
  intro l q hq
  exact (key l [] q hq).resolve_left (fun h => nomatch h)
theorem pushes_len (l : List RowD) : (l.foldl pushed []).length = l.length := by
  have key : ∀ (l acc : List RowD), (l.foldl pushed acc).length = acc.length + l.length := by
    intro l
    induction l with
    | nil => intro acc; rfl
    | cons r l ih =>
      intro acc
      rw [List.foldl_cons, ih]
      unfold pushed
      rw [sd_len]
      simp
      omega
  simpa using key l []
/-- where the reading stands ahead of the string number i -/
noncomputable def plc (keys : List (Str × Int × Int)) : Nat → Nat
  | 0 => 0
  | i + 1 => ((keys[i]?).map (fun k => k.2.2.toNat)).getD 0
/-- the laid text is read as it was laid -/
structure Scan (W P : Str → Bool) (src : Str) (keys : List (Str × Int × Int)) : Prop where
  small : src.length < 5000
  clean : ∀ (i x : Nat), src.cps[i]? = some x → x ≠ 10 → P ⟨#[x]⟩ = false
  at_ : ∀ i k, keys[i]? = some k → ∃ st en : Nat, k.2.1 = (st : Int) ∧ k.2.2 = (en : Int) ∧ plc keys i ≤ src.length ∧ settle W src (src.length - plc keys i + 1) (plc keys i) = st ∧ st + 1 ≤ src.length ∧
    spots 39 src (st + 1) (src.length - (st + 1)) ≠ [] ∧ nextAt 39 src (st + 1) + 1 = en ∧ cut src (st + 1) (nextAt 39 src (st + 1)) = k.1 ∧ (∀ (j : Nat), st + 1 ≤ j → j < nextAt 39 src (st + 1) → ∀ (x : Nat), src.cps[j]? = some x → x ≠ 10)
  words : ∀ k ∈ keys, PyData.strOk k.1 = true
  end_ : plc keys keys.length ≤ src.length ∧ settle W src (src.length - plc keys keys.length + 1) (plc keys keys.length) = src.length
local macro_rules | `(tactic| k_steps) => `(tactic| repeat' (first | (k_unfold; (try dsimp only)) | ((fail_if_success (with_reducible show wpAny _ _ (exec (Stmt.While _ _ _ _) _) _ _ _)); (fail_if_success (with_reducible show wpAny _ _ (exec (Stmt.For _ _ _ _ _) _) _ _ _)); (fail_if_success (with_reducible show wpAny _ _ (eval (PySem.Expr.ListComp _ _ _ _) _) _ _ _)); (fail_if_success (with_reducible show wpAny _ _ (eval (PySem.Expr.Name _ _) (compEnvC _ _ _ _)) _ _ _)); (fail_if_success (with_reducible show Exists _)); (fail_if_success (with_reducible show LeaveK _ _ _ _ _ _ _)); (fail_if_success (with_reducible show LeaveS _ _ _ _ _ _ _ _ _ _ _ _ _ _ _ _ _ _)); (fail_if_success (with_reducible show wpAny _ _ (call (Value.ref _) _ _) _ _ _)); (first | walk1 | (dsimp only; walk1)))))
set_option maxHeartbeats 8000000 in
theorem law_loop1 {base g : Heap} {L lr lh : Addr} {oc : Obj} {nr nh : Nat} {mg mb : Str → Option Value} {f : Str → Option Value} {rows : List RowD} {src : Str} {us up : Tok} {o : Option (Addr × Obj)} {s : Shared} {w : World} {p : Program} {loose : List Str} {mean : ExcName → Option Value} {Q : Flow → Shared → Prop} {E : Value → Shared → Prop} {P W : Str → Bool}
  (B : Below callerA base [] g) (F : Fr g L s.heap (fun z => if z = Str.ofString "place" then some (.int (0 : Nat) up) else if z = Str.ofString "rows" then some (.ref lr) else if z = Str.ofString "src" then some (.str src us) else f z))
  (XB : (K w.params).In base) (TB : Top p loose mean mg mb base) (N : News g L s.heap ((lh, listOf #[] nh) :: (L + 1, oc) :: (lr, listOf (rows.map RowD.val).toArray nr) :: (tabN o ++ objs rows)))
  (hoc : oc.data = .cell (some (.ref lh))) (hS : StrSet base 36 P) (hW : StrSet base 45 W) (SC : Scan W P src (rows.map keyOf))
  (hlh : ∀ q ∈ (L + 1, oc) :: (lr, listOf (rows.map RowD.val).toArray nr) :: (tabN o ++ objs rows), q.1 ≠ lh) (hz : rows.length < 100)
  (h : ∀ (g' h' : Heap) (tk u nh' : Nat) (f' : Str → Option Value), Below callerA base [] g' → Fr g' L h' (fun z => if z = Str.ofString "place" then some (.int (plc (rows.map keyOf) rows.length : Nat) u) else if z = Str.ofString "rows" then some (.ref lr) else if z = Str.ofString "src" then some (.str src us) else f' z) →
    News g' L h' ((lh, listOf ((rows.foldl pushed []).map RowD.val).toArray nh') :: (L + 1, oc) :: (lr, listOf (rows.map RowD.val).toArray nr) :: (tabN o ++ objs rows)) → Q .next { s with heap := h', toks := tk })
  : wpAny (model PR w) (lawA L) (exec (lawAt 2) (lawEnv L)) Q E s := by
  revert XB; unfold PR; k_fill; intro XB
  have hb : lawAt 2 = lawAt 2 := rfl
  conv at hb => rhs; whnf
  have hs : scopeAt 24 = scopeAt 24 := rfl
  conv at hs => rhs; whnf
  unfold lawA lawEnv
  rw [hb, hs]
  clear hb hs
  have X : (K w.params).In g := XB.keeps B.stays
  have T : Top p loose mean mg mb g := TB.keeps B.stays
  refine wpAny_noRaise ?_
  refine for_list (L := L) (vs := rows.map RowD.val) rfl ?_
  k_steps
  refine ⟨g, _, _, lr, nr, rfl, F, N, .tail _ (.tail _ (.head _)), fun it hit => ?_⟩
  obtain ⟨Inv, toInv, ofInv⟩ : ∃ Inv : Nat → Shared → Prop, (∀ i s', (∃ (g2 h2 : Heap) (tk u : Tok) (nh2 : Nat) (oi : Obj), ∃ f2 : Str → Option Value, s' = { s with heap := h2, toks := tk } ∧ Below callerA base [] g2 ∧ Fr g2 L h2 (fun z => if z = Str.ofString "place" then some (.int (plc (rows.map keyOf) i : Nat) u) else if z = Str.ofString "rows" then some (.ref lr) else if z = Str.ofString "src" then some (.str src us) else f2 z) ∧
    News g2 L h2 ((it, oi) :: (lh, listOf (((rows.take i).foldl pushed []).map RowD.val).toArray nh2) :: (L + 1, oc) :: (lr, listOf (rows.map RowD.val).toArray nr) :: (tabN o ++ objs rows)) ∧ IterOf oi lr i ∧ i ≤ rows.length) → Inv i s') ∧ ∀ i s', Inv i s' → (∃ (g2 h2 : Heap) (tk u : Tok) (nh2 : Nat) (oi : Obj), ∃ f2 : Str → Option Value, s' = { s with heap := h2, toks := tk } ∧ Below callerA base [] g2 ∧ Fr g2 L h2 (fun z => if z = Str.ofString "place" then some (.int (plc (rows.map keyOf) i : Nat) u) else if z = Str.ofString "rows" then some (.ref lr) else if z = Str.ofString "src" then some (.str src us) else f2 z) ∧
    News g2 L h2 ((it, oi) :: (lh, listOf (((rows.take i).foldl pushed []).map RowD.val).toArray nh2) :: (L + 1, oc) :: (lr, listOf (rows.map RowD.val).toArray nr) :: (tabN o ++ objs rows)) ∧ IterOf oi lr i ∧ i ≤ rows.length) :=
    ⟨fun i s' => ∃ (g2 h2 : Heap) (tk u : Tok) (nh2 : Nat) (oi : Obj), ∃ f2 : Str → Option Value, s' = { s with heap := h2, toks := tk } ∧ Below callerA base [] g2 ∧ Fr g2 L h2 (fun z => if z = Str.ofString "place" then some (.int (plc (rows.map keyOf) i : Nat) u) else if z = Str.ofString "rows" then some (.ref lr) else if z = Str.ofString "src" then some (.str src us) else f2 z) ∧
    News g2 L h2 ((it, oi) :: (lh, listOf (((rows.take i).foldl pushed []).map RowD.val).toArray nh2) :: (L + 1, oc) :: (lr, listOf (rows.map RowD.val).toArray nr) :: (tabN o ++ objs rows)) ∧ IterOf oi lr i ∧ i ≤ rows.length, fun _ _ x => x, fun _ _ x => x⟩
  refine ⟨Inv, ?_, ?_⟩
  · intro h4 oi hoi F4 N4
    exact toInv _ _ ⟨g, h4, _, up, nh, oi, f, rfl, B, F4, N4, hoi, Nat.zero_le _⟩
  · intro i s' hInv
    obtain ⟨g2, h2, tk2, u2, nh2, oi, f2, rfl, B2, F2, N2, hoi, hile⟩ := ofInv i s' hInv
    clear hInv
    refine ⟨g2, _, _, lr, nr, oi, F2, N2, hoi, .tail _ (.tail _ (.head _)), (fun q hq => ?_), ?_, ?_⟩
    · rcases List.mem_cons.mp hq with rfl | hq
      · exact hit (lh, listOf #[] nh) (.head _)
      · exact hit q (.tail _ hq)
    · intro v hv h5 oi' hoi' F5 N5
      clear F2 N2
      have X2 : (K w.params).In g2 := XB.keeps B2.stays
      have T2 : Top p loose mean mg mb g2 := TB.keeps B2.stays
      clear F N X T
      obtain ⟨r, hr, rfl⟩ : ∃ r, rows[i]? = some r ∧ v = r.val := by
        rw [List.getElem?_map] at hv
        cases hr : rows[i]? with
        | none => rw [hr] at hv; cases hv
        | some r => rw [hr] at hv; exact ⟨r, rfl, (Option.some.inj hv).symm⟩
      obtain ⟨st, en, hst, hen, hpl, hset, hst1, hsp, hnx, hcut, hno⟩ := SC.at_ i (keyOf r) (by rw [List.getElem?_map, hr]; rfl)
      k_steps
      rename Fr _ _ _ _ => F6
      rename News _ _ _ _ => N6
      refine skip_ws_call (P := P) (W := W) B2 F6 XB N6 TB ktsDicts_nil rfl rfl rfl (by show callerA.depth + 1 + 110 < recursionLimit; decide) (by show callerA.units + 3 + 700 < cLine; decide) rfl hS hW SC.small hpl SC.clean fun g3 h3 tk3 u3 KT3 B3 D3 F7 N7 => ?_
      rw [hset]
      clear F6 N6 X2 T2
      have X3 : (K w.params).In g3 := XB.keeps B3.stays
      have T3 : Top p loose mean mg mb g3 := TB.keeps B3.stays
      dsimp only
      k_steps
      rename Fr _ _ _ _ => F8
      rename News _ _ _ _ => N8
      refine parse_ok (P := P) B3 F8 XB N8 TB ktsDicts_nil rfl rfl rfl (by show callerA.depth + 1 + 90 < recursionLimit; decide) (by show callerA.units + 3 + 600 < cLine; decide) rfl hS SC.small hst1 hsp (fun j h1 h2 x hx => SC.clean j x hx (hno j h1 h2 x hx)) fun g4 h4 tk4 u4 v4 a4 KT4 B4 D4 F9 N9 hne9 => ?_
      rw [hnx, hcut] at N9
      clear F8 N8 X3 T3
      have X4 : (K w.params).In g4 := XB.keeps B4.stays
      have T4 : Top p loose mean mg mb g4 := TB.keeps B4.stays
      dsimp only
      k_steps
      rename Fr _ _ _ _ => F10
      rename News _ _ _ _ => N10
      rename (_ ∧ _ ∧ _ ∧ _ ∧ _ ∧ AllLt _ _) => hlt10
      obtain ⟨ra, hra, hrw, hrs, hre, N11⟩ := mk_row N10
      subst hra
      have hkey : keyOf ra = keyOf r := by unfold keyOf at hst hen hrw ⊢; rw [hrw, hrs, hre]; simp only at hst hen ⊢; rw [hst, hen]
      have hrm : r ∈ rows := List.mem_of_getElem? hr
      have hro : (r.adr, r.obj) ∈ objs rows := List.mem_map_of_mem (f := fun r : RowD => (r.adr, r.obj)) hrm
      have hok : PyData.strOk ra.word = true := by
        have := SC.words (keyOf r) (List.mem_map_of_mem hrm)
        rw [← hkey] at this; exact this
      refine ne_same (a := ra) (b := r) (N11 _ (.head _)).1 (N11 _ (.tail _ (.tail _ (.tail _ (.tail _ (.tail _ (.tail _ (List.mem_append_right _ hro)))))))).1 hok hkey (by show callerA.units + 3 + 10 < cLine; decide) ?_
      replace N11 := news_sub (l' := (it, oi') :: (lh, listOf (((rows.take i).foldl pushed []).map RowD.val).toArray nh2) :: (L + 1, oc) :: (lr, listOf (rows.map RowD.val).toArray nr) :: (tabN o ++ objs rows)) N11 (fun q hq => .tail _ (.tail _ hq))
      clear N10
      k_steps
      replace N11 := news_sub (l' := (lh, listOf (((rows.take i).foldl pushed []).map RowD.val).toArray nh2) :: (it, oi') :: (L + 1, oc) :: (lr, listOf (rows.map RowD.val).toArray nr) :: (tabN o ++ objs rows)) N11 (fun q hq => by
        rcases List.mem_cons.mp hq with rfl | hq
        · exact .tail _ (.head _)
        · rcases List.mem_cons.mp hq with rfl | hq
          · exact .head _
          · exact .tail _ (.tail _ hq))
      refine heappush_call (x := r) B4 F10 X4 N11 T4 rfl rfl rfl (by show callerA.depth + 1 + 20 < recursionLimit; decide) (by show callerA.units + 3 + 200 < cLine; decide) rfl (fun q hq => ?_) (fun q hq => ?_) ?_ fun h12 tk12 F12 N12 => ?_
      · rcases List.mem_cons.mp hq with rfl | hq
        · exact fun z => hit (lh, listOf #[] nh) (.head _) z.symm
        · exact hlh q hq
      · refine .tail _ (.tail _ (.tail _ (List.mem_append_right _ ?_)))
        refine List.mem_map_of_mem (f := fun r : RowD => (r.adr, r.obj)) ?_
        rcases List.mem_cons.mp hq with rfl | hq
        · exact hrm
        · exact List.mem_of_mem_take (pushes_mem _ _ hq)
      · rw [pushes_len]; simp; omega
      clear F10 N11
      k_steps
      rename Fr _ _ _ _ => F13
      rename News _ _ _ _ => N13
      have hp1 : (rows.take (i + 1)).foldl pushed [] = pushed ((rows.take i).foldl pushed []) r := by
        rw [List.take_add_one, hr, List.foldl_append]; rfl
      have hpl1 : plc (rows.map keyOf) (i + 1) = en := by
        show ((((rows.map keyOf)[i]?).map _).getD 0) = en
        rw [List.getElem?_map, hr]
        show (keyOf r).2.2.toNat = en
        rw [hen]; rfl
      rw [show sdFin rowLt r ((rows.take i).foldl pushed [] ++ [r]) ((rows.take i).foldl pushed []).length = (rows.take (i + 1)).foldl pushed [] from hp1.symm] at N13
      exact toInv _ _ ⟨g4, h12, _, u4, nh2 + 1, oi', fun z => if z = Str.ofString "word" then some (.str (keyOf r).1 v4) else if z = Str.ofString "start" then some (.int (st : Nat) u3) else if z = Str.ofString "row" then some r.val else f2 z, rfl, B4, fr_map F13 (fun z => by
        by_cases e1 : z = Str.ofString "place"
        · subst e1; rw [hpl1]; rfl
        · by_cases e2 : z = Str.ofString "rows"
          · subst e2; rfl
          · by_cases e3 : z = Str.ofString "src"
            · subst e3; rfl
            · simp [e1, e2, e3]), news_sub N13 (fun q hq => by
        rcases List.mem_cons.mp hq with rfl | hq
        · exact .tail _ (.head _)
        · rcases List.mem_cons.mp hq with rfl | hq
          · exact .head _
          · exact .tail _ (.tail _ hq)), hoi', (List.getElem?_eq_some_iff.mp hr).1⟩
    · intro hv h5 F5 N5
      have hge : rows.length ≤ i := by rw [List.getElem?_eq_none_iff] at hv; simpa using hv
      have hi2 : i = rows.length := by omega
      subst hi2
      rw [List.take_length] at N5
      exact h g2 h5 _ u2 nh2 f2 B2 F5 N5
end Mine
end
section
open PySem PySem.W PyProof.Rows PySem.Calls PySem.Builtin.Str
set_option maxRecDepth 100000
namespace Mine
theorem split_nl (x : Str) : Txt.split x (Str.ofString "\n") = if spots 10 x 0 x.length = [] then [x] else partsBetween x (spots 10 x 0 x.length) 1 := by
  unfold Txt.split
  rw [occ_lines x x.length (Nat.le_refl _)]
  have hk : ¬ (Builtin.Str.strKind x < Builtin.Str.strKind (Str.ofString "\n")) := by
    have : Builtin.Str.strKind (Str.ofString "\n") = 1 := by decide +kernel
    rw [this]
    unfold Builtin.Str.strKind
    split
    · omega
    · split <;> omega
  by_cases hx : x.length < 1
  · have h0 : x.length = 0 := by omega
    have hs : spots 10 x 0 x.length = [] := by rw [h0]; rfl
    rw [if_pos (by simp only [Bool.or_eq_true, decide_eq_true_eq]; exact .inl hx), if_pos hs]
  · rw [if_neg (by simp only [Bool.or_eq_true, decide_eq_true_eq]; exact fun z => z.elim hx hk)]
    by_cases hs : spots 10 x 0 x.length = []
    · rw [if_pos hs, if_pos (by rw [hs]; rfl)]
    · rw [if_neg hs, if_neg (by simpa using hs)]
      rfl
theorem parts_len (x : Str) (cuts : List Nat) : (partsBetween x cuts 1).length = cuts.length + 1 := by
  unfold partsBetween
  simp
theorem parts_last (x : Str) (cuts : List Nat) (k : Nat) (h : cuts.getLast? = some k) : (partsBetween x cuts 1).getLast? = some (strSub x (k + 1) x.length) := by
  unfold partsBetween
  dsimp only
  rw [List.getLast?_map]
  have hz : (List.zip (0 :: cuts.map (· + 1)) (cuts ++ [x.length])).getLast? = some (k + 1, x.length) := by
    rw [List.getLast?_eq_getElem?]
    have hl : (List.zip (0 :: cuts.map (· + 1)) (cuts ++ [x.length])).length - 1 = cuts.length := by simp
    rw [hl, List.getElem?_zip_eq_some]
    constructor
    · cases hc : cuts with
      | nil => rw [hc] at h; cases h
      | cons a t =>
        rw [hc, List.getLast?_eq_getElem?] at h
        show ((a :: t).map (· + 1))[t.length]? = some (k + 1)
        rw [List.getElem?_map]
        have : (a :: t)[t.length]? = some k := by simpa using h
        rw [this]; rfl
    · simp
  rw [hz]; rfl
theorem sub_len (x : Str) (i : Nat) (_hi : i ≤ x.length) : (strSub x i x.length).length = x.length - i := by
  unfold strSub Str.length at *
  simp
theorem cut_len {x : Str} {b : Nat} (hb : b ≤ x.length) : (cut x 0 b).length = b := by
  unfold cut Str.length at *
  simp only [List.drop_zero, Nat.sub_zero, List.size_toArray, List.length_take, Array.length_toList]
  omega
theorem cut_get {x : Str} {b i : Nat} (hi : i < b) : (cut x 0 b).cps[i]? = x.cps[i]? := by
  unfold cut
  simp only [List.drop_zero, Nat.sub_zero, List.getElem?_toArray]
  rw [List.getElem?_take_of_lt hi, Array.getElem?_toList]
theorem cut_spots {c : Nat} {x : Str} {b : Nat} : spots c (cut x 0 b) 0 b = spots c x 0 b := by
  unfold spots
  apply List.filter_congr
  intro i hi
  have hi := List.mem_range'.mp hi
  rw [cut_get (by omega)]
/-- the pieces ahead of a place tell its line and its column -/
theorem ahead_told {x : Str} {st : Nat} (hst : st ≤ x.length) (l : List (Str × Tok)) (h : l.map (fun q => q.fst) = Txt.split (Txt.slice x none (some (st : Int))) (Str.ofString "\n")) :
    l.length = lineOf x st ∧ ∃ y t, l.getLast? = some (y, t) ∧ y.length + 1 = colOf x st := by
  rw [slice_cut0 hst, split_nl, cut_len hst, cut_spots] at h
  have hlen := congrArg List.length h
  rw [List.length_map] at hlen
  have hlast := congrArg List.getLast? h
  rw [List.getLast?_map] at hlast
  by_cases hs : spots 10 x 0 st = []
  · rw [if_pos hs] at hlen hlast
    refine ⟨by unfold lineOf; rw [hs, hlen]; rfl, ?_⟩
    cases hq : l.getLast? with
    | none => rw [hq] at hlast; cases hlast
    | some q =>
      rw [hq] at hlast
      have : q.1 = cut x 0 st := Option.some.inj hlast
      refine ⟨q.1, q.2, rfl, ?_⟩
      unfold colOf
      rw [hs, this, cut_len hst]
      rfl
  · rw [if_neg hs] at hlen hlast
    refine ⟨by unfold lineOf; rw [hlen, parts_len], ?_⟩
    obtain ⟨k, hk⟩ : ∃ k, (spots 10 x 0 st).getLast? = some k := by
      cases hq : (spots 10 x 0 st).getLast? with
      | none => exact absurd (List.getLast?_eq_none_iff.mp hq) hs
      | some k => exact ⟨k, rfl⟩
    have hkp : k < st := spots_lt (List.mem_of_getLast? hk)
    rw [parts_last _ _ k hk] at hlast
    cases hq : l.getLast? with
    | none => rw [hq] at hlast; cases hlast
    | some q =>
      rw [hq] at hlast
      have : q.1 = strSub (cut x 0 st) (k + 1) (cut x 0 st).length := Option.some.inj hlast
      refine ⟨q.1, q.2, rfl, ?_⟩
      unfold colOf
      rw [hk, this, sub_len _ _ (by rw [cut_len hst]; omega), cut_len hst]
      show st - (k + 1) + 1 = st - k
      omega
theorem last_at {prog : Program} {w : World} {A : Around} {E : Value → Shared → Prop} {s : Shared} {value slice : PySem.Expr} {a : Addr} {l : List (Str × Tok)} {u t : Tok} {y : Str} {Q : Value → Shared → Prop}
    (hl : s.heap.IsList a (strValues l).toArray) (hy : l.getLast? = some (y, t)) (hz : (l.length : Int) ≤ 5001) (h : Q (.str y t) s)
    (hs : subscripted slice false (.ref a) (.int (-1) u) = operate [.ref a, .int (-1) u] (getItem (.ref a) (.int (-1) u)) := by with_unfolding_all rfl) :
    wpAny (model prog w) A (subscriptTail value slice (.ref a) (.int (-1) u)) Q E s := by
  have hne : 0 < l.length := by
    cases l with
    | nil => cases hy
    | cons a t => simp
  have hsl : (strValues l).length = l.length := by unfold strValues; simp
  refine tail_any hl.typeIs slot_list_getitem.lookup (wpAny_getItem_list_neg hl (by decide) (by rw [List.size_toArray, hsl]; omega) (by decide) ?_ h) hs
  rw [List.size_toArray, hsl, show ((-1 : Int) + (l.length : Int)).toNat = l.length - 1 by omega, List.getElem?_toArray]
  unfold strValues
  rw [List.getElem?_map, ← List.getLast?_eq_getElem?, hy]
  rfl
theorem line_le (x : Str) (st : Nat) : lineOf x st ≤ st + 1 := by
  unfold lineOf
  have : (spots 10 x 0 st).length ≤ (List.range' 0 st).length := List.length_filter_le ..
  simp at this
  omega
theorem col_le (x : Str) (st : Nat) : colOf x st ≤ st + 1 := by
  unfold colOf
  split <;> omega
end Mine
end
section
open PySem PySem.W PyProof.Rows PySem.Calls
set_option maxRecDepth 100000
namespace Mine
/-- the statements of the second loop's body, but for the first -/
noncomputable def turnRest : List Stmt := match lawAt 4 with
  | .For _ _ body _ _ => body.drop 1
  | _ => []
theorem err_end (x : Str) : errStr (Str.ofString "Expected \"'\"") x x.length = Str.ofString "Expected \"'\" (at end of document)" := by
  unfold errStr coordStr
  rw [if_pos (Nat.le_refl _)]
  kernel_rfl
theorem err_here (x : Str) : errStr (Str.ofString "here") x x.length = Str.ofString "here (at end of document)" := by
  unfold errStr coordStr
  rw [if_pos (Nat.le_refl _)]
  kernel_rfl
theorem rest_fin {g h : Heap} {L : Addr} {a b c d e : Option Value} {u : Option Value} {f : Str → Option Value} (F : Fr g L h (fun y => if y = Str.ofString "words" then a else if y = Str.ofString "ahead" then b else if y = Str.ofString "end" then c else if y = Str.ofString "start" then d else if y = Str.ofString "word" then e else if y = Str.ofString "src" then u else f y)) :
    Fr g L h (fun y => if y = Str.ofString "src" then u else if y = Str.ofString "ahead" ∨ y = Str.ofString "words" then (if y = Str.ofString "words" then a else b) else if y = Str.ofString "end" then c else if y = Str.ofString "start" then d else if y = Str.ofString "word" then e else f y) := fr_map F (fun z => by
    by_cases e1 : z = Str.ofString "src"
    · subst e1; rfl
    · by_cases e2 : z = Str.ofString "ahead" ∨ z = Str.ofString "words"
      · rw [if_neg e1, if_pos e2]
        rcases e2 with rfl | rfl <;> rfl
      · rw [if_neg e1, if_neg e2, if_neg (fun q => e2 (.inr q)), if_neg (fun q => e2 (.inl q)), if_neg e1])
theorem str_assoc (a b c : Str) : a ++ b ++ c = a ++ (b ++ c) := by
  cases a; cases b; cases c
  show Str.mk _ = Str.mk _
  exact congrArg Str.mk (Array.append_assoc)
theorem words_eq {src : Str} {st l c : Nat} (hst : st < src.length) (h1 : l = lineOf src st) (h2 : c = colOf src st) :
    errStr (Str.ofString "here") src st = Str.ofString "here (at line " ++ Str.ofString (toString (l : Int)) ++ Str.ofString ", column " ++ Str.ofString (toString (c : Int)) ++ Str.ofString ")" := by
  unfold errStr coordStr lcStr
  rw [if_neg (by omega), ← h1, ← h2]
  have e : Str.ofString "here (at line " = Str.empty ++ Str.ofString "here" ++ Str.ofString " (at " ++ (Str.empty ++ Str.ofString "line ") := by kernel_rfl
  rw [e]
  simp only [str_assoc]
local macro_rules | `(tactic| k_steps) => `(tactic| repeat' (first | (k_unfold; (try dsimp only)) | ((fail_if_success (with_reducible show wpAny _ _ (exec (Stmt.While _ _ _ _) _) _ _ _)); (fail_if_success (with_reducible show wpAny _ _ (exec (Stmt.For _ _ _ _ _) _) _ _ _)); (fail_if_success (with_reducible show wpAny _ _ (eval (PySem.Expr.ListComp _ _ _ _) _) _ _ _)); (fail_if_success (with_reducible show wpAny _ _ (eval (PySem.Expr.Name _ _) (compEnvC _ _ _ _)) _ _ _)); (fail_if_success (with_reducible show Exists _)); (fail_if_success (with_reducible show LeaveK _ _ _ _ _ _ _)); (fail_if_success (with_reducible show LeaveS _ _ _ _ _ _ _ _ _ _ _ _ _ _ _ _ _ _)); (fail_if_success (with_reducible show wpAny _ _ (call (Value.ref _) _ _) _ _ _)); (first | walk1 | (dsimp only; walk1)))))
set_option maxHeartbeats 8000000 in
theorem law_rest {base g : Heap} {L : Addr} {mg mb : Str → Option Value} {f : Str → Option Value} {rest : List (Addr × Obj)} {wd : Value} {src : Str} {us ue ut : Tok} {st en : Nat} {o : Option (Addr × Obj)} {s : Shared} {w : World} {p : Program} {loose : List Str} {mean : ExcName → Option Value} {Q : Flow → Shared → Prop} {E : Value → Shared → Prop}
  (B : Below callerA base [] g) (F : Fr g L s.heap (fun y => if y = Str.ofString "end" then some (.int (en : Int) ue) else if y = Str.ofString "start" then some (.int (st : Int) ut) else if y = Str.ofString "word" then some wd else if y = Str.ofString "src" then some (.str src us) else f y))
  (XB : (K w.params).In base) (TB : Top p loose mean mg mb base) (C : CodeHd base 99 95) (ho : TabOk o) (N : News g L s.heap (tabN o ++ rest)) (hoff : ∀ q ∈ rest, q.1 ≠ 95) (hzs : src.length < 5000)
  (hst1 : st + 1 ≤ src.length) (hen1 : 1 ≤ en) (hen2 : en ≤ src.length) (hste : st + 1 ≤ en - 1) (hno : spots 39 (cut src 0 (en - 1)) (st + 1) ((cut src 0 (en - 1)).length - (st + 1)) = [])
  (h : ∀ (g' h' : Heap) (tk : Nat) (o' : Option (Addr × Obj)) (f' : Str → Option Value), Below callerA base [] g' → TabOk o' → Fr g' L h' (fun y => if y = Str.ofString "src" then some (.str src us) else if y = Str.ofString "ahead" ∨ y = Str.ofString "words" then f' y else if y = Str.ofString "end" then some (.int (en : Int) ue) else if y = Str.ofString "start" then some (.int (st : Int) ut) else if y = Str.ofString "word" then some wd else f y) →
    News g' L h' (tabN o' ++ rest) → Q .next { s with heap := h', toks := tk })
  : wpAny (model PR w) (lawA L) (execs turnRest (lawEnv L)) Q E s := by
  revert XB; unfold PR; k_fill; intro XB
  have hb : turnRest = turnRest := rfl
  conv at hb => rhs; whnf
  have hs' : scopeAt 24 = scopeAt 24 := rfl
  conv at hs' => rhs; whnf
  unfold lawA lawEnv
  rw [hb, hs']
  clear hb hs'
  have X : (K w.params).In g := XB.keeps B.stays
  have T : Top p loose mean mg mb g := TB.keeps B.stays
  refine wpAny_noRaise ?_
  k_steps
  rename Fr _ _ _ _ => F1
  rename News _ _ _ _ => N1
  have hcl : (cut src 0 (en - 1)).length = en - 1 := by
    unfold cut Str.length
    simp only [List.drop_zero, Nat.sub_zero, List.size_toArray, List.length_take, Array.length_toList]
    unfold Str.length at hen2
    omega
  rw [show ((en : Int) - 1) = ((en - 1 : Nat) : Int) from by omega, slice_cut0 (by omega)]
  refine refused_call B F1 XB C N1 ho TB ktsDicts_nil rfl rfl rfl (by show callerA.depth + 1 + 110 < recursionLimit; decide) (by show callerA.units + 3 + 700 < cLine; decide) rfl hoff (by omega) (by omega) hno fun g2 h2 o2 tk2 u2 KT2 B2 D2 ho2 F2 N2 => ?_
  rw [err_end]
  clear F1 N1 X T
  have X2 : (K w.params).In g2 := XB.keeps B2.stays
  have T2 : Top p loose mean mg mb g2 := TB.keeps B2.stays
  dsimp only
  k_steps
  rename (List.map (fun x : Str × Tok => x.fst) _ = Txt.split _ _) => hl
  obtain ⟨hl1, y, ty, hl2, hl3⟩ := ahead_told (by omega) _ hl
  have hl4 := line_le src st
  have hl5 := col_le src st
  have hll : (List.length _ : Int) ≤ 5001 := (by rw [hl1]; omega : ((List.length _ : Nat) : Int) ≤ 5001)
  k_steps
  rename Fr _ _ _ _ => F5
  rename News _ _ _ _ => N5
  refine last_at ⟨_, (N5 _ (.head _)).1, rfl, _, rfl⟩ hl2 hll ?_
  dsimp only
  have hyl : (y.length : Int) ≤ 5001 := by omega
  k_steps
  rename Fr _ _ _ _ => F6
  rename News _ _ _ _ => N6
  replace N6 := news_sub (l' := tabN o2 ++ rest) N6 (fun q hq => .tail _ hq)
  refine suffixed_err_call B2 F6 X2 (C.keeps B2.stays) N6 ho2 T2 rfl rfl rfl (by show callerA.depth + 1 + 50 < recursionLimit; decide) (by show callerA.units + 3 + 400 < cLine; decide) hoff hzs (by omega) (by decide) fun e7 t7 o7 h7 tk7 u7 ho7 F7 N7 hd7 => ?_
  rw [words_eq (l := _) (c := y.length + 1) (by omega) hl1 hl3] at N7
  clear F6 N6
  rw [show (((y.length + 1 : Nat)) : Int) = (y.length : Int) + 1 from by omega] at N7
  have herr : ErrAt h7 e7 _ u7 := ⟨_, _, t7, (N7 _ (.head _)).1, rfl, rfl, rfl, _, _, (N7 _ (.tail _ (.head _))).1, rfl, rfl⟩
  dsimp only
  k_steps
  refine err_str (X2.keeps F7.keep) (by show callerA.units + 3 + 2 < cLine; decide) herr ?_
  replace N7 := news_sub (l' := tabN o7 ++ rest) N7 (fun q hq => .tail _ (.tail _ hq))
  clear herr
  try dsimp only
  k_steps
  · rename ((_ != _) = true) => hne
    exact absurd hne (by simp)
  · exact h g2 h7 _ o7 (fun y => if y = Str.ofString "words" then _ else _) B2 ho7 (rest_fin F7) N7
end Mine
end
section
open PySem PySem.W PyProof.Rows PySem.Calls
set_option maxRecDepth 100000
namespace Mine
/-- the heap after one pop -/
noncomputable def popped (hs : List RowD) : List RowD := match hs.getLast?, hs.dropLast with | some y, _ :: t => suFin rowLt y (y :: t) 0 | _, _ => []
noncomputable def popN (hs : List RowD) : Nat → List RowD
  | 0 => hs
  | i + 1 => popped (popN hs i)
theorem pop_split (r : RowD) (t0 : List RowD) : ∃ init y, r :: t0 = init ++ [y] ∧ popVal init y = r.val ∧ popRest init y = popped (r :: t0) := by
  refine ⟨(r :: t0).dropLast, (r :: t0).getLast (by simp), (List.dropLast_concat_getLast _).symm, ?_, ?_⟩
  · cases t0 with
    | nil => rfl
    | cons a t => rfl
  · unfold popped
    rw [List.getLast?_eq_some_getLast (by simp : r :: t0 ≠ [])]
    cases (r :: t0).dropLast with
    | nil => rfl
    | cons a t => rfl
/-- what is asked of a string's place in the second turn -/
structure Told (P : Str → Bool) (src : Str) (k : Str × Int × Int) : Prop where
  word : PyData.strOk k.1 = true
  ok : ∃ st en : Nat, k.2.1 = (st : Int) ∧ k.2.2 = (en : Int) ∧ st + 1 ≤ src.length ∧ 1 ≤ en ∧ en ≤ src.length ∧ st + 1 ≤ en - 1 ∧ spots 39 src (st + 1) (src.length - (st + 1)) ≠ [] ∧ nextAt 39 src (st + 1) + 1 = en ∧ cut src (st + 1) (nextAt 39 src (st + 1)) = k.1 ∧
    (∀ (j : Nat), st + 1 ≤ j → j < nextAt 39 src (st + 1) → ∀ (x : Nat), src.cps[j]? = some x → P ⟨#[x]⟩ = false) ∧
    spots 39 (cut src 0 (en - 1)) (st + 1) ((cut src 0 (en - 1)).length - (st + 1)) = []
/-- an object of another kind does not lie in the table's places -/
theorem tab_ne {g h : Heap} {L a : Addr} {ob : Obj} {o : Option (Addr × Obj)} {news : List (Addr × Obj)} (N : News g L h news) (ht : ∀ q ∈ tabN o, q ∈ news) (ho : TabOk o) (ha : (a, ob) ∈ news) (h95 : a ≠ 95)
    (hob : ∀ vs : Array Value, ∀ x t, ob.data = .fields vs → vs[1]? ≠ some (.str x t)) : ∀ q ∈ tabN o, q.1 ≠ a := by
  intro q hq e
  cases o with
  | none =>
    obtain rfl := List.mem_singleton.mp hq
    exact h95 e.symm
  | some c =>
    rcases List.mem_cons.mp hq with rfl | hq
    · exact h95 e.symm
    · obtain rfl := List.mem_singleton.mp hq
      obtain ⟨vs, t, hd, hv⟩ := ho
      have h1 := (N _ (ht _ (.tail _ (.head _)))).1
      have h2 := (N _ ha).1
      dsimp only at e
      subst e
      rw [h1] at h2
      have := Option.some.inj h2
      rw [this] at hd
      exact hob vs _ _ hd hv
theorem iter_no {oi : Obj} {l : Addr} {i : Nat} (h : IterOf oi l i) : ∀ vs : Array Value, ∀ x t, oi.data = .fields vs → vs[1]? ≠ some (.str x t) := by
  intro vs x t hd
  rw [h.2] at hd
  injection hd with hd
  subst hd
  simp
theorem list_no {its : Array Value} {n : Nat} : ∀ vs : Array Value, ∀ x t, (listOf its n).data = .fields vs → vs[1]? ≠ some (.str x t) := by
  intro vs x t hd
  cases hd
local macro_rules | `(tactic| k_steps) => `(tactic| repeat' (first | (k_unfold; (try dsimp only)) | ((fail_if_success (with_reducible show wpAny _ _ (exec (Stmt.While _ _ _ _) _) _ _ _)); (fail_if_success (with_reducible show wpAny _ _ (exec (Stmt.For _ _ _ _ _) _) _ _ _)); (fail_if_success (with_reducible show wpAny _ _ (eval (PySem.Expr.ListComp _ _ _ _) _) _ _ _)); (fail_if_success (with_reducible show wpAny _ _ (eval (PySem.Expr.Name _ _) (compEnvC _ _ _ _)) _ _ _)); (fail_if_success (with_reducible show wpAny _ _ (execs (Stmt.If (PySem.Expr.Compare (PySem.Expr.Call (PySem.Expr.Name (Str.ofString "_law_refused") _) _ _ _) _ _ _) _ _ _ :: _) _) _ _ _)); (fail_if_success (with_reducible show Exists _)); (fail_if_success (with_reducible show LeaveK _ _ _ _ _ _ _)); (fail_if_success (with_reducible show LeaveS _ _ _ _ _ _ _ _ _ _ _ _ _ _ _ _ _ _)); (fail_if_success (with_reducible show wpAny _ _ (call (Value.ref _) _ _) _ _ _)); (first | walk1 | (dsimp only; walk1)))))
set_option maxHeartbeats 8000000 in
theorem law_loop2 {base g : Heap} {L lr lh : Addr} {oc : Obj} {nr nh : Nat} {mg mb : Str → Option Value} {f : Str → Option Value} {rows hs : List RowD} {src : Str} {us : Tok} {o : Option (Addr × Obj)} {s : Shared} {w : World} {p : Program} {loose : List Str} {mean : ExcName → Option Value} {Q : Flow → Shared → Prop} {E : Value → Shared → Prop} {P : Str → Bool}
  (B : Below callerA base [] g) (F : Fr g L s.heap (fun z => if z = Str.ofString "rows" then some (.ref lr) else if z = Str.ofString "src" then some (.str src us) else f z))
  (XB : (K w.params).In base) (TB : Top p loose mean mg mb base) (C : CodeHd base 99 95) (ho : TabOk o) (N : News g L s.heap ((lh, listOf (hs.map RowD.val).toArray nh) :: (L + 1, oc) :: (lr, listOf (rows.map RowD.val).toArray nr) :: (tabN o ++ objs rows)))
  (hoc : oc.data = .cell (some (.ref lh))) (hS : StrSet base 36 P) (hlr : lr ≠ lh) (hL1 : L + 1 ≠ lh) (hrl : ∀ r ∈ rows, r.adr ≠ lh) (h95 : lh ≠ 95 ∧ L + 1 ≠ 95 ∧ lr ≠ 95 ∧ ∀ r ∈ rows, r.adr ≠ 95) (hz : rows.length < 100) (hzs : src.length < 5000)
  (told : ∀ r ∈ rows, Told P src (keyOf r)) (pops : ∀ i r, (rise rows)[i]? = some r → (popN hs i).head? = some r ∧ (popN hs i).length = rows.length - i ∧ ∀ q ∈ popN hs i, q ∈ rows)
  (h : ∀ (g' h' : Heap) (tk nh' : Nat) (o' : Option (Addr × Obj)) (f' : Str → Option Value), Below callerA base [] g' → TabOk o' → Fr g' L h' (fun z => if z = Str.ofString "rows" then some (.ref lr) else if z = Str.ofString "src" then some (.str src us) else f' z) →
    News g' L h' ((lh, listOf ((popN hs rows.length).map RowD.val).toArray nh') :: (L + 1, oc) :: (lr, listOf (rows.map RowD.val).toArray nr) :: (tabN o' ++ objs rows)) → Q .next { s with heap := h', toks := tk })
  : wpAny (model PR w) (lawA L) (exec (lawAt 4) (lawEnv L)) Q E s := by
  revert XB; unfold PR; k_fill; intro XB
  have hb : lawAt 4 = lawAt 4 := rfl
  conv at hb => rhs; whnf
  have hs' : scopeAt 24 = scopeAt 24 := rfl
  conv at hs' => rhs; whnf
  unfold lawA lawEnv
  rw [hb, hs']
  clear hb hs'
  have X : (K w.params).In g := XB.keeps B.stays
  have T : Top p loose mean mg mb g := TB.keeps B.stays
  refine wpAny_noRaise ?_
  refine for_list (L := L) (vs := (rise rows).map RowD.val) rfl ?_
  k_steps
  refine rising_call (rs := rows) B F X N T rfl rfl rfl (by show callerA.depth + 1 + 40 < recursionLimit; decide) (by show callerA.units + 3 + 300 < cLine; decide) rfl (.tail _ (.tail _ (.head _))) (fun r hr => .tail _ (.tail _ (.tail _ (List.mem_append_right _ (List.mem_map_of_mem (f := fun r : RowD => (r.adr, r.obj)) hr))))) (by omega) fun h1 tk1 lt nt F1 N1 hlt1 => ?_
  clear F N
  refine ⟨g, _, _, lt, nt, rfl, F1, N1, .head _, fun it hit => ?_⟩
  obtain ⟨Inv, toInv, ofInv⟩ : ∃ Inv : Nat → Shared → Prop, (∀ i s', (∃ (g2 h2 : Heap) (tk nh2 : Nat) (oi : Obj) (o2 : Option (Addr × Obj)), ∃ f2 : Str → Option Value, s' = { s with heap := h2, toks := tk } ∧ Below callerA base [] g2 ∧ TabOk o2 ∧ Fr g2 L h2 (fun z => if z = Str.ofString "rows" then some (.ref lr) else if z = Str.ofString "src" then some (.str src us) else f2 z) ∧
    News g2 L h2 ((it, oi) :: (lt, listOf ((rise rows).map RowD.val).toArray nt) :: (lh, listOf ((popN hs i).map RowD.val).toArray nh2) :: (L + 1, oc) :: (lr, listOf (rows.map RowD.val).toArray nr) :: (tabN o2 ++ objs rows)) ∧ IterOf oi lt i ∧ i ≤ rows.length) → Inv i s') ∧ ∀ i s', Inv i s' → (∃ (g2 h2 : Heap) (tk nh2 : Nat) (oi : Obj) (o2 : Option (Addr × Obj)), ∃ f2 : Str → Option Value, s' = { s with heap := h2, toks := tk } ∧ Below callerA base [] g2 ∧ TabOk o2 ∧ Fr g2 L h2 (fun z => if z = Str.ofString "rows" then some (.ref lr) else if z = Str.ofString "src" then some (.str src us) else f2 z) ∧
    News g2 L h2 ((it, oi) :: (lt, listOf ((rise rows).map RowD.val).toArray nt) :: (lh, listOf ((popN hs i).map RowD.val).toArray nh2) :: (L + 1, oc) :: (lr, listOf (rows.map RowD.val).toArray nr) :: (tabN o2 ++ objs rows)) ∧ IterOf oi lt i ∧ i ≤ rows.length) :=
    ⟨fun i s' => ∃ (g2 h2 : Heap) (tk nh2 : Nat) (oi : Obj) (o2 : Option (Addr × Obj)), ∃ f2 : Str → Option Value, s' = { s with heap := h2, toks := tk } ∧ Below callerA base [] g2 ∧ TabOk o2 ∧ Fr g2 L h2 (fun z => if z = Str.ofString "rows" then some (.ref lr) else if z = Str.ofString "src" then some (.str src us) else f2 z) ∧
    News g2 L h2 ((it, oi) :: (lt, listOf ((rise rows).map RowD.val).toArray nt) :: (lh, listOf ((popN hs i).map RowD.val).toArray nh2) :: (L + 1, oc) :: (lr, listOf (rows.map RowD.val).toArray nr) :: (tabN o2 ++ objs rows)) ∧ IterOf oi lt i ∧ i ≤ rows.length, fun _ _ x => x, fun _ _ x => x⟩
  refine ⟨Inv, ?_, ?_⟩
  · intro h4 oi hoi F4 N4
    exact toInv _ _ ⟨g, h4, _, nh, oi, o, f, rfl, B, ho, F4, N4, hoi, Nat.zero_le _⟩
  · intro i s' hInv
    obtain ⟨g2, h2, tk2, nh2, oi, o2, f2, rfl, B2, ho2, F2, N2, hoi, hile⟩ := ofInv i s' hInv
    clear hInv
    refine ⟨g2, _, _, lt, nt, oi, F2, N2, hoi, .head _, (fun q hq => ?_), ?_, ?_⟩
    · have hi95 : it ≠ 95 := fun e => by
        have : ∃ ob, (95, ob) ∈ tabN o := by cases o with | none => exact ⟨_, .head _⟩ | some c => exact ⟨_, .head _⟩
        obtain ⟨ob, hob⟩ := this
        exact hit (95, ob) (.tail _ (.tail _ (.tail _ (.tail _ (List.mem_append_left _ hob))))) e.symm
      rcases List.mem_cons.mp hq with rfl | hq
      · exact hit _ (.head _)
      · rcases List.mem_cons.mp hq with rfl | hq
        · exact hit (lh, listOf (hs.map RowD.val).toArray nh) (.tail _ (.head _))
        · rcases List.mem_cons.mp hq with rfl | hq
          · exact hit _ (.tail _ (.tail _ (.head _)))
          · rcases List.mem_cons.mp hq with rfl | hq
            · exact hit _ (.tail _ (.tail _ (.tail _ (.head _))))
            · rcases List.mem_append.mp hq with hq | hq
              · exact tab_ne N2 (fun q hq => .tail _ (.tail _ (.tail _ (.tail _ (.tail _ (List.mem_append_left _ hq)))))) ho2 (.head _) hi95 (iter_no hoi) q hq
              · exact hit q (.tail _ (.tail _ (.tail _ (.tail _ (List.mem_append_right _ hq)))))
    · intro v hv h5 oi' hoi' F5 N5
      clear F2 N2 X T
      have X2 : (K w.params).In g2 := XB.keeps B2.stays
      have T2 : Top p loose mean mg mb g2 := TB.keeps B2.stays
      obtain ⟨r, hr, rfl⟩ : ∃ r, (rise rows)[i]? = some r ∧ v = r.val := by
        rw [List.getElem?_map] at hv
        cases hr : (rise rows)[i]? with
        | none => rw [hr] at hv; cases hv
        | some r => rw [hr] at hv; exact ⟨r, rfl, (Option.some.inj hv).symm⟩
      have hrm : r ∈ rows := (fold_perm rows []).mem_iff.mp (List.mem_of_getElem? hr)
      have hro : (r.adr, r.obj) ∈ objs rows := List.mem_map_of_mem (f := fun r : RowD => (r.adr, r.obj)) hrm
      have hrN : ∀ {h : Heap}, h.get? r.adr = some r.obj → h.IsList r.adr r.its := fun e => ⟨_, e, rfl, r.ep, rfl⟩
      refine kun_list (items := r.its) F5 N5 (hrN (N5 _ (.tail _ (.tail _ (.tail _ (.tail _ (.tail _ (List.mem_append_right _ hro))))))).1) rfl rfl rfl ?_
      intro h6 F6 N6
      clear F5 N5
      dsimp only
      k_steps
      rename Fr _ _ _ _ => F7
      rename News _ _ _ _ => N7
      obtain ⟨hhd, hpl, hpm⟩ := pops i r hr
      obtain ⟨t0, ht0⟩ : ∃ t0, popN hs i = r :: t0 := by
        cases hp0 : popN hs i with
        | nil => rw [hp0] at hhd; cases hhd
        | cons a t0 => rw [hp0] at hhd; exact ⟨t0, by rw [Option.some.inj hhd]⟩
      rw [ht0] at N7
      have hword := (told r hrm).word
      refine item_at (its := ((r :: t0).map RowD.val).toArray) N7 (.tail _ (.tail _ (.head _))) (by decide) (by decide) (v := r.val) (by simp) ?_
      dsimp only
      k_steps
      rename Fr _ _ _ _ => F8
      rename News _ _ _ _ => N8
      obtain ⟨ra, hra, hrw, hrs, hre, N9⟩ := mk_row N8
      subst hra
      have hkey : keyOf r = keyOf ra := by unfold keyOf; rw [hrw, hrs, hre]
      refine ne_same (a := r) (b := ra) (N9 _ (.tail _ (.tail _ (.tail _ (.tail _ (.tail _ (.tail _ (List.mem_append_right _ hro)))))))).1 (N9 _ (.head _)).1 hword hkey (by show callerA.units + 3 + 10 < cLine; decide) ?_
      replace N9 := news_sub (l' := (it, oi') :: (lt, listOf ((rise rows).map RowD.val).toArray nt) :: (lh, listOf ((r :: t0).map RowD.val).toArray nh2) :: (L + 1, oc) :: (lr, listOf (rows.map RowD.val).toArray nr) :: (tabN o2 ++ objs rows)) N9 (fun q hq => .tail _ hq)
      clear N8
      dsimp only
      k_steps
      obtain ⟨init, y, hsp, hval, hnew⟩ := pop_split r t0
      rw [hsp] at N9
      replace N9 := news_sub (l' := (lh, listOf ((init ++ [y]).map RowD.val).toArray nh2) :: (it, oi') :: (lt, listOf ((rise rows).map RowD.val).toArray nt) :: (L + 1, oc) :: (lr, listOf (rows.map RowD.val).toArray nr) :: (tabN o2 ++ objs rows)) N9 (fun q hq => by
        rcases List.mem_cons.mp hq with rfl | hq
        · exact .tail _ (.tail _ (.head _))
        · rcases List.mem_cons.mp hq with rfl | hq
          · exact .head _
          · rcases List.mem_cons.mp hq with rfl | hq
            · exact .tail _ (.head _)
            · exact .tail _ (.tail _ (.tail _ hq)))
      refine heappop_call (init := init) (y := y) B2 F8 X2 N9 T2 rfl rfl rfl (by show callerA.depth + 1 + 40 < recursionLimit; decide) (by show callerA.units + 3 + 300 < cLine; decide) rfl ?_ ?_ ?_ fun h10 tk10 F10 N10 => ?_
      · intro q hq
        rcases List.mem_cons.mp hq with rfl | hq
        · exact fun z => hit (lh, listOf (hs.map RowD.val).toArray nh) (.tail _ (.head _)) z.symm
        · rcases List.mem_cons.mp hq with rfl | hq
          · exact fun z => hlt1 (lh, listOf (hs.map RowD.val).toArray nh) (.head _) z.symm
          · rcases List.mem_cons.mp hq with rfl | hq
            · exact hL1
            · rcases List.mem_cons.mp hq with rfl | hq
              · exact hlr
              · rcases List.mem_append.mp hq with hq | hq
                · exact tab_ne N9 (fun q hq => .tail _ (.tail _ (.tail _ (.tail _ (.tail _ (List.mem_append_left _ hq)))))) ho2 (.head _) h95.1 list_no q hq
                · obtain ⟨r', hr', rfl⟩ := List.mem_map.mp hq
                  exact hrl r' hr'
      · intro q hq
        rw [← hsp, ← ht0] at hq
        exact .tail _ (.tail _ (.tail _ (.tail _ (List.mem_append_right _ (List.mem_map_of_mem (f := fun r : RowD => (r.adr, r.obj)) (hpm q hq))))))
      · have := congrArg List.length hsp
        rw [← ht0, hpl] at this
        simp at this
        omega
      rw [hval]
      rw [hnew, ← ht0, show popped (popN hs i) = popN hs (i + 1) from rfl] at N10
      clear N9
      dsimp only
      k_steps
      rename Fr _ _ _ _ => F11
      rename News _ _ _ _ => N11
      obtain ⟨rb, hrb, hrw2, hrs2, hre2, N12⟩ := mk_row N11
      subst hrb
      have hkey2 : keyOf r = keyOf rb := by unfold keyOf; rw [hrw2, hrs2, hre2]
      refine ne_same (a := r) (b := rb) (N12 _ (.tail _ (.tail _ (.tail _ (.tail _ (.tail _ (.tail _ (List.mem_append_right _ hro)))))))).1 (N12 _ (.head _)).1 hword hkey2 (by show callerA.units + 3 + 10 < cLine; decide) ?_
      replace N12 := news_sub (l' := (lh, listOf ((popN hs (i + 1)).map RowD.val).toArray (nh2 + 1)) :: (it, oi') :: (lt, listOf ((rise rows).map RowD.val).toArray nt) :: (L + 1, oc) :: (lr, listOf (rows.map RowD.val).toArray nr) :: (tabN o2 ++ objs rows)) N12 (fun q hq => .tail _ hq)
      clear N11
      obtain ⟨st, en, hst, hen, hst1, hen1, hen2, hste, hsp1, hnx, hcut, hdis, hno⟩ := (told r hrm).ok
      have hst' : r.st = (st : Int) := hst
      have hen' : r.en = (en : Int) := hen
      rw [hst', hen'] at F11
      dsimp only
      k_steps
      refine parse_ok (P := P) B2 F11 XB N12 TB ktsDicts_nil rfl rfl rfl (by show callerA.depth + 1 + 90 < recursionLimit; decide) (by show callerA.units + 3 + 600 < cLine; decide) rfl hS hzs hst1 hsp1 hdis fun g4 h4 tk4 u4 v4 a4 KT4 B4 D4 F13 N13 hne13 => ?_
      rw [hnx, hcut] at N13
      clear F11 N12 X2 T2
      have X4 : (K w.params).In g4 := XB.keeps B4.stays
      have T4 : Top p loose mean mg mb g4 := TB.keeps B4.stays
      dsimp only
      k_steps
      rename Fr _ _ _ _ => F14
      rename News _ _ _ _ => N14
      refine ne_tup (i := (en : Int)) (x := r.word) (N14 _ (.tail _ (.head _))).1 (N14 _ (.head _)).1 hword (by show callerA.units + 3 + 10 < cLine; decide) ?_
      replace N14 := news_sub (l' := (lh, listOf ((popN hs (i + 1)).map RowD.val).toArray (nh2 + 1)) :: (it, oi') :: (lt, listOf ((rise rows).map RowD.val).toArray nt) :: (L + 1, oc) :: (lr, listOf (rows.map RowD.val).toArray nr) :: (tabN o2 ++ objs rows)) N14 (fun q hq => .tail _ (.tail _ hq))
      dsimp only
      k_steps
      replace N14 := news_sub (l' := tabN o2 ++ ((lh, listOf ((popN hs (i + 1)).map RowD.val).toArray (nh2 + 1)) :: (it, oi') :: (lt, listOf ((rise rows).map RowD.val).toArray nt) :: (L + 1, oc) :: (lr, listOf (rows.map RowD.val).toArray nr) :: objs rows)) N14 (fun q hq => by
        rcases List.mem_append.mp hq with hq | hq
        · exact .tail _ (.tail _ (.tail _ (.tail _ (.tail _ (List.mem_append_left _ hq)))))
        · rcases List.mem_cons.mp hq with rfl | hq
          · exact .head _
          · rcases List.mem_cons.mp hq with rfl | hq
            · exact .tail _ (.head _)
            · rcases List.mem_cons.mp hq with rfl | hq
              · exact .tail _ (.tail _ (.head _))
              · rcases List.mem_cons.mp hq with rfl | hq
                · exact .tail _ (.tail _ (.tail _ (.head _)))
                · rcases List.mem_cons.mp hq with rfl | hq
                  · exact .tail _ (.tail _ (.tail _ (.tail _ (.head _))))
                  · exact .tail _ (.tail _ (.tail _ (.tail _ (.tail _ (List.mem_append_right _ hq))))))
      have hi95 : it ≠ 95 := fun e => by
        have : ∃ ob, (95, ob) ∈ tabN o := by cases o with | none => exact ⟨_, .head _⟩ | some c => exact ⟨_, .head _⟩
        obtain ⟨ob, hob⟩ := this
        exact hit (95, ob) (.tail _ (.tail _ (.tail _ (.tail _ (List.mem_append_left _ hob))))) e.symm
      have hlt95 : lt ≠ 95 := fun e => by
        have : ∃ ob, (95, ob) ∈ tabN o := by cases o with | none => exact ⟨_, .head _⟩ | some c => exact ⟨_, .head _⟩
        obtain ⟨ob, hob⟩ := this
        exact hlt1 (95, ob) (.tail _ (.tail _ (.tail _ (List.mem_append_left _ hob)))) e.symm
      show wpAny (model PR w) (lawA L) (execs turnRest (lawEnv L)) _ _ _
      refine law_rest (us := us) (ue := r.te) (ut := r.ts) (f := fun y => if y = Str.ofString "rows" then some (.ref lr) else f2 y) (wd := .str r.word r.tw) B4 (fr_map F14 (fun z => ?_)) XB TB C ho2 N14 (fun q hq => ?_) hzs hst1 hen1 hen2 hste hno fun g9 h9 tk9 o9 f9 B9 ho9 F9 N9' => ?_
      · by_cases e1 : z = Str.ofString "rows"
        · subst e1; rfl
        · simp [e1]
      · rcases List.mem_cons.mp hq with rfl | hq
        · exact h95.1
        · rcases List.mem_cons.mp hq with rfl | hq
          · exact hi95
          · rcases List.mem_cons.mp hq with rfl | hq
            · exact hlt95
            · rcases List.mem_cons.mp hq with rfl | hq
              · exact h95.2.1
              · rcases List.mem_cons.mp hq with rfl | hq
                · exact h95.2.2.1
                · obtain ⟨r', hr', rfl⟩ := List.mem_map.mp hq
                  exact h95.2.2.2 r' hr'
      · dsimp only
        refine toInv _ _ ⟨g9, h9, _, nh2 + 1, oi', o9, fun y => if y = Str.ofString "ahead" ∨ y = Str.ofString "words" then f9 y else if y = Str.ofString "end" then some (.int (en : Int) r.te) else if y = Str.ofString "start" then some (.int (st : Int) r.ts) else if y = Str.ofString "word" then some (.str r.word r.tw) else f2 y, rfl, B9, ho9, fr_map F9 (fun z => ?_), news_sub N9' (fun q hq => ?_), hoi', ?_⟩
        · by_cases e1 : z = Str.ofString "rows"
          · subst e1; rfl
          · simp [e1]
        · rcases List.mem_cons.mp hq with rfl | hq
          · exact List.mem_append_right _ (.tail _ (.head _))
          · rcases List.mem_cons.mp hq with rfl | hq
            · exact List.mem_append_right _ (.tail _ (.tail _ (.head _)))
            · rcases List.mem_cons.mp hq with rfl | hq
              · exact List.mem_append_right _ (.head _)
              · rcases List.mem_cons.mp hq with rfl | hq
                · exact List.mem_append_right _ (.tail _ (.tail _ (.tail _ (.head _))))
                · rcases List.mem_cons.mp hq with rfl | hq
                  · exact List.mem_append_right _ (.tail _ (.tail _ (.tail _ (.tail _ (.head _)))))
                  · rcases List.mem_append.mp hq with hq | hq
                    · exact List.mem_append_left _ hq
                    · exact List.mem_append_right _ (.tail _ (.tail _ (.tail _ (.tail _ (.tail _ hq)))))
        · have h1 := (List.getElem?_eq_some_iff.mp hr).1
          have h2 : (rise rows).length = rows.length := by unfold rise; have := (fold_perm rows []).length_eq; simpa using this
          omega
    · intro hv h5 F5 N5
      have hge : (rise rows).length ≤ i := by rw [List.getElem?_eq_none_iff] at hv; simpa using hv
      have hrl' : (rise rows).length = rows.length := by unfold rise; have := (fold_perm rows []).length_eq; simpa using this
      have hi2 : i = rows.length := by omega
      subst hi2
      exact h g2 h5 _ nh2 o2 f2 B2 ho2 F5 (news_sub N5 (fun q hq => .tail _ hq))
end Mine
end
section
open PySem PySem.W PyProof.Rows PySem.Calls
set_option maxRecDepth 100000
namespace Mine
local macro_rules | `(tactic| k_steps) => `(tactic| repeat' (first | (k_unfold; (try dsimp only)) | ((fail_if_success (with_reducible show wpAny _ _ (exec (Stmt.While _ _ _ _) _) _ _ _)); (fail_if_success (with_reducible show wpAny _ _ (exec (Stmt.For _ _ _ _ _) _) _ _ _)); (fail_if_success (with_reducible show wpAny _ _ (eval (PySem.Expr.ListComp _ _ _ _) _) _ _ _)); (fail_if_success (with_reducible show wpAny _ _ (eval (PySem.Expr.Name _ _) (compEnvC _ _ _ _)) _ _ _)); (fail_if_success (with_reducible show Exists _)); (fail_if_success (with_reducible show LeaveK _ _ _ _ _ _ _)); (fail_if_success (with_reducible show LeaveS _ _ _ _ _ _ _ _ _ _ _ _ _ _ _ _ _ _)); (fail_if_success (with_reducible show wpAny _ _ (call (Value.ref _) _ _) _ _ _)); (first | walk1 | (dsimp only; walk1)))))
set_option maxHeartbeats 8000000 in
theorem law_if3 {base g : Heap} {L : Addr} {mg mb : Str → Option Value} {f : Str → Option Value} {news : List (Addr × Obj)} {src : Str} {us up : Tok} {pl : Nat} {s : Shared} {w : World} {p : Program} {loose : List Str} {mean : ExcName → Option Value} {Q : Flow → Shared → Prop} {E : Value → Shared → Prop} {P W : Str → Bool}
  (B : Below callerA base [] g) (F : Fr g L s.heap (fun z => if z = Str.ofString "place" then some (.int (pl : Nat) up) else if z = Str.ofString "src" then some (.str src us) else f z))
  (XB : (K w.params).In base) (TB : Top p loose mean mg mb base) (N : News g L s.heap news)
  (hS : StrSet base 36 P) (hW : StrSet base 45 W) (hzs : src.length < 5000) (hpl : pl ≤ src.length) (hcl : ∀ (i x : Nat), src.cps[i]? = some x → x ≠ 10 → P ⟨#[x]⟩ = false) (hset : settle W src (src.length - pl + 1) pl = src.length)
  (h : ∀ (g' h' : Heap) (tk : Nat), Below callerA base [] g' → Fr g' L h' (fun z => if z = Str.ofString "place" then some (.int (pl : Nat) up) else if z = Str.ofString "src" then some (.str src us) else f z) →
    News g' L h' news → Q .next { s with heap := h', toks := tk })
  : wpAny (model PR w) (lawA L) (exec (lawAt 3) (lawEnv L)) Q E s := by
  revert XB; unfold PR; k_fill; intro XB
  have hb : lawAt 3 = lawAt 3 := rfl
  conv at hb => rhs; whnf
  have hs' : scopeAt 24 = scopeAt 24 := rfl
  conv at hs' => rhs; whnf
  unfold lawA lawEnv
  rw [hb, hs']
  clear hb hs'
  have X : (K w.params).In g := XB.keeps B.stays
  have T : Top p loose mean mg mb g := TB.keeps B.stays
  refine wpAny_noRaise ?_
  k_steps
  refine skip_ws_call (P := P) (W := W) B F XB N TB ktsDicts_nil rfl rfl rfl (by show callerA.depth + 1 + 110 < recursionLimit; decide) (by show callerA.units + 3 + 700 < cLine; decide) rfl hS hW hzs hpl hcl fun g3 h3 tk3 u3 KT3 B3 D3 F7 N7 => ?_
  rw [hset]
  clear F N X T
  have X3 : (K w.params).In g3 := XB.keeps B3.stays
  have T3 : Top p loose mean mg mb g3 := TB.keeps B3.stays
  try dsimp only
  k_steps
  · rename (_ ≠ _) => hne
    exact absurd rfl hne
  · exact h _ _ _ B3 F7 N7
set_option maxHeartbeats 8000000 in
theorem law_ret8 {base g : Heap} {L : Addr} {mg mb : Str → Option Value} {f : Str → Option Value} {rest : List (Addr × Obj)} {o : Option (Addr × Obj)} {src : Str} {us : Tok} {s : Shared} {w : World} {p : Program} {loose : List Str} {mean : ExcName → Option Value} {Q : Flow → Shared → Prop} {E : Value → Shared → Prop}
  (B : Below callerA base [] g) (F : Fr g L s.heap (fun z => if z = Str.ofString "src" then some (.str src us) else f z))
  (XB : (K w.params).In base) (TB : Top p loose mean mg mb base) (C : CodeHd base 99 95) (ho : TabOk o) (N : News g L s.heap (tabN o ++ rest)) (hoff : ∀ q ∈ rest, q.1 ≠ 95) (hzs : src.length < 5000)
  (h : ∀ (h' : Heap) (tk : Nat) (o' : Option (Addr × Obj)), TabOk o' → Fr g L h' (fun z => if z = Str.ofString "src" then some (.str src us) else f z) →
    News g L h' (tabN o' ++ rest) → Q (.ret (.bool true)) { s with heap := h', toks := tk })
  : wpAny (model PR w) (lawA L) (exec (lawAt 8) (lawEnv L)) Q E s := by
  revert XB; unfold PR; k_fill; intro XB
  have hb : lawAt 8 = lawAt 8 := rfl
  conv at hb => rhs; whnf
  have hs' : scopeAt 24 = scopeAt 24 := rfl
  conv at hs' => rhs; whnf
  unfold lawA lawEnv
  rw [hb, hs']
  clear hb hs'
  have X : (K w.params).In g := XB.keeps B.stays
  have T : Top p loose mean mg mb g := TB.keeps B.stays
  refine wpAny_noRaise ?_
  k_steps
  refine suffixed_err_call B F X (C.keeps B.stays) N ho T rfl rfl rfl (by show callerA.depth + 1 + 50 < recursionLimit; decide) (by show callerA.units + 3 + 400 < cLine; decide) hoff hzs (Nat.le_refl _) (by decide) fun e7 t7 o7 h7 tk7 u7 ho7 F7 N7 hd7 => ?_
  rw [err_here] at N7
  clear F N
  have herr : ErrAt h7 e7 _ u7 := ⟨_, _, t7, (N7 _ (.head _)).1, rfl, rfl, rfl, _, _, (N7 _ (.tail _ (.head _))).1, rfl, rfl⟩
  dsimp only
  k_steps
  refine err_str (X.keeps F7.keep) (by show callerA.units + 3 + 2 < cLine; decide) herr ?_
  replace N7 := news_sub (l' := tabN o7 ++ rest) N7 (fun q hq => .tail _ (.tail _ hq))
  clear herr
  k_steps
  rw [beq_self_eq_true]
  exact h _ _ o7 ho7 F7 N7
end Mine
end
section
open PySem PySem.W PyProof.Rows PySem.Calls
set_option maxRecDepth 100000
namespace Mine
section
variable {prog : Program} {w : World} {A : Around} {E : Value → Shared → Prop} {s : Shared}
/-- a list comprehension over a list of the ledger, stored under a name; the body may do as it likes -/
theorem comp_let {elt target iter : PySem.Expr} {y : Str} {py spos : Pos} {scope : Scope} {cl : List (Str × Addr)} {pos : Pos} {env : Env} {L : Addr} {vs : List Value} {Q : Flow → Shared → Prop} (hh : A.handled = none)
    (hsw : swapsWith (.ListComp elt [⟨target, iter, [], 0⟩] scope pos) (some (.Name y py)) spos.line env = pure true) (hy : env.kindOf y = some .local) (hp : (env.scope.kind == .class || (env.scope.kind == .module && env.locals != env.globals)) = false) (hL : env.locals = L)
    (hclos : closureFor scope env = pure cl) (hcell : ∀ y ∈ scope.names, y.2 ≠ .cell) (hkind : scope.kind = .function) (hnames : ∀ y ∈ scope.names, y.2 = .local → scope.names.lookup y.1 = some .local)
    (h : wpAny (model prog w) A (eval iter env) (fun xv s₁ => ∃ g m news l ep, xv = .ref l ∧ Fr g L s₁.heap m ∧ News g L s₁.heap news ∧ (l, listOf vs.toArray ep) ∈ news ∧
      ∀ it D C, (∀ q ∈ news, q.1 < it) → it < D → D < C → ∃ I : Nat → Shared → Prop,
      (∀ h' tk oi oC, IterOf oi l 0 → NsOf oC (fun _ => none) → Fr g L h' m → News g L h' ((it, oi) :: (D, listOf #[] 0) :: (C, oC) :: news) → I 0 { s₁ with heap := h', toks := tk }) ∧
      ∀ i s, I i s → ∃ g m news l ep oi oD oC mC, Fr g L s.heap m ∧ News g L s.heap ((it, oi) :: (D, oD) :: (C, oC) :: news) ∧ IterOf oi l i ∧ NsOf oC mC ∧ (l, listOf vs.toArray ep) ∈ news ∧ (∀ q ∈ news, q.1 ≠ it ∧ q.1 ≠ C) ∧
      (∀ v, vs[i]? = some v → ∀ h' oi', IterOf oi' l (i + 1) → Fr g L h' m → News g L h' ((it, oi') :: (D, oD) :: (C, oC) :: news) →
        wpAny (model prog w) A (assign target (compEnvC scope cl C env) v) (fun _ s₂ => wpAny (model prog w) A (eval elt (compEnvC scope cl C env)) (fun y s₃ =>
          wpAny (model prog w) A (call (.builtin "list.append") [.ref D, y]) (fun _ s₄ => I (i + 1) s₄) (fun _ _ => False) s₃) (fun _ _ => False) s₂) (fun _ _ => False) { s with heap := h' }) ∧
      (vs[i]? = none → ∀ h' tk, Fr g L h' (fun z => if z = y then some (.ref D) else m z) → News g L h' ((D, oD) :: news) → Q .next { s with heap := h', toks := tk })) E s)
    (hs : ∀ x, foldedSetIterable iter env x = pure x := by intro _; rfl) :
    wpAny (model prog w) A (exec (.Assign [.Name y py] (.ListComp elt [⟨target, iter, [], 0⟩] scope pos) spos) env) Q E s := by
  rw [exec_Assign_Name_used _ _ _ _ hsw]
  refine wpAny_bind (wpAny_standAt (wpAny_bind ?_))
  show wpAny _ A (do let _ ← comprehension (.ListComp elt [⟨target, iter, [], 0⟩] scope pos) scope env _ (newList []) false (eval iter env) (some (assign (.Name y py) env))) _ _ s
  refine wpAny_bind (wpAny_mono (wpAny_comprehension_free (use := some (assign (.Name y py) env)) (Q := fun _ s' => Q .next s') rfl hs hclos hkind hnames
    (wpAny_mono h (fun xv s₁ h₁ => ?_) fun _ _ e => e)) (fun _ s' hq => wpAny_pure (wpAny_pure hq)) fun _ _ e => e)
  obtain ⟨g, m, news, l, ep, rfl, F, N, hl, hgo⟩ := h₁
  have hlist : s₁.heap.IsList l vs.toArray := ⟨_, (N _ hl).1, rfl, ep, rfl⟩
  refine wpAny_pyIter_list hlist ?_
  refine wpAny_newObj_type ?_
  refine wpAny_newFunctionEnv hcell (by intro y hy; simp at hy) (fun h₁ hns₁ hsb₁ => ?_) hkind
  dsimp only at hns₁ hsb₁ ⊢
  generalize hIt : s₁.heap.push { cls := .type "list_iterator", data := .fields #[.ref l, .int 0 0] } = H1 at hns₁ hsb₁ ⊢
  generalize hH2 : H1.push { cls := .type "list", dict := none, data := .seq ([] : List Value).toArray } = H2 at hns₁ hsb₁ ⊢
  have s1 : H1.objs.size = s₁.heap.objs.size + 1 := by rw [← hIt, Heap.size_push]
  have s2 : H2.objs.size = H1.objs.size + 1 := by rw [← hH2, Heap.size_push]
  have n12 : s₁.heap.objs.size < H1.objs.size := by omega
  have n23 : H1.objs.size < H2.objs.size := by omega
  have n13 : s₁.heap.objs.size < H2.objs.size := by omega
  obtain ⟨oC, hgC, hoC⟩ := ns_of hns₁
  have keep : ∀ b o, s₁.heap.get? b = some o → h₁.get? b = some o := fun b o e => hsb₁.extBut b o (Nat.ne_of_lt (Nat.lt_trans (Heap.lt_size e) n13)) (Heap.get?_push_of_some _ (hH2 ▸ Heap.get?_push_of_some _ (hIt ▸ Heap.get?_push_of_some _ e)))
  have hgI : h₁.get? s₁.heap.objs.size = some { cls := .type "list_iterator", data := .fields #[.ref l, .int 0 0] } := hsb₁.extBut _ _ (Nat.ne_of_lt n13) (Heap.get?_push_of_some _ (hH2 ▸ Heap.get?_push_of_some _ (hIt ▸ Heap.get?_push_size _ rfl)))
  have hgD : h₁.get? H1.objs.size = some (listOf #[] 0) := hsb₁.extBut _ _ (Nat.ne_of_lt n23) (Heap.get?_push_of_some _ (hH2 ▸ Heap.get?_push_size _ rfl))
  have hLlt : L < s₁.heap.objs.size := F.ns.lt
  have fresh : ∀ b, s₁.heap.objs.size ≤ b → g.get? b = none := fun b hb => Heap.get?_none_of_le (Nat.le_trans F.above (Nat.le_trans (Nat.le_of_lt hLlt) hb))
  have N₁ : News g L h₁ ((s₁.heap.objs.size, { cls := .type "list_iterator", data := .fields #[.ref l, .int 0 0] }) :: (H1.objs.size, listOf #[] 0) :: (H2.objs.size, oC) :: news) := fun q hq => by
    rcases List.mem_cons.mp hq with rfl | hq
    · exact ⟨hgI, Ne.symm (Nat.ne_of_lt hLlt), fresh _ (Nat.le_refl _)⟩
    · rcases List.mem_cons.mp hq with rfl | hq
      · exact ⟨hgD, Ne.symm (Nat.ne_of_lt (Nat.lt_trans hLlt n12)), fresh _ (Nat.le_of_lt n12)⟩
      · rcases List.mem_cons.mp hq with rfl | hq
        · exact ⟨hgC, Ne.symm (Nat.ne_of_lt (Nat.lt_trans hLlt n13)), fresh _ (Nat.le_of_lt n13)⟩
        · exact ⟨keep _ _ (N q hq).1, (N q hq).2⟩
  obtain ⟨I, hI0, turn⟩ := hgo s₁.heap.objs.size H1.objs.size H2.objs.size (fun q hq => Heap.lt_size (N q hq).1) n12 n23
  have hI := hI0 h₁ (s₁.toks + ([] : List (Str × Value)).length) _ oC ⟨rfl, rfl⟩ hoC (F.grownK keep) N₁
  clear hI0 hgo
  have loop : ∀ s₃ : Shared, I 0 s₃ → codeAny (model prog w) A (.compLoop (.ListComp elt [⟨target, iter, [], 0⟩] scope pos) 0 (.ref s₁.heap.objs.size) (.ref H1.objs.size) (compEnvC scope cl H2.objs.size env))
      (compPost (model prog w) A E (some (assign (.Name y py) env)) (fun _ s' => Q .next s') (.ref H1.objs.size) H2.objs.size) s₃ := by
    intro s₃ hs₃
    refine codeAny_loop rfl (fun n s => ∃ i, n = vs.length + 1 - i ∧ i ≤ vs.length ∧ I i s) ?_ (vs.length + 1) ⟨0, rfl, Nat.zero_le _, hs₃⟩
    rintro n s ⟨i, rfl, hi, hIi⟩
    obtain ⟨g, m, news, l, ep, oi, oD, oC, mC, F, N, hoi, hoC, hl, hoff, hstep, hend⟩ := turn i s hIi
    have hlist : s.heap.IsList l vs.toArray := ⟨_, (N _ (.tail _ (.tail _ (.tail _ hl)))).1, rfl, ep, rfl⟩
    have hn := N (s₁.heap.objs.size, oi) (.head _)
    have hnD := N (H1.objs.size, oD) (.tail _ (.head _))
    have hnC := N (H2.objs.size, oC) (.tail _ (.tail _ (.head _)))
    have hit : s.heap.IsListIter s₁.heap.objs.size l i := ⟨oi, hn.1, hoi.1, hoi.2⟩
    show wpAny _ _ ((compTurn (.ListComp elt [⟨target, iter, [], 0⟩] scope pos) 0 (.ref s₁.heap.objs.size) (.ref H1.objs.size) (compEnvC scope cl H2.objs.size env)).onRaise (fun x => do noteFrame x (compEnvC scope cl H2.objs.size env); theTreesLotGoes x)) _ _ s
    refine wpAny_noted ?_
    rw [compTurn_list1]
    cases hv : vs[i]? with
    | none =>
      refine wpAny_bind (wpAny_standAt (wpAny_bind (wpAny_pyNext_list_end hh hit hlist (by simpa using hv) fun h' hx => wpAny_pure ?_)))
      obtain ⟨oL, es, e2, hgL, r⟩ := F.ns
      obtain ⟨_, _, _, hnsC⟩ := hoC
      show wpAny _ A (assign (.Name y py) env (.ref H1.objs.size)) _ _ _
      have hLC : env.locals ≠ H2.objs.size := by rw [hL]; exact fun z => hnC.2.1 z.symm
      have hLD : env.locals ≠ H1.objs.size := by rw [hL]; exact fun z => hnD.2.1 z.symm
      refine wpAny_assign_Name (wpAny_storeName_local (m := m) hy (by rw [hL]; exact ⟨oL, es, e2, hx _ _ (Ne.symm hn.2.1) hgL, r⟩) (fun h₂ hn₂ hs₂ => ?_) hp)
      refine ⟨mC, (hnsC _ _ (hx _ _ (Ne.symm (Nat.ne_of_lt n13)) hnC.1)).sameBut hs₂ (Ne.symm hLC), fun h₃ hs₃ => ?_⟩
      refine hend hv h₃ _ ⟨by have z := hn₂.sameBut hs₃ hLC; rw [hL] at z; exact z, fun b o q => ?_, F.above⟩ fun q hq => ?_
      · refine (hs₃.2 b (fun z => by rw [z, hnC.2.2] at q; cases q)).trans ((hs₂.2 b (fun z => ?_)).trans (hx b o (fun z => by rw [z, hn.2.2] at q; cases q) (F.keep b o q)))
        rw [z, hL] at q
        exact absurd (Heap.lt_size q) (Nat.not_lt.mpr F.above)
      · rcases List.mem_cons.mp hq with rfl | hq
        · exact ⟨(hs₃.2 _ (Nat.ne_of_lt n23)).trans ((hs₂.2 _ (Ne.symm hLD)).trans (hx _ _ (Ne.symm (Nat.ne_of_lt n12)) hnD.1)), hnD.2⟩
        · have z := N q (.tail _ (.tail _ (.tail _ hq)))
          exact ⟨(hs₃.2 _ (hoff q hq).2).trans ((hs₂.2 _ (by rw [hL]; exact z.2.1)).trans (hx _ _ (hoff q hq).1 z.1)), z.2⟩
    | some v =>
      have hlt : i < vs.length := (List.getElem?_eq_some_iff.mp hv).1
      refine wpAny_bind (wpAny_standAt (wpAny_bind (wpAny_pyNext_list_item hit hlist (x := v) (by simpa using hv) fun h' hit' hsb => ?_)))
      obtain ⟨oi', hoi', hc', hd'⟩ := hit'
      refine wpAny_bind (owned_list (s := { s with heap := h' }) hoi' hc' hd' ?_)
      have hst := hstep v hv h' oi' ⟨hc', hd'⟩ (F.change hsb hn.2.1 hn.2.2) fun q hq => by
        rcases List.mem_cons.mp hq with rfl | hq
        · exact ⟨hoi', hn.2⟩
        · rcases List.mem_cons.mp hq with rfl | hq
          · exact ⟨(hsb.2 _ (Ne.symm (Nat.ne_of_lt n12))).trans hnD.1, hnD.2⟩
          · rcases List.mem_cons.mp hq with rfl | hq
            · exact ⟨(hsb.2 _ (Ne.symm (Nat.ne_of_lt n13))).trans hnC.1, hnC.2⟩
            · have z := N q (.tail _ (.tail _ (.tail _ hq)))
              exact ⟨(hsb.2 q.1 (hoff q hq).1).trans z.1, z.2⟩
      refine wpAny_noRaise (wpAny_bind (wpAny_mono hst (fun _ s₂ h₂ => wpAny_bind (wpAny_bind (wpAny_mono h₂ (fun y s₃ h₃ => wpAny_bind (wpAny_mono h₃ (fun _ s₄ h₄ => wpAny_pure (wpAny_pure ?_)) fun _ _ z => z)) fun _ _ z => z))) fun _ _ z => z))
      exact ⟨rfl, _, by omega, i + 1, rfl, by omega, h₄⟩
  exact codeAny_compStart_list (loop _ hI) (wpAny_pyIter_listiter (l := l) (i := 0) ⟨_, hgI, rfl, rfl⟩ (loop _ hI))
end
end Mine
end
section
open PySem PySem.W PyProof.Rows PySem.Calls
set_option maxRecDepth 100000
namespace Mine
section
variable {prog : Program} {w : World} {A : Around} {E : Value → Shared → Prop} {s : Shared} {g : Heap} {L C : Addr} {m mC : Str → Option Value} {oC : Obj} {a b : Addr × Obj} {news : List (Addr × Obj)} {scope : Scope} {cl : List (Str × Addr)} {env : Env} {x : Str} {v : Value}
/-- a store in a comprehension's own names -/
theorem store_comp {Q : Unit → Shared → Prop} (F : Fr g L s.heap m) (N : News g L s.heap (a :: b :: (C, oC) :: news)) (hC : NsOf oC mC) (ha : a.1 ≠ C) (hb : b.1 ≠ C) (hoff : ∀ q ∈ news, q.1 ≠ C)
    (hx : (compEnvC scope cl C env).kindOf x = some .local) (hk : scope.kind = .function)
    (h : ∀ h' oC', NsOf oC' (fun z => if z = x then some v else mC z) → Fr g L h' m → News g L h' (a :: b :: (C, oC') :: news) → Q () { s with heap := h', toks := s.toks + 1 }) :
    wpAny (model prog w) A (storeName (compEnvC scope cl C env) x v) Q E s := by
  have z := N (C, oC) (.tail _ (.tail _ (.head _)))
  obtain ⟨_, _, _, hns⟩ := hC
  refine wpAny_storeName_local hx (hns _ _ z.1) (fun h' hn hs => ?_) (by show (scope.kind == .class || (scope.kind == .module && _)) = false; rw [hk]; rfl)
  obtain ⟨oC', hg', hC'⟩ := ns_of hn
  refine h h' oC' hC' (F.change hs z.2.1 z.2.2) fun q hq => ?_
  rcases List.mem_cons.mp hq with rfl | hq
  · exact ⟨(hs.2 _ ha).trans (N _ (.head _)).1, (N _ (.head _)).2⟩
  · rcases List.mem_cons.mp hq with rfl | hq
    · exact ⟨(hs.2 _ hb).trans (N _ (.tail _ (.head _))).1, (N _ (.tail _ (.head _))).2⟩
    · rcases List.mem_cons.mp hq with rfl | hq
      · exact ⟨hg', z.2⟩
      · have y := N q (.tail _ (.tail _ (.tail _ hq)))
        exact ⟨(hs.2 _ (hoff q hq)).trans y.1, y.2⟩
/-- a look into a comprehension's own names -/
theorem load_comp {p : Pos} {Q : Value → Shared → Prop} (N : News g L s.heap news) (hm : (C, oC) ∈ news) (hC : NsOf oC mC) (hx : (compEnvC scope cl C env).kindOf x = some .local) (hk : scope.kind = .function) (hv : mC x = some v) (h : Q v s) (hd : (x == Str.ofString "__debug__") = false := by decide) :
    wpAny (model prog w) A (eval (.Name x p) (compEnvC scope cl C env)) Q E s := by
  obtain ⟨_, _, _, hns⟩ := hC
  exact wpAny_Name (wpAny_loadName_local hk hx (hns _ _ (N _ hm).1) hv h) hd
end
local macro_rules | `(tactic| k_steps) => `(tactic| repeat' (first | (k_unfold; (try dsimp only)) | ((fail_if_success (with_reducible show wpAny _ _ (exec (Stmt.While _ _ _ _) _) _ _ _)); (fail_if_success (with_reducible show wpAny _ _ (exec (Stmt.For _ _ _ _ _) _) _ _ _)); (fail_if_success (with_reducible show wpAny _ _ (eval (PySem.Expr.ListComp _ _ _ _) _) _ _ _)); (fail_if_success (with_reducible show wpAny _ _ (eval (PySem.Expr.Name _ _) (compEnvC _ _ _ _)) _ _ _)); (fail_if_success (with_reducible show Exists _)); (fail_if_success (with_reducible show LeaveK _ _ _ _ _ _ _)); (fail_if_success (with_reducible show LeaveS _ _ _ _ _ _ _ _ _ _ _ _ _ _ _ _ _ _)); (fail_if_success (with_reducible show wpAny _ _ (call (Value.ref _) _ _) _ _ _)); (first | walk1 | (dsimp only; walk1)))))
noncomputable def zKey (r : RowD) : Str × Int × Int := (r.word ++ Str.ofString "z", r.st, r.en)
set_option maxHeartbeats 8000000 in
theorem law_long {base g : Heap} {L lr : Addr} {nr : Nat} {mg mb : Str → Option Value} {f : Str → Option Value} {news : List (Addr × Obj)} {rows : List RowD} {s : Shared} {w : World} {p : Program} {loose : List Str} {mean : ExcName → Option Value} {Q : Flow → Shared → Prop} {E : Value → Shared → Prop}
  (B : Below callerA base [] g) (F : Fr g L s.heap (fun z => if z = Str.ofString "rows" then some (.ref lr) else f z))
  (XB : (K w.params).In base) (TB : Top p loose mean mg mb base) (N : News g L s.heap ((lr, listOf (rows.map RowD.val).toArray nr) :: news)) (hrow : ∀ r ∈ rows, (r.adr, r.obj) ∈ news) (hz : rows.length < 100) (hw : ∀ r ∈ rows, r.word.length ≤ 2)
  (h : ∀ (h' : Heap) (tk ll nl : Nat) (rs : List RowD), rs.map keyOf = (rows.take 3).map zKey → Fr g L h' (fun z => if z = Str.ofString "long" then some (.ref ll) else if z = Str.ofString "rows" then some (.ref lr) else f z) →
    News g L h' ((ll, listOf (rs.map RowD.val).toArray nl) :: (lr, listOf (rows.map RowD.val).toArray nr) :: (objs rs ++ news)) → (∀ q ∈ (lr, listOf (rows.map RowD.val).toArray nr) :: news, q.1 < ll ∧ ∀ r ∈ rs, q.1 < r.adr) → Q .next { s with heap := h', toks := tk })
  : wpAny (model PR w) (lawA L) (exec (lawAt 5) (lawEnv L)) Q E s := by
  revert XB; unfold PR; k_fill; intro XB
  have hb : lawAt 5 = lawAt 5 := rfl
  conv at hb => rhs; whnf
  have hs' : scopeAt 24 = scopeAt 24 := rfl
  conv at hs' => rhs; whnf
  unfold lawA lawEnv
  rw [hb, hs']
  clear hb hs'
  have X : (K w.params).In g := XB.keeps B.stays
  have T : Top p loose mean mg mb g := TB.keeps B.stays
  refine wpAny_noRaise ?_
  refine comp_let (L := L) (vs := (rows.take 3).map RowD.val) rfl (by rfl) rfl rfl rfl (cl := []) rfl (by decide) rfl (by decide) ?_
  k_steps
  rename Fr _ _ _ _ => F1
  rename News _ _ _ _ => N1
  rw [show (3 : Int) = ((3 : Nat) : Int) from rfl, slicePick_upto', ← List.map_take] at N1
  dsimp only at F1 N1 ⊢
  generalize hls : s.heap.objs.size + 1 = ls at N1
  clear F N
  refine ⟨g, _, _, ls, 0, rfl, F1, N1, .head _, fun it D C hit hiD hDC => ?_⟩
  have hnn : ∀ rs : List RowD, (∀ r ∈ rs, C < r.adr) → ∀ q ∈ (ls, listOf ((rows.take 3).map RowD.val).toArray 0) :: (lr, listOf (rows.map RowD.val).toArray nr) :: (objs rs ++ news), q.1 ≠ it ∧ q.1 ≠ C := fun rs hnew q hq => by
    have low : ∀ {a : Addr}, a < it → a ≠ it ∧ a ≠ C := fun z => ⟨Nat.ne_of_lt z, Nat.ne_of_lt (Nat.lt_trans z (Nat.lt_trans hiD hDC))⟩
    rcases List.mem_cons.mp hq with rfl | hq
    · exact low (hit _ (.head _))
    · rcases List.mem_cons.mp hq with rfl | hq
      · exact low (hit _ (.tail _ (.head _)))
      · rcases List.mem_append.mp hq with hq | hq
        · obtain ⟨r, hr, rfl⟩ := List.mem_map.mp hq
          exact ⟨Ne.symm (Nat.ne_of_lt (Nat.lt_trans hiD (Nat.lt_trans hDC (hnew r hr)))), Ne.symm (Nat.ne_of_lt (hnew r hr))⟩
        · exact low (hit _ (.tail _ (.tail _ hq)))
  obtain ⟨Inv, toInv, ofInv⟩ : ∃ Inv : Nat → Shared → Prop, (∀ i s', (∃ (h2 : Heap) (tk nD : Nat) (oi oC : Obj) (mC : Str → Option Value) (rs : List RowD), s' = { s with heap := h2, toks := tk } ∧ Fr g L h2 (fun z => if z = Str.ofString "rows" then some (.ref lr) else f z) ∧
    News g L h2 ((it, oi) :: (D, listOf (rs.map RowD.val).toArray nD) :: (C, oC) :: (ls, listOf ((rows.take 3).map RowD.val).toArray 0) :: (lr, listOf (rows.map RowD.val).toArray nr) :: (objs rs ++ news)) ∧ IterOf oi ls i ∧ NsOf oC mC ∧ rs.map keyOf = ((rows.take 3).take i).map zKey ∧ (∀ r ∈ rs, C < r.adr) ∧ i ≤ 3) → Inv i s') ∧ ∀ i s', Inv i s' → (∃ (h2 : Heap) (tk nD : Nat) (oi oC : Obj) (mC : Str → Option Value) (rs : List RowD), s' = { s with heap := h2, toks := tk } ∧ Fr g L h2 (fun z => if z = Str.ofString "rows" then some (.ref lr) else f z) ∧
    News g L h2 ((it, oi) :: (D, listOf (rs.map RowD.val).toArray nD) :: (C, oC) :: (ls, listOf ((rows.take 3).map RowD.val).toArray 0) :: (lr, listOf (rows.map RowD.val).toArray nr) :: (objs rs ++ news)) ∧ IterOf oi ls i ∧ NsOf oC mC ∧ rs.map keyOf = ((rows.take 3).take i).map zKey ∧ (∀ r ∈ rs, C < r.adr) ∧ i ≤ 3) :=
    ⟨fun i s' => ∃ (h2 : Heap) (tk nD : Nat) (oi oC : Obj) (mC : Str → Option Value) (rs : List RowD), s' = { s with heap := h2, toks := tk } ∧ Fr g L h2 (fun z => if z = Str.ofString "rows" then some (.ref lr) else f z) ∧
    News g L h2 ((it, oi) :: (D, listOf (rs.map RowD.val).toArray nD) :: (C, oC) :: (ls, listOf ((rows.take 3).map RowD.val).toArray 0) :: (lr, listOf (rows.map RowD.val).toArray nr) :: (objs rs ++ news)) ∧ IterOf oi ls i ∧ NsOf oC mC ∧ rs.map keyOf = ((rows.take 3).take i).map zKey ∧ (∀ r ∈ rs, C < r.adr) ∧ i ≤ 3, fun _ _ x => x, fun _ _ x => x⟩
  refine ⟨Inv, ?_, ?_⟩
  · intro h4 tk4 oi oC hoi hoC F4 N4
    exact toInv _ _ ⟨h4, tk4, 0, oi, oC, _, [], rfl, F4, N4, hoi, hoC, rfl, (fun r hr => nomatch hr), by decide⟩
  · intro i s' hInv
    obtain ⟨h2, tk2, nD, oi, oC, mC, rs, rfl, F2, N2, hoi, hoC, hkeys, hnew, hi3⟩ := ofInv i s' hInv
    clear hInv
    refine ⟨g, _, _, ls, 0, oi, _, oC, mC, F2, N2, hoi, hoC, .head _, (fun q hq => ?_), ?_, ?_⟩
    · exact hnn rs hnew q hq
    · intro v hv h5 oi' hoi' F5 N5
      clear F2 N2
      obtain ⟨r, hr, rfl⟩ : ∃ r, (rows.take 3)[i]? = some r ∧ v = r.val := by
        rw [List.getElem?_map] at hv
        cases hr : (rows.take 3)[i]? with
        | none => rw [hr] at hv; cases hv
        | some r => rw [hr] at hv; exact ⟨r, rfl, (Option.some.inj hv).symm⟩
      have hrm : r ∈ rows := List.mem_of_mem_take (List.mem_of_getElem? hr)
      have hrN : ∀ {h : Heap}, h.get? r.adr = some r.obj → h.IsList r.adr r.its := fun e => ⟨_, e, rfl, r.ep, rfl⟩
      have hwl := hw r hrm
      refine kun_list (items := r.its) F5 N5 (hrN (N5 _ (.tail _ (.tail _ (.tail _ (.tail _ (.tail _ (List.mem_append_right _ (hrow r hrm)))))))).1) rfl rfl rfl ?_
      intro h6 F6 N6
      clear F5 N5
      have hoffC := fun q hq => (hnn rs hnew q hq).2
      have hCi : it ≠ C := Nat.ne_of_lt (Nat.lt_trans hiD hDC)
      have hCD : D ≠ C := Nat.ne_of_lt hDC
      dsimp only
      k_steps
      refine store_comp F6 N6 hoC hCi hCD hoffC rfl rfl fun h7 oC7 hoC7 F7 N7 => ?_
      clear F6 N6 hoC
      dsimp only
      k_steps
      refine store_comp F7 N7 hoC7 hCi hCD hoffC rfl rfl fun h8 oC8 hoC8 F8 N8 => ?_
      clear F7 N7 hoC7
      dsimp only
      k_steps
      refine store_comp F8 N8 hoC8 hCi hCD hoffC rfl rfl fun h9 oC9 hoC9 F9 N9 => ?_
      clear F8 N8 hoC8
      dsimp only
      k_steps
      refine load_comp N9 (.tail _ (.tail _ (.head _))) hoC9 rfl rfl rfl ?_
      k_steps
      refine load_comp N9 (.tail _ (.tail _ (.head _))) hoC9 rfl rfl rfl ?_
      k_steps
      refine load_comp N9 (.tail _ (.tail _ (.head _))) hoC9 rfl rfl rfl ?_
      k_steps
      rename Fr _ _ _ _ => F10
      rename News _ _ _ _ => N10
      rename (_ < _ ∧ _ ∧ _ ∧ _ ∧ _ ∧ AllLt _ _) => hlt10
      obtain ⟨ra, hra, hrw, hrs, hre, N11⟩ := mk_row N10
      subst hra
      clear N10
      have hDD : ∀ q ∈ (ra.adr, ra.obj) :: (it, oi') :: (C, oC9) :: (ls, listOf ((rows.take 3).map RowD.val).toArray 0) :: (lr, listOf (rows.map RowD.val).toArray nr) :: (objs rs ++ news), q.1 ≠ D := fun q hq => by
        rcases List.mem_cons.mp hq with rfl | hq
        · exact Ne.symm (Nat.ne_of_lt hlt10.2.1)
        · rcases List.mem_cons.mp hq with rfl | hq
          · exact Nat.ne_of_lt hiD
          · rcases List.mem_cons.mp hq with rfl | hq
            · exact Ne.symm (Nat.ne_of_lt hDC)
            · rcases List.mem_cons.mp hq with rfl | hq
              · exact Nat.ne_of_lt (Nat.lt_trans (hit _ (.head _)) hiD)
              · rcases List.mem_cons.mp hq with rfl | hq
                · exact Nat.ne_of_lt (Nat.lt_trans (hit _ (.tail _ (.head _))) hiD)
                · rcases List.mem_append.mp hq with hq | hq
                  · obtain ⟨r', hr', rfl⟩ := List.mem_map.mp hq
                    exact Ne.symm (Nat.ne_of_lt (Nat.lt_trans hDC (hnew r' hr')))
                  · exact Nat.ne_of_lt (Nat.lt_trans (hit _ (.tail _ (.tail _ hq))) hiD)
      have hrl : rs.length ≤ 3 := by
        have := congrArg List.length hkeys
        simp at this
        omega
      replace N11 := news_sub (l' := (D, listOf (rs.map RowD.val).toArray nD) :: (ra.adr, ra.obj) :: (it, oi') :: (C, oC9) :: (ls, listOf ((rows.take 3).map RowD.val).toArray 0) :: (lr, listOf (rows.map RowD.val).toArray nr) :: (objs rs ++ news)) N11 (fun q hq => by
        rcases List.mem_cons.mp hq with rfl | hq
        · exact .tail _ (.tail _ (.head _))
        · rcases List.mem_cons.mp hq with rfl | hq
          · exact .head _
          · rcases List.mem_cons.mp hq with rfl | hq
            · exact .tail _ (.head _)
            · exact .tail _ (.tail _ (.tail _ hq)))
      refine append_K F10 N11 (.head hDD) (fun h12 F12 N12 => ?_) (by rw [sizeLine_eq]; simp; omega)
      have hkey : keyOf ra = zKey r := by unfold keyOf zKey; rw [hrw, hrs, hre]
      refine toInv _ _ ⟨h12, _, nD + 1, oi', oC9, _, rs ++ [ra], rfl, F12, news_sub N12 (fun q hq => ?_), hoi', hoC9, ?_, (fun q hq => ?_), ?_⟩
      · rcases List.mem_cons.mp hq with rfl | hq
        · exact .tail _ (.tail _ (.head _))
        · rcases List.mem_cons.mp hq with rfl | hq
          · rw [List.map_append, List.push_toArray]; exact .head _
          · rcases List.mem_cons.mp hq with rfl | hq
            · exact .tail _ (.tail _ (.tail _ (.head _)))
            · rcases List.mem_cons.mp hq with rfl | hq
              · exact .tail _ (.tail _ (.tail _ (.tail _ (.head _))))
              · rcases List.mem_cons.mp hq with rfl | hq
                · exact .tail _ (.tail _ (.tail _ (.tail _ (.tail _ (.head _)))))
                · rw [objs_snoc] at hq
                  rcases List.mem_append.mp hq with hq | hq
                  · rcases List.mem_append.mp hq with hq | hq
                    · exact .tail _ (.tail _ (.tail _ (.tail _ (.tail _ (.tail _ (List.mem_append_left _ hq))))))
                    · rw [List.mem_singleton.mp hq]; exact .tail _ (.head _)
                  · exact .tail _ (.tail _ (.tail _ (.tail _ (.tail _ (.tail _ (List.mem_append_right _ hq))))))
      · rw [List.map_append, hkeys, List.take_add_one (i := i), hr]
        show _ ++ [keyOf ra] = _
        rw [hkey, List.map_append]
        rfl
      · rcases List.mem_append.mp hq with hq | hq
        · exact hnew q hq
        · rw [List.mem_singleton.mp hq]; exact hlt10.2.2.1
      · have := (List.getElem?_eq_some_iff.mp hr).1
        simp at this
        omega
    · intro hv h5 tk5 F5 N5
      have hge : ((rows.take 3).map RowD.val).length ≤ i := by rw [List.getElem?_eq_none_iff] at hv; exact hv
      refine h h5 tk5 D nD rs (by rw [hkeys, List.take_of_length_le]; simpa using hge) F5 (news_sub N5 (fun q hq => ?_)) (fun q hq => ?_)
      · rcases List.mem_cons.mp hq with rfl | hq
        · exact .head _
        · exact .tail _ (.tail _ hq)
      · have z := hit q (.tail _ hq)
        exact ⟨Nat.lt_trans z hiD, fun r hr => Nat.lt_trans (Nat.lt_trans z (Nat.lt_trans hiD hDC)) (hnew r hr)⟩
end Mine
end
section
open PySem PySem.W PyProof.Rows PySem.Calls
set_option maxRecDepth 100000
namespace Mine
local macro_rules | `(tactic| k_steps) => `(tactic| repeat' (first | (k_unfold; (try dsimp only)) | ((fail_if_success (with_reducible show wpAny _ _ (exec (Stmt.While _ _ _ _) _) _ _ _)); (fail_if_success (with_reducible show wpAny _ _ (exec (Stmt.For _ _ _ _ _) _) _ _ _)); (fail_if_success (with_reducible show wpAny _ _ (eval (PySem.Expr.ListComp _ _ _ _) _) _ _ _)); (fail_if_success (with_reducible show wpAny _ _ (eval (PySem.Expr.Name _ _) (compEnvC _ _ _ _)) _ _ _)); (fail_if_success (with_reducible show Exists _)); (fail_if_success (with_reducible show LeaveK _ _ _ _ _ _ _)); (fail_if_success (with_reducible show LeaveS _ _ _ _ _ _ _ _ _ _ _ _ _ _ _ _ _ _)); (fail_if_success (with_reducible show wpAny _ _ (call (Value.ref _) _ _) _ _ _)); (first | walk1 | (dsimp only; walk1)))))
set_option maxHeartbeats 8000000 in
theorem law_loop6 {base g : Heap} {L ll lh : Addr} {oc : Obj} {nl nh : Nat} {mg mb : Str → Option Value} {f : Str → Option Value} {rs : List RowD} {rest : List (Addr × Obj)} {s : Shared} {w : World} {p : Program} {loose : List Str} {mean : ExcName → Option Value} {Q : Flow → Shared → Prop} {E : Value → Shared → Prop}
  (B : Below callerA base [] g) (F : Fr g L s.heap (fun z => if z = Str.ofString "long" then some (.ref ll) else f z))
  (XB : (K w.params).In base) (TB : Top p loose mean mg mb base) (N : News g L s.heap ((lh, listOf #[] nh) :: (L + 1, oc) :: (ll, listOf (rs.map RowD.val).toArray nl) :: rest))
  (hoc : oc.data = .cell (some (.ref lh))) (hlh : ∀ q ∈ (L + 1, oc) :: (ll, listOf (rs.map RowD.val).toArray nl) :: rest, q.1 ≠ lh) (hrow : ∀ r ∈ rs, (r.adr, r.obj) ∈ rest) (hz : rs.length < 100)
  (h : ∀ (h' : Heap) (tk nh' : Nat) (f' : Str → Option Value), (∀ z, z ≠ Str.ofString "row" → f' z = f z) → Fr g L h' (fun z => if z = Str.ofString "long" then some (.ref ll) else f' z) →
    News g L h' ((lh, listOf ((rs.foldl pushed []).map RowD.val).toArray nh') :: (L + 1, oc) :: (ll, listOf (rs.map RowD.val).toArray nl) :: rest) → Q .next { s with heap := h', toks := tk })
  : wpAny (model PR w) (lawA L) (exec (lawAt 6) (lawEnv L)) Q E s := by
  revert XB; unfold PR; k_fill; intro XB
  have hb : lawAt 6 = lawAt 6 := rfl
  conv at hb => rhs; whnf
  have hs : scopeAt 24 = scopeAt 24 := rfl
  conv at hs => rhs; whnf
  unfold lawA lawEnv
  rw [hb, hs]
  clear hb hs
  have X : (K w.params).In g := XB.keeps B.stays
  have T : Top p loose mean mg mb g := TB.keeps B.stays
  refine wpAny_noRaise ?_
  refine for_list (L := L) (vs := rs.map RowD.val) rfl ?_
  k_steps
  refine ⟨g, _, _, ll, nl, rfl, F, N, .tail _ (.tail _ (.head _)), fun it hit => ?_⟩
  obtain ⟨Inv, toInv, ofInv⟩ : ∃ Inv : Nat → Shared → Prop, (∀ i s', (∃ (h2 : Heap) (tk nh2 : Nat) (oi : Obj), ∃ f2 : Str → Option Value, s' = { s with heap := h2, toks := tk } ∧ (∀ z, z ≠ Str.ofString "row" → f2 z = f z) ∧ Fr g L h2 (fun z => if z = Str.ofString "long" then some (.ref ll) else f2 z) ∧
    News g L h2 ((it, oi) :: (lh, listOf (((rs.take i).foldl pushed []).map RowD.val).toArray nh2) :: (L + 1, oc) :: (ll, listOf (rs.map RowD.val).toArray nl) :: rest) ∧ IterOf oi ll i ∧ i ≤ rs.length) → Inv i s') ∧ ∀ i s', Inv i s' → (∃ (h2 : Heap) (tk nh2 : Nat) (oi : Obj), ∃ f2 : Str → Option Value, s' = { s with heap := h2, toks := tk } ∧ (∀ z, z ≠ Str.ofString "row" → f2 z = f z) ∧ Fr g L h2 (fun z => if z = Str.ofString "long" then some (.ref ll) else f2 z) ∧
    News g L h2 ((it, oi) :: (lh, listOf (((rs.take i).foldl pushed []).map RowD.val).toArray nh2) :: (L + 1, oc) :: (ll, listOf (rs.map RowD.val).toArray nl) :: rest) ∧ IterOf oi ll i ∧ i ≤ rs.length) :=
    ⟨fun i s' => ∃ (h2 : Heap) (tk nh2 : Nat) (oi : Obj), ∃ f2 : Str → Option Value, s' = { s with heap := h2, toks := tk } ∧ (∀ z, z ≠ Str.ofString "row" → f2 z = f z) ∧ Fr g L h2 (fun z => if z = Str.ofString "long" then some (.ref ll) else f2 z) ∧
    News g L h2 ((it, oi) :: (lh, listOf (((rs.take i).foldl pushed []).map RowD.val).toArray nh2) :: (L + 1, oc) :: (ll, listOf (rs.map RowD.val).toArray nl) :: rest) ∧ IterOf oi ll i ∧ i ≤ rs.length, fun _ _ x => x, fun _ _ x => x⟩
  refine ⟨Inv, ?_, ?_⟩
  · intro h4 oi hoi F4 N4
    exact toInv _ _ ⟨h4, _, nh, oi, f, rfl, fun _ _ => rfl, F4, N4, hoi, Nat.zero_le _⟩
  · intro i s' hInv
    obtain ⟨h2, tk2, nh2, oi, f2, rfl, hf2, F2, N2, hoi, hile⟩ := ofInv i s' hInv
    clear hInv
    refine ⟨g, _, _, ll, nl, oi, F2, N2, hoi, .tail _ (.tail _ (.head _)), (fun q hq => ?_), ?_, ?_⟩
    · rcases List.mem_cons.mp hq with rfl | hq
      · exact hit (lh, listOf #[] nh) (.head _)
      · exact hit q (.tail _ hq)
    · intro v hv h5 oi' hoi' F5 N5
      clear F2 N2 F N
      obtain ⟨r, hr, rfl⟩ : ∃ r, rs[i]? = some r ∧ v = r.val := by
        rw [List.getElem?_map] at hv
        cases hr : rs[i]? with
        | none => rw [hr] at hv; cases hv
        | some r => rw [hr] at hv; exact ⟨r, rfl, (Option.some.inj hv).symm⟩
      have hrm : r ∈ rs := List.mem_of_getElem? hr
      k_steps
      rename Fr _ _ _ _ => F6
      rename News _ _ _ _ => N6
      replace N6 := news_sub (l' := (lh, listOf (((rs.take i).foldl pushed []).map RowD.val).toArray nh2) :: (it, oi') :: (L + 1, oc) :: (ll, listOf (rs.map RowD.val).toArray nl) :: rest) N6 (fun q hq => by
        rcases List.mem_cons.mp hq with rfl | hq
        · exact .tail _ (.head _)
        · rcases List.mem_cons.mp hq with rfl | hq
          · exact .head _
          · exact .tail _ (.tail _ hq))
      refine heappush_call (x := r) B F6 X N6 T rfl rfl rfl (by show callerA.depth + 1 + 20 < recursionLimit; decide) (by show callerA.units + 3 + 200 < cLine; decide) rfl (fun q hq => ?_) (fun q hq => ?_) ?_ fun h12 tk12 F12 N12 => ?_
      · rcases List.mem_cons.mp hq with rfl | hq
        · exact fun z => hit (lh, listOf #[] nh) (.head _) z.symm
        · exact hlh q hq
      · refine .tail _ (.tail _ (.tail _ (hrow q ?_)))
        rcases List.mem_cons.mp hq with rfl | hq
        · exact hrm
        · exact List.mem_of_mem_take (pushes_mem _ _ hq)
      · rw [pushes_len]; simp; omega
      clear F6 N6
      k_steps
      rename Fr _ _ _ _ => F13
      rename News _ _ _ _ => N13
      have hp1 : (rs.take (i + 1)).foldl pushed [] = pushed ((rs.take i).foldl pushed []) r := by
        rw [List.take_add_one, hr, List.foldl_append]; rfl
      rw [show sdFin rowLt r ((rs.take i).foldl pushed [] ++ [r]) ((rs.take i).foldl pushed []).length = (rs.take (i + 1)).foldl pushed [] from hp1.symm] at N13
      exact toInv _ _ ⟨h12, _, nh2 + 1, oi', fun z => if z = Str.ofString "row" then some r.val else f2 z, rfl, (fun z hz => by show (if z = Str.ofString "row" then some r.val else f2 z) = f z; rw [if_neg hz]; exact hf2 z hz), fr_map F13 (fun z => by
        by_cases e1 : z = Str.ofString "long"
        · subst e1; rfl
        · simp [e1]), news_sub N13 (fun q hq => by
        rcases List.mem_cons.mp hq with rfl | hq
        · exact .tail _ (.head _)
        · rcases List.mem_cons.mp hq with rfl | hq
          · exact .head _
          · exact .tail _ (.tail _ hq)), hoi', (List.getElem?_eq_some_iff.mp hr).1⟩
    · intro hv h5 F5 N5
      have hge : rs.length ≤ i := by rw [List.getElem?_eq_none_iff] at hv; simpa using hv
      have hi2 : i = rs.length := by omega
      subst hi2
      rw [List.take_length] at N5
      exact h h5 _ nh2 f2 hf2 F5 N5
end Mine
end
section
open PySem PySem.W PyProof.Rows PySem.Calls PySem.SeqAt
namespace Mine
noncomputable def rowData (r : RowD) : PyData := .list [.str r.word, .int r.st, .int r.en]
noncomputable def keyData (k : Str × Int × Int) : PyData := .list [.str k.1, .int k.2.1, .int k.2.2]
theorem reads_rows {h : Heap} : ∀ (rs : List RowD), (∀ r ∈ rs, h.get? r.adr = some r.obj) → ReadsAll h (rs.map RowD.val) (rs.map rowData) (rs.map RowD.adr)
  | [], _ => .nil
  | r :: rs, hr => by
    have := ReadsAll.cons (reads_row (hr r (.head _))) (reads_rows rs (fun q hq => hr q (.tail _ hq)))
    exact this
theorem rows_lay : ∀ (rs : List RowD), (∀ r ∈ rs, PyData.strOk r.word = true) → PyData.canLayAll0 (rs.map rowData) = true
  | [], _ => by simp [PyData.canLayAll0]
  | r :: rs, hr => by
    simp only [List.map_cons, PyData.canLayAll0, rowData, PyData.canLay0, Bool.and_eq_true]
    refine ⟨⟨hr r (.head _), ?_⟩, rows_lay rs (fun q hq => hr q (.tail _ hq))⟩
    simp
theorem rows_depth : ∀ (rs : List RowD), PyData.depthAll (rs.map rowData) ≤ 5
  | [] => by simp [PyData.depthAll]
  | r :: rs => by
    have := rows_depth rs
    simp only [List.map_cons, PyData.depthAll, rowData, PyData.depth]
    omega
section
variable {prog : Program} {w : World} {A : Around} {E : Value → Shared → Prop} {s : Shared} {Q : Value → Shared → Prop}
/-- two lists of rows of the same keys are not unlike -/
theorem ne_lists {la lb : Addr} {as bs : List RowD} {na nb : Nat} (ha : s.heap.get? la = some (listOf (as.map RowD.val).toArray na)) (hb : s.heap.get? lb = some (listOf (bs.map RowD.val).toArray nb))
    (ra : ∀ r ∈ as, s.heap.get? r.adr = some r.obj) (rb : ∀ r ∈ bs, s.heap.get? r.adr = some r.obj) (hk : as.map keyOf = bs.map keyOf) (hw : ∀ r ∈ as, PyData.strOk r.word = true) (hu : A.units + 10 < cLine) (h : Q (.bool false) s) :
    wpAny (model prog w) A (compareOp .NotEq (.ref la) (.ref lb)) Q E s := by
  have e : as.map rowData = bs.map rowData := by
    have : ∀ l : List RowD, l.map rowData = (l.map keyOf).map keyData := fun l => by rw [List.map_map]; rfl
    rw [this, this, hk]
  have r1 : Reads s.heap (.ref la) (.list (as.map rowData)) (la :: as.map RowD.adr) := .list ha rfl rfl (reads_rows as ra)
  have r2 : Reads s.heap (.ref lb) (.list (as.map rowData)) (lb :: bs.map RowD.adr) := .list hb rfl rfl (by rw [e]; exact reads_rows bs rb)
  have hl : (PyData.list (as.map rowData)).canLay0 = true := by simp only [PyData.canLay0]; exact rows_lay as hw
  refine compareNe_reads r1 r2 hl hl ?_ ?_
  · have := rows_depth as
    have : (PyData.list (as.map rowData)).depth ≤ 8 := by simp only [PyData.depth]; omega
    omega
  · rw [eqv_refl _ hl]; exact h
end
end Mine
end
section
open PySem PySem.W PyProof.Rows PySem.Calls
set_option maxRecDepth 100000
namespace Mine
theorem ns_pop (P : Params) : nsIn (K P) mainGlobals (Str.ofString "heappop") = some (some (.ref 114)) := by kernel_rfl
noncomputable def zzKey : Str × Int × Int := (Str.ofString "zz", 0, 0)
local macro_rules | `(tactic| k_steps) => `(tactic| repeat' (first | (k_unfold; (try dsimp only)) | ((fail_if_success (with_reducible show wpAny _ _ (exec (Stmt.While _ _ _ _) _) _ _ _)); (fail_if_success (with_reducible show wpAny _ _ (exec (Stmt.For _ _ _ _ _) _) _ _ _)); (fail_if_success (with_reducible show wpAny _ _ (eval (PySem.Expr.ListComp _ _ _ _) _) _ _ _)); (fail_if_success (with_reducible show wpAny _ _ (eval (PySem.Expr.Name _ _) (compEnvC _ _ _ _)) _ _ _)); (fail_if_success (with_reducible show wpAny _ _ (binaryOp _ (Value.ref _) (Value.ref _)) _ _ _)); (fail_if_success (with_reducible show wpAny _ _ (compareOp _ (Value.ref _) (Value.ref _)) _ _ _)); (fail_if_success (with_reducible show Exists _)); (fail_if_success (with_reducible show LeaveK _ _ _ _ _ _ _)); (fail_if_success (with_reducible show LeaveS _ _ _ _ _ _ _ _ _ _ _ _ _ _ _ _ _ _)); (fail_if_success (with_reducible show wpAny _ _ (call (Value.ref _) _ _) _ _ _)); (first | walk1 | (dsimp only; walk1)))))
set_option maxHeartbeats 8000000 in
theorem law_if7 {base g : Heap} {L ll lh : Addr} {oc : Obj} {nl nh : Nat} {mg mb : Str → Option Value} {f : Str → Option Value} {rs t : List RowD} {r : RowD} {rest : List (Addr × Obj)} {s : Shared} {w : World} {p : Program} {loose : List Str} {mean : ExcName → Option Value} {Q : Flow → Shared → Prop} {E : Value → Shared → Prop}
  (B : Below callerA base [] g) (F : Fr g L s.heap (fun z => if z = Str.ofString "long" then some (.ref ll) else f z))
  (XB : (K w.params).In base) (TB : Top p loose mean mg mb base) (N : News g L s.heap ((lh, listOf ((r :: t).map RowD.val).toArray nh) :: (L + 1, oc) :: (ll, listOf (rs.map RowD.val).toArray nl) :: rest))
  (hoc : oc.data = .cell (some (.ref lh))) (hlh : ∀ q ∈ (L + 1, oc) :: (ll, listOf (rs.map RowD.val).toArray nl) :: rest, q.1 ≠ lh) (hrow : ∀ q ∈ rs, (q.adr, q.obj) ∈ rest) (hrow2 : ∀ q ∈ r :: t, (q.adr, q.obj) ∈ rest) (hz : rs.length < 100) (hzt : t.length < 100)
  (hok : ∀ q ∈ rs, PyData.strOk q.word = true) (hrise : (rise rs).head? = some r)
  (pops : ∀ zz : RowD, keyOf zz = zzKey → ∀ i, i ≤ rs.length → (popN (suFin rowLt zz (zz :: t) 0) i).head? = ((rise rs).tail ++ [zz])[i]? ∧ (popN (suFin rowLt zz (zz :: t) 0) i).length = rs.length - i ∧ ∀ q ∈ popN (suFin rowLt zz (zz :: t) 0) i, q ∈ zz :: t)
  (h : ∀ (h' : Heap) (tk : Nat), Fr g L h' (fun z => if z = Str.ofString "long" then some (.ref ll) else f z) →
    News g L h' rest → Q .next { s with heap := h', toks := tk })
  : wpAny (model PR w) (lawA L) (exec (lawAt 7) (lawEnv L)) Q E s := by
  revert XB; unfold PR; k_fill; intro XB
  have hb : lawAt 7 = lawAt 7 := rfl
  conv at hb => rhs; whnf
  have hs : scopeAt 24 = scopeAt 24 := rfl
  conv at hs => rhs; whnf
  unfold lawA lawEnv
  rw [hb, hs]
  clear hb hs
  have X : (K w.params).In g := XB.keeps B.stays
  have T : Top p loose mean mg mb g := TB.keeps B.stays
  refine wpAny_noRaise ?_
  k_steps
  rename Fr _ _ _ _ => F1
  rename News _ _ _ _ => N1
  rename (_ < _ ∧ _ ∧ _ ∧ AllLt _ _) => hlt1
  obtain ⟨zz, hza, hzw, hzs, hze, N2⟩ := mk_row N1
  subst hza
  have hzk : keyOf zz = zzKey := by unfold keyOf zzKey; rw [hzw, hzs, hze]
  specialize pops zz hzk
  generalize hH0 : suFin rowLt zz (zz :: t) 0 = H0 at pops
  have hrest : ∀ q ∈ rest, q.1 < zz.adr := allLt_at hlt1.2.2.2
  replace N2 := news_sub (l' := (lh, listOf ((r :: t).map RowD.val).toArray nh) :: (zz.adr, zz.obj) :: (L + 1, oc) :: (ll, listOf (rs.map RowD.val).toArray nl) :: rest) N2 (fun q hq => by
    rcases List.mem_cons.mp hq with rfl | hq
    · exact .tail _ (.head _)
    · rcases List.mem_cons.mp hq with rfl | hq
      · exact .head _
      · exact .tail _ (.tail _ hq))
  clear N1
  have hlh2 : ∀ q ∈ (zz.adr, zz.obj) :: (L + 1, oc) :: (ll, listOf (rs.map RowD.val).toArray nl) :: rest, q.1 ≠ lh := fun q hq => by
    rcases List.mem_cons.mp hq with rfl | hq
    · exact Ne.symm (Nat.ne_of_lt hlt1.1)
    · exact hlh q hq
  have hrowt : ∀ q ∈ zz :: r :: t, (q.adr, q.obj) ∈ (zz.adr, zz.obj) :: (L + 1, oc) :: (ll, listOf (rs.map RowD.val).toArray nl) :: rest := fun q hq => by
    rcases List.mem_cons.mp hq with rfl | hq
    · exact .head _
    · exact .tail _ (.tail _ (.tail _ (hrow2 q hq)))
  refine heapreplace_call (y := zz) B F1 X N2 T rfl rfl rfl (by show callerA.depth + 1 + 40 < recursionLimit; decide) (by show callerA.units + 3 + 300 < cLine; decide) rfl hlh2 hrowt (by omega) fun h3 tk3 F3 N3 => ?_
  rw [hH0] at N3
  clear F1 N2
  dsimp only
  k_steps
  rename Fr _ _ _ _ => F4
  rename News _ _ _ _ => N4
  rename (_ < _ ∧ _ ∧ _ ∧ _ ∧ AllLt _ _) => hlt4
  refine comp_list (L := L) (vs := rs.map RowD.val) rfl (cl := [(Str.ofString "heap", L + 1)]) rfl (by decide) rfl (by decide) ?_
  k_steps
  rename Fr _ _ _ _ => F4
  rename News _ _ _ _ => N4
  rename (_ < _ ∧ _ ∧ _ ∧ _ ∧ AllLt _ _) => hlt4
  have hriseL : (rise rs).length = rs.length := by unfold rise; have := (fold_perm rs []).length_eq; simpa using this
  have hrise2 : rise rs = r :: (rise rs).tail := by
    cases e : rise rs with
    | nil => rw [e] at hrise; cases hrise
    | cons a b => rw [e] at hrise; rw [Option.some.inj hrise]; rfl
  have hSl : ((rise rs).tail ++ [zz]).length = rs.length := by
    rw [← hriseL, hrise2]; simp
  have hSm : ∀ q ∈ (rise rs).tail ++ [zz], (q.adr, q.obj) ∈ (zz.adr, zz.obj) :: (L + 1, oc) :: (ll, listOf (rs.map RowD.val).toArray nl) :: rest := fun q hq => by
    rcases List.mem_append.mp hq with hq | hq
    · have : q ∈ rs := (fold_perm rs []).mem_iff.mp (by show q ∈ rise rs; rw [hrise2]; exact .tail _ hq)
      exact .tail _ (.tail _ (.tail _ (hrow q this)))
    · rw [List.mem_singleton.mp hq]; exact .head _
  generalize hS : (rise rs).tail ++ [zz] = S at pops hSl hSm
  rename Addr => l1
  refine ⟨g, _, _, ll, nl, rfl, F4, N4, .tail _ (.tail _ (.tail _ (.tail _ (.head _)))), fun it D C hit hiD hDC => ?_⟩
  have low : ∀ {a : Addr}, a < it → a ≠ it ∧ a ≠ D ∧ a ≠ C := fun z => ⟨Nat.ne_of_lt z, Nat.ne_of_lt (Nat.lt_trans z hiD), Nat.ne_of_lt (Nat.lt_trans z (Nat.lt_trans hiD hDC))⟩
  have hnn : ∀ (its : Array Value) (n : Nat), ∀ q ∈ (lh, listOf its n) :: (l1, listOf #[r.val] 0) :: (zz.adr, zz.obj) :: (L + 1, oc) :: (ll, listOf (rs.map RowD.val).toArray nl) :: rest, q.1 ≠ it ∧ q.1 ≠ D ∧ q.1 ≠ C := fun its n q hq => by
    rcases List.mem_cons.mp hq with rfl | hq
    · exact low (hit (lh, listOf (H0.map RowD.val).toArray nh) (.tail _ (.head _)))
    · rcases List.mem_cons.mp hq with rfl | hq
      · exact low (hit _ (.head _))
      · exact low (hit _ (.tail _ (.tail _ hq)))
  obtain ⟨Inv, toInv, ofInv⟩ : ∃ Inv : Nat → Shared → Prop, (∀ i s', (∃ (h2 : Heap) (tk nD nh2 : Nat) (oi oC : Obj) (mC : Str → Option Value), s' = { s with heap := h2, toks := tk } ∧ Fr g L h2 (fun z => if z = Str.ofString "long" then some (.ref ll) else f z) ∧
    News g L h2 ((it, oi) :: (D, listOf ((S.take i).map RowD.val).toArray nD) :: (C, oC) :: (lh, listOf ((popN H0 i).map RowD.val).toArray nh2) :: (l1, listOf #[r.val] 0) :: (zz.adr, zz.obj) :: (L + 1, oc) :: (ll, listOf (rs.map RowD.val).toArray nl) :: rest) ∧ IterOf oi ll i ∧ NsOf oC mC ∧ i ≤ rs.length) → Inv i s') ∧ ∀ i s', Inv i s' → (∃ (h2 : Heap) (tk nD nh2 : Nat) (oi oC : Obj) (mC : Str → Option Value), s' = { s with heap := h2, toks := tk } ∧ Fr g L h2 (fun z => if z = Str.ofString "long" then some (.ref ll) else f z) ∧
    News g L h2 ((it, oi) :: (D, listOf ((S.take i).map RowD.val).toArray nD) :: (C, oC) :: (lh, listOf ((popN H0 i).map RowD.val).toArray nh2) :: (l1, listOf #[r.val] 0) :: (zz.adr, zz.obj) :: (L + 1, oc) :: (ll, listOf (rs.map RowD.val).toArray nl) :: rest) ∧ IterOf oi ll i ∧ NsOf oC mC ∧ i ≤ rs.length) :=
    ⟨fun i s' => ∃ (h2 : Heap) (tk nD nh2 : Nat) (oi oC : Obj) (mC : Str → Option Value), s' = { s with heap := h2, toks := tk } ∧ Fr g L h2 (fun z => if z = Str.ofString "long" then some (.ref ll) else f z) ∧
    News g L h2 ((it, oi) :: (D, listOf ((S.take i).map RowD.val).toArray nD) :: (C, oC) :: (lh, listOf ((popN H0 i).map RowD.val).toArray nh2) :: (l1, listOf #[r.val] 0) :: (zz.adr, zz.obj) :: (L + 1, oc) :: (ll, listOf (rs.map RowD.val).toArray nl) :: rest) ∧ IterOf oi ll i ∧ NsOf oC mC ∧ i ≤ rs.length, fun _ _ x => x, fun _ _ x => x⟩
  refine ⟨Inv, ?_, ?_⟩
  · intro h5 tk5 oi oC hoi hoC F5 N5
    refine toInv _ _ ⟨h5, tk5, 0, nh, oi, oC, _, rfl, F5, news_sub N5 (fun q hq => ?_), hoi, hoC, Nat.zero_le _⟩
    rcases List.mem_cons.mp hq with rfl | hq
    · exact .head _
    · rcases List.mem_cons.mp hq with rfl | hq
      · exact .tail _ (.head _)
      · rcases List.mem_cons.mp hq with rfl | hq
        · exact .tail _ (.tail _ (.head _))
        · rcases List.mem_cons.mp hq with rfl | hq
          · exact .tail _ (.tail _ (.tail _ (.tail _ (.head _))))
          · rcases List.mem_cons.mp hq with rfl | hq
            · exact .tail _ (.tail _ (.tail _ (.head _)))
            · exact .tail _ (.tail _ (.tail _ (.tail _ (.tail _ hq))))
  · intro i s' hInv
    obtain ⟨h2, tk2, nD, nh2, oi, oC, mC, rfl, F2, N2, hoi, hoC, hile⟩ := ofInv i s' hInv
    clear hInv
    refine ⟨g, _, _, ll, nl, oi, _, oC, mC, F2, N2, hoi, hoC, .tail _ (.tail _ (.tail _ (.tail _ (.head _)))), (fun q hq => ?_), ?_, ?_⟩
    · have := hnn _ _ q hq; exact ⟨this.1, this.2.2⟩
    · intro v hv h5 oi' hoi' F5 N5
      clear F2 N2 F4 N4
      have hil : i < rs.length := by
        have := (List.getElem?_eq_some_iff.mp hv).1
        simpa using this
      have hCi : it ≠ C := Nat.ne_of_lt (Nat.lt_trans hiD hDC)
      have hCD : D ≠ C := Nat.ne_of_lt hDC
      k_steps
      refine store_comp F5 N5 hoC hCi hCD (fun q hq => (hnn _ _ q hq).2.2) rfl rfl fun h6 oC6 hoC6 F6 N6 => ?_
      clear F5 N5 hoC
      dsimp only
      k_steps
      refine nameG_K F6 X (topRead_of T) (ns_pop _) ?_ rfl rfl rfl (by decide)
      k_steps
      refine kcf_cell N6 rfl (.tail _ (.tail _ (.tail _ (.tail _ (.tail _ (.tail _ (.head _))))))) hoc ?_
      k_steps
      obtain ⟨hhd, hpl, hpm⟩ := pops i hile
      obtain ⟨q, hq⟩ : ∃ q, S[i]? = some q := ⟨S[i]'(by omega), List.getElem?_eq_getElem _⟩
      rw [hq] at hhd
      obtain ⟨t0, ht0⟩ : ∃ t0, popN H0 i = q :: t0 := by
        cases hp0 : popN H0 i with
        | nil => rw [hp0] at hhd; cases hhd
        | cons a t0 => rw [hp0] at hhd; exact ⟨t0, by rw [Option.some.inj hhd]⟩
      obtain ⟨init, y, hsp, hval, hnew⟩ := pop_split q t0
      rw [ht0, hsp] at N6
      replace N6 := news_sub (l' := (lh, listOf ((init ++ [y]).map RowD.val).toArray nh2) :: (it, oi') :: (D, listOf ((S.take i).map RowD.val).toArray nD) :: (C, oC6) :: (l1, listOf #[r.val] 0) :: (zz.adr, zz.obj) :: (L + 1, oc) :: (ll, listOf (rs.map RowD.val).toArray nl) :: rest) N6 (fun q hq => by
        rcases List.mem_cons.mp hq with rfl | hq
        · exact .tail _ (.tail _ (.tail _ (.head _)))
        · rcases List.mem_cons.mp hq with rfl | hq
          · exact .head _
          · rcases List.mem_cons.mp hq with rfl | hq
            · exact .tail _ (.head _)
            · rcases List.mem_cons.mp hq with rfl | hq
              · exact .tail _ (.tail _ (.head _))
              · exact .tail _ (.tail _ (.tail _ (.tail _ hq))))
      have hlw := hnn #[] 0 (lh, listOf #[] 0) (.head _)
      refine heappop_call (init := init) (y := y) B F6 X N6 T rfl rfl rfl (by show callerA.depth + 1 + 40 < recursionLimit; decide) (by show callerA.units + 3 + 300 < cLine; decide) rfl ?_ ?_ ?_ fun h10 tk10 F10 N10 => ?_
      · intro q hq
        rcases List.mem_cons.mp hq with rfl | hq
        · exact Ne.symm hlw.1
        · rcases List.mem_cons.mp hq with rfl | hq
          · exact Ne.symm hlw.2.1
          · rcases List.mem_cons.mp hq with rfl | hq
            · exact Ne.symm hlw.2.2
            · rcases List.mem_cons.mp hq with rfl | hq
              · exact Ne.symm (Nat.ne_of_lt hlt4.1)
              · exact hlh2 q hq
      · intro q hq
        rw [← hsp, ← ht0] at hq
        exact .tail _ (.tail _ (.tail _ (.tail _ (hrowt q (by
          rcases List.mem_cons.mp (hpm q hq) with rfl | z
          · exact .head _
          · exact .tail _ (.tail _ z))))))
      · have := congrArg List.length hsp
        rw [← ht0, hpl] at this
        simp at this
        omega
      rw [hval]
      rw [hnew, ← ht0, show popped (popN H0 i) = popN H0 (i + 1) from rfl] at N10
      clear N6 F6
      dsimp only
      replace N10 := news_sub (l' := (D, listOf ((S.take i).map RowD.val).toArray nD) :: (it, oi') :: (C, oC6) :: (lh, listOf ((popN H0 (i + 1)).map RowD.val).toArray (nh2 + 1)) :: (l1, listOf #[r.val] 0) :: (zz.adr, zz.obj) :: (L + 1, oc) :: (ll, listOf (rs.map RowD.val).toArray nl) :: rest) N10 (fun q hq => by
        rcases List.mem_cons.mp hq with rfl | hq
        · exact .tail _ (.tail _ (.head _))
        · rcases List.mem_cons.mp hq with rfl | hq
          · exact .tail _ (.head _)
          · rcases List.mem_cons.mp hq with rfl | hq
            · exact .tail _ (.tail _ (.tail _ (.head _)))
            · rcases List.mem_cons.mp hq with rfl | hq
              · exact .head _
              · exact .tail _ (.tail _ (.tail _ (.tail _ hq))))
      refine append_K F10 N10 (.head (fun q hq => ?_)) (fun h12 F12 N12 => ?_) (by rw [sizeLine_eq]; simp; omega)
      · rcases List.mem_cons.mp hq with rfl | hq
        · exact Nat.ne_of_lt hiD
        · rcases List.mem_cons.mp hq with rfl | hq
          · exact Ne.symm hCD
          · exact (hnn _ _ q hq).2.1
      refine toInv _ _ ⟨h12, _, nD + 1, nh2 + 1, oi', oC6, _, rfl, F12, news_sub N12 (fun q hq => ?_), hoi', hoC6, hil⟩
      rcases List.mem_cons.mp hq with rfl | hq
      · exact .tail _ (.head _)
      · rcases List.mem_cons.mp hq with rfl | hq
        · rw [List.take_add_one, ‹S[i]? = some _›, List.map_append, List.push_toArray]; exact .head _
        · rcases List.mem_cons.mp hq with rfl | hq
          · exact .tail _ (.tail _ (.head _))
          · exact .tail _ (.tail _ (.tail _ hq))
    · intro hv h5 F5 N5
      have hge : rs.length ≤ i := by rw [List.getElem?_eq_none_iff] at hv; simpa using hv
      have hi2 : i = rs.length := by omega
      subst hi2
      obtain ⟨_, hpl, _⟩ := pops rs.length (Nat.le_refl _)
      have hpn : popN H0 rs.length = [] := List.length_eq_zero_iff.mp (by omega)
      rw [hpn, List.take_of_length_le (by omega), ← hS] at N5
      clear F2 N2 F4 N4
      dsimp only
      k_steps
      generalize htl : (rise rs).tail = tl at hrise2 N5
      have htll : tl.length + 1 = rs.length := by rw [← hriseL, hrise2]; rfl
      clear hriseL
      refine kmk_add_lit (zs := (rise rs ++ [zz]).map RowD.val) F5 N5 (N5.isList (.tail _ (.tail _ (.head _)))) (N5.isList (.head _)) ?_ ?_ ?_
      · rw [hrise2]; simp
      rotate_left
      · rw [sizeLine_eq]; simp; omega
      intro D6 h6 F6 N6 l6
      have hD6 : ∀ q ∈ rest, q.1 ≠ D6 := fun q hq => Nat.ne_of_lt (l6 q (.tail _ (.tail _ (.tail _ (.tail _ (.tail _ (.tail _ hq)))))))
      have hlD6 : lh ≠ D6 := Nat.ne_of_lt (l6 (lh, _) (.tail _ (.head _)))
      clear F5 N5 l6
      dsimp only
      k_steps
      rename Fr _ _ _ _ => F7
      rename News _ _ _ _ => N7
      refine rising_call (rs := rs) B F7 X N7 T rfl rfl rfl (by show callerA.depth + 1 + 40 < recursionLimit; decide) (by show callerA.units + 3 + 300 < cLine; decide) rfl (.tail _ (.tail _ (.tail _ (.tail _ (.tail _ (.tail _ (.head _))))))) (fun r hr => .tail _ (.tail _ (.tail _ (.tail _ (.tail _ (.tail _ (.tail _ (hrow r hr)))))))) (by omega) fun h8 tk8 lt8 nt8 F8 N8 hlt8 => ?_
      clear F7 N7
      dsimp only
      k_steps
      rename Fr _ _ _ _ => F9
      rename News _ _ _ _ => N9
      obtain ⟨z2, hz2a, hz2w, hz2s, hz2e, N10⟩ := mk_row (news_sub (l' := (_, _) :: (_, _) :: _) N9 (fun q hq => by
        rcases List.mem_cons.mp hq with rfl | hq
        · exact .tail _ (.head _)
        · rcases List.mem_cons.mp hq with rfl | hq
          · exact .head _
          · exact .tail _ (.tail _ hq)))
      have hz2k : keyOf z2 = zzKey := by unfold keyOf zzKey; rw [hz2w, hz2s, hz2e]
      subst hz2a
      clear N9
      refine kmk_add_lit (zs := (rise rs ++ [z2]).map RowD.val) F9 N10 (N10.isList (.tail _ (.tail _ (.head _)))) (N10.isList (.tail _ (.head _))) ?_ ?_ ?_
      · simp
      rotate_left
      · rw [sizeLine_eq, hrise2]; simp; omega
      intro D11 h11 F11 N11 l11
      have hlD11 : lh ≠ D11 := Nat.ne_of_lt (l11 (lh, _) (.tail _ (.tail _ (.tail _ (.tail _ (.tail _ (.head _)))))))
      clear F9 N10 l11
      have hrm : ∀ q ∈ rise rs, q ∈ rs := fun q hq => (fold_perm rs []).mem_iff.mp hq
      refine ne_lists (as := rise rs ++ [zz]) (bs := rise rs ++ [z2]) (N11 _ (.tail _ (.tail _ (.tail _ (.tail _ (.head _)))))).1 (N11 _ (.head _)).1 (fun q hq => ?_) (fun q hq => ?_) ?_ (fun q hq => ?_) (by show callerA.units + 3 + 10 < cLine; decide) ?_
      · rcases List.mem_append.mp hq with hq | hq
        · exact (N11 _ (.tail _ (.tail _ (.tail _ (.tail _ (.tail _ (.tail _ (.tail _ (.tail _ (.tail _ (.tail _ (.tail _ (hrow q (hrm q hq)))))))))))))).1
        · rw [List.mem_singleton.mp hq]
          exact (N11 _ (.tail _ (.tail _ (.tail _ (.tail _ (.tail _ (.tail _ (.tail _ (.tail _ (.head _)))))))))).1
      · rcases List.mem_append.mp hq with hq | hq
        · exact (N11 _ (.tail _ (.tail _ (.tail _ (.tail _ (.tail _ (.tail _ (.tail _ (.tail _ (.tail _ (.tail _ (.tail _ (hrow q (hrm q hq)))))))))))))).1
        · rw [List.mem_singleton.mp hq]
          exact (N11 _ (.tail _ (.head _))).1
      · rw [List.map_append, List.map_append, List.map_singleton, List.map_singleton, hzk, hz2k]
      · rcases List.mem_append.mp hq with hq | hq
        · exact hok q (hrm q hq)
        · rw [List.mem_singleton.mp hq, hzw]; decide +kernel
      replace N11 := news_sub (l' := (lh, listOf (([] : List RowD).map RowD.val).toArray nh2) :: (L + 1, oc) :: rest) N11 (fun q hq => by
        rcases List.mem_cons.mp hq with rfl | hq
        · exact .tail _ (.tail _ (.tail _ (.tail _ (.tail _ (.tail _ (.head _))))))
        · rcases List.mem_cons.mp hq with rfl | hq
          · exact .tail _ (.tail _ (.tail _ (.tail _ (.tail _ (.tail _ (.tail _ (.tail _ (.tail _ (.head _)))))))))
          · exact .tail _ (.tail _ (.tail _ (.tail _ (.tail _ (.tail _ (.tail _ (.tail _ (.tail _ (.tail _ (.tail _ hq)))))))))))
      dsimp only
      k_steps
      rename Fr _ _ _ _ => F12
      rename News _ _ _ _ => N12
      refine ne_lists (as := []) (bs := []) (N12 _ (.tail _ (.head _))).1 (N12 _ (.head _)).1 (fun q hq => nomatch hq) (fun q hq => nomatch hq) rfl (fun q hq => nomatch hq) (by show callerA.units + 3 + 10 < cLine; decide) ?_
      replace N12 := news_sub (l' := rest) N12 (fun q hq => .tail _ (.tail _ (.tail _ hq)))
      dsimp only
      k_steps
      exact h _ _ F12 N12
end Mine
end
section
open PySem PySem.W PyProof.Rows PySem.Calls
set_option maxRecDepth 100000
namespace Mine
local macro_rules | `(tactic| k_steps) => `(tactic| repeat' (first | (k_unfold; (try dsimp only)) | ((fail_if_success (with_reducible show wpAny _ _ (exec (Stmt.While _ _ _ _) _) _ _ _)); (fail_if_success (with_reducible show wpAny _ _ (exec (Stmt.For _ _ _ _ _) _) _ _ _)); (fail_if_success (with_reducible show wpAny _ _ (eval (PySem.Expr.ListComp _ _ _ _) _) _ _ _)); (fail_if_success (with_reducible show wpAny _ _ (eval (PySem.Expr.Name _ _) (compEnvC _ _ _ _)) _ _ _)); (fail_if_success (with_reducible show Exists _)); (fail_if_success (with_reducible show LeaveK _ _ _ _ _ _ _)); (fail_if_success (with_reducible show LeaveS _ _ _ _ _ _ _ _ _ _ _ _ _ _ _ _ _ _)); (fail_if_success (with_reducible show wpAny _ _ (call (Value.ref _) _ _) _ _ _)); (first | walk1 | (dsimp only; walk1)))))
set_option maxHeartbeats 8000000 in
theorem law_st0 {base : Heap} {L sl : Addr} {oc : Obj} {v0 : Option Value} {mg mb : Str → Option Value} {f : Str → Option Value} {vs : List Value} {ns : List Int} {s : Shared} {w : World} {p : Program} {loose : List Str} {mean : ExcName → Option Value} {Q : Flow → Shared → Prop} {E : Value → Shared → Prop}
  (F : Fr base L s.heap (fun z => if z = Str.ofString "script" then some (.ref sl) else f z)) (X : (K w.params).In base) (N : News base L s.heap ((L + 1, oc) :: tabN none)) (hoc : oc.data = .cell v0) (T : Top p loose mean mg mb base)
  (hl : base.IsList sl vs.toArray) (hi : IntsAre vs ns) (hz : ns.length < 64)
  (h : ∀ (h' : Heap) (tk u lr nr : Nat) (rows : List RowD) (src : Str) (f' : Str → Option Value), layAll (ns.take 6 ++ [40, 26, 103, 40]) = (src, rows.map keyOf) →
    Fr base L h' (fun z => if z = Str.ofString "rows" then some (.ref lr) else if z = Str.ofString "src" then some (.str (src ++ Str.ofString " # the end") u) else f' z) →
    News base L h' ((L + 1, oc) :: (lr, listOf (rows.map RowD.val).toArray nr) :: (tabN none ++ objs rows)) → (∀ q ∈ (L + 1, oc) :: (tabN none ++ objs rows), q.1 ≠ lr) → Q .next { s with heap := h', toks := tk })
  : wpAny (model PR w) (lawA L) (exec (lawAt 0) (lawEnv L)) Q E s := by
  revert X; unfold PR; k_fill; intro X
  have B : Below callerA base [] base := below_caller base
  have hb : lawAt 0 = lawAt 0 := rfl
  conv at hb => rhs; whnf
  have hs : scopeAt 24 = scopeAt 24 := rfl
  conv at hs => rhs; whnf
  unfold lawA lawEnv
  rw [hs, hb]
  clear hb hs
  refine wpAny_noRaise ?_
  k_steps
  rename Fr _ _ _ _ => F1
  rename News _ _ _ _ => N1
  rename IntsAre _ (List.take 6 ns ++ _) => hI1
  have hz1 : (ns.take 6 ++ [40, 26, 103, 40]).length < 100 := by simp; omega
  refine laid_call (ns := ns.take 6 ++ [40, 26, 103, 40]) B F1 X N1 T rfl rfl rfl (by show callerA.depth + 1 + 40 < recursionLimit; decide) (by show callerA.units + 3 + 300 < cLine; decide) rfl (.head _) hI1 hz1 ?_
  intro h2 tk2 tp u2 lr nr rows src F2 N2 hlay hlr htp hlrtp
  have hlr2 : ∀ q ∈ (L + 1, oc) :: (tabN none ++ objs rows), q.1 ≠ lr := fun q hq => by
    rcases List.mem_cons.mp hq with rfl | hq
    · exact hlr _ (List.mem_append_right _ (.tail _ (.tail _ (.tail _ (.head _)))))
    · rcases List.mem_append.mp hq with hq | hq
      · exact hlr _ (List.mem_append_right _ (.tail _ (.tail _ (.tail _ (.tail _ hq)))))
      · exact hlr _ (List.mem_append_left _ hq)
  replace N2 := news_sub (l' := (tp, tupObj [.str (src ++ Str.ofString " # the end") u2, .ref lr]) :: (L + 1, oc) :: (lr, listOf (rows.map RowD.val).toArray nr) :: (tabN none ++ objs rows)) N2 (fun q hq => by
    rcases List.mem_cons.mp hq with rfl | hq
    · exact .head _
    · rcases List.mem_cons.mp hq with rfl | hq
      · exact .tail _ (.tail _ (List.mem_append_right _ (.tail _ (.tail _ (.tail _ (.head _))))))
      · rcases List.mem_cons.mp hq with rfl | hq
        · exact .tail _ (.head _)
        · rcases List.mem_append.mp hq with hq | hq
          · exact .tail _ (.tail _ (List.mem_append_right _ (.tail _ (.tail _ (.tail _ (.tail _ hq))))))
          · exact .tail _ (.tail _ (List.mem_append_left _ hq)))
  clear F1 N1 hlr htp
  dsimp only
  k_steps
  rename Fr _ _ _ _ => F3
  rename News _ _ _ _ => N3
  exact h _ _ u2 lr nr rows src (fun z => if z = Str.ofString "script" then some (.ref sl) else f z) hlay F3 (news_sub N3 (fun q hq => .tail _ hq)) hlr2
set_option maxHeartbeats 8000000 in
theorem law_st1 {base : Heap} {L : Addr} {oc : Obj} {v0 : Option Value} {mg mb : Str → Option Value} {f : Str → Option Value} {rest : List (Addr × Obj)} {s : Shared} {w : World} {p : Program} {loose : List Str} {mean : ExcName → Option Value} {Q : Flow → Shared → Prop} {E : Value → Shared → Prop}
  (F : Fr base L s.heap f) (X : (K w.params).In base) (N : News base L s.heap ((L + 1, oc) :: rest)) (hoc : oc.data = .cell v0) (T : Top p loose mean mg mb base) (hoff : ∀ q ∈ rest, q.1 ≠ L + 1)
  (h : ∀ (h' : Heap) (tk u lh : Nat) (oc' : Obj), oc'.data = .cell (some (.ref lh)) → Fr base L h' (fun z => if z = Str.ofString "place" then some (.int (0 : Nat) u) else f z) →
    News base L h' ((lh, listOf #[] 0) :: (L + 1, oc') :: rest) → (∀ q ∈ (L + 1, oc') :: rest, q.1 ≠ lh) → Q .next { s with heap := h', toks := tk })
  : wpAny (model PR w) (lawA L) (exec (lawAt 1) (lawEnv L)) Q E s := by
  revert X; unfold PR; k_fill; intro X
  have B : Below callerA base [] base := below_caller base
  have hb : lawAt 1 = lawAt 1 := rfl
  conv at hb => rhs; whnf
  have hs : scopeAt 24 = scopeAt 24 := rfl
  conv at hs => rhs; whnf
  unfold lawA lawEnv
  rw [hs, hb]
  clear hb hs
  refine wpAny_noRaise ?_
  k_steps
  rename Fr _ _ _ _ => F1
  rename News _ _ _ _ => N1
  rename (_ ∧ _ ∧ AllLt _ _) => hD
  rename (_ ∧ AllLt _ _) => hl
  refine storeX_C (g := fun o => (_, _) :: (_, _) :: (L + 1, o) :: rest) F1 N1 rfl (.tail (Ne.symm (Nat.ne_of_lt hD.2.1)) (.tail (Ne.symm (Nat.ne_of_lt hl.1)) (.head hoff))) hoc ?_
  intro h2 oc2 F2 N2 hoc2
  clear F1 N1
  dsimp only
  k_steps
  rename Fr _ _ _ _ => F3
  rename News _ _ _ _ => N3
  refine h _ _ _ _ oc2 hoc2 F3 (news_sub N3 (fun q hq => .tail _ hq)) (fun q hq => ?_)
  rcases List.mem_cons.mp hq with rfl | hq
  · exact Nat.ne_of_lt hl.1
  · exact Nat.ne_of_lt (allLt_at hl.2 q hq)
end Mine
end
section
namespace Mine
open List
section
variable {α : Type} {lt : α → α → Bool}
/-- a strict order that is total up to likeness -/
structure Ord (lt : α → α → Bool) : Prop where
  asymm : ∀ a b, lt a b = true → lt b a = false
  trans : ∀ a b c, lt b a = false → lt c b = false → lt c a = false
theorem set_perm : ∀ {l : List α} {i : Nat} (_ : i < l.length) (x : α), (l.set i x).Perm (x :: l.eraseIdx i)
  | a :: l, 0, _, x => .refl _
  | a :: l, i + 1, h, x => ((set_perm (l := l) (i := i) (by simpa using h) x).cons a).trans (.swap _ _ _)
theorem get_perm : ∀ {l : List α} {i : Nat} {p : α} (_ : l[i]? = some p), (p :: l.eraseIdx i).Perm l
  | a :: l, 0, p, h => by obtain rfl := Option.some.inj h; exact .refl _
  | a :: l, i + 1, p, h => (List.Perm.swap a p _).trans ((get_perm (l := l) (i := i) (by simpa using h)).cons a)
theorem swap_perm {l : List α} {i j : Nat} {p x : α} (hi : i < l.length) (hj : l[j]? = some p) (hij : i ≠ j) : ((l.set i p).set j x).Perm (l.set i x) := by
  have hjl : j < l.length := (List.getElem?_eq_some_iff.mp hj).1
  have h1 := set_perm (l := l.set i p) (i := j) (by simpa using hjl) x
  have h2 := set_perm (l := l) (i := i) hi x
  have h3 := set_perm (l := l) (i := i) hi p
  have h4 := get_perm (l := l.set i p) (i := j) (p := p) (by rw [List.getElem?_set, if_neg hij]; exact hj)
  exact h1.trans ((((h4.trans h3).cons_inv).cons x).trans h2.symm)
theorem sd_perm (x : α) : ∀ (ys : List α) (pos : Nat), pos < ys.length → (sdFin lt x ys pos).Perm (ys.set pos x) := by
  intro ys pos
  fun_induction sdFin lt x ys pos with
  | case1 ys => intro _; exact .refl _
  | case2 ys pos h p hp hlt ih =>
    intro hl
    have hq : (pos - 1) / 2 < pos := by omega
    exact (ih (by rw [List.length_set]; omega)).trans (swap_perm hl hp (by omega))
  | case3 ys pos h p hp hlt => intro _; exact .refl _
  | case4 ys pos h hp => intro _; exact .refl _
theorem su_perm (x : α) : ∀ (ys : List α) (pos : Nat), pos < ys.length → (suFin lt x ys pos).Perm (ys.set pos x) := by
  intro ys pos
  fun_induction suFin lt x ys pos with
  | case1 ys pos h y hy ih =>
    intro hl
    have := suChild_gt lt ys pos
    exact (ih (by rw [List.length_set]; exact (List.getElem?_eq_some_iff.mp hy).1)).trans (swap_perm hl hy (by omega))
  | case2 ys pos h hn =>
    intro hl
    exfalso
    rw [List.getElem?_eq_none_iff] at hn
    unfold suChild at hn
    split at hn
    · rename_i a b ha hb
      have := (List.getElem?_eq_some_iff.mp hb).1
      split at hn <;> omega
    · omega
  | case3 ys pos h =>
    intro hl
    refine (sd_perm x _ _ (by simpa using hl)).trans ?_
    rw [List.set_set]
/-- the parent is not above the child -/
noncomputable def HeapOk (lt : α → α → Bool) (ys : List α) : Prop := ∀ (j : Nat) (a b : α), 0 < j → ys[j]? = some a → ys[(j - 1) / 2]? = some b → lt a b = false
theorem sd_heap (O : Ord lt) (x : α) : ∀ (ys : List α) (pos : Nat), pos < ys.length →
    (∀ (j : Nat) (a b : α), 0 < j → j ≠ pos → (j - 1) / 2 ≠ pos → ys[j]? = some a → ys[(j - 1) / 2]? = some b → lt a b = false) →
    (∀ (j : Nat) (a : α), 0 < j → (j - 1) / 2 = pos → ys[j]? = some a → lt a x = false) →
    (∀ (j : Nat) (a b : α), 0 < j → (j - 1) / 2 = pos → 0 < pos → ys[j]? = some a → ys[(pos - 1) / 2]? = some b → lt a b = false) →
    HeapOk lt (sdFin lt x ys pos) := by
  intro ys pos
  fun_induction sdFin lt x ys pos with
  | case1 ys =>
    intro hl h1 h2 _ j a b hj ha hb
    rw [List.getElem?_set] at ha hb
    rw [if_neg (by omega)] at ha
    by_cases e : 0 = (j - 1) / 2
    · rw [if_pos e, if_pos hl] at hb
      obtain rfl := Option.some.inj hb
      exact h2 j a hj e.symm ha
    · rw [if_neg e] at hb
      exact h1 j a b hj (by omega) (by omega) ha hb
  | case2 ys pos h p hp hlt ih =>
    intro hl h1 h2 h3
    have hq : (pos - 1) / 2 < pos := by omega
    refine ih (by rw [List.length_set]; omega) ?_ ?_ ?_
    · intro j a b hj hjq hjpq ha hb
      rw [List.getElem?_set] at ha hb
      by_cases e1 : pos = j
      · omega
      · rw [if_neg e1] at ha
        by_cases e2 : pos = (j - 1) / 2
        · rw [if_pos e2, if_pos hl] at hb
          obtain rfl := Option.some.inj hb
          exact h3 j a p hj e2.symm (by omega) ha hp
        · rw [if_neg e2] at hb
          exact h1 j a b hj (by omega) (by omega) ha hb
    · intro j a hj hjq ha
      rw [List.getElem?_set] at ha
      by_cases e1 : pos = j
      · rw [if_pos e1, if_pos hl] at ha
        obtain rfl := Option.some.inj ha
        exact O.asymm _ _ hlt
      · rw [if_neg e1] at ha
        refine O.trans x p a (O.asymm _ _ hlt) ?_
        exact h1 j a p hj (by omega) (by omega) ha (by rw [hjq]; exact hp)
    · intro j a b hj hjq hq0 ha hb
      rw [List.getElem?_set] at ha hb
      rw [if_neg (by omega)] at hb
      have hpb : lt p b = false := h1 ((pos - 1) / 2) p b hq0 (by omega) (by omega) hp hb
      by_cases e1 : pos = j
      · rw [if_pos e1, if_pos hl] at ha
        obtain rfl := Option.some.inj ha
        exact hpb
      · rw [if_neg e1] at ha
        exact O.trans b p a hpb (h1 j a p hj (by omega) (by omega) ha (by rw [hjq]; exact hp))
  | case3 ys pos h p hp hlt =>
    intro hl h1 h2 _ j a b hj ha hb
    rw [List.getElem?_set] at ha hb
    by_cases e1 : pos = j
    · rw [if_pos e1, if_pos hl] at ha
      obtain rfl := Option.some.inj ha
      rw [if_neg (by omega)] at hb
      rw [← e1, hp] at hb
      obtain rfl := Option.some.inj hb
      simpa using hlt
    · rw [if_neg e1] at ha
      by_cases e : pos = (j - 1) / 2
      · rw [if_pos e, if_pos hl] at hb
        obtain rfl := Option.some.inj hb
        exact h2 j a hj e.symm ha
      · rw [if_neg e] at hb
        exact h1 j a b hj (by omega) (by omega) ha hb
  | case4 ys pos h hp =>
    intro hl
    rw [List.getElem?_eq_none_iff] at hp
    omega
/-- the hole goes down to a leaf, the smaller child up; above the hole all is well -/
theorem su_heap (O : Ord lt) (x : α) : ∀ (ys : List α) (pos : Nat), pos < ys.length →
    (∀ (j : Nat) (a b : α), 0 < j → j ≠ pos → (j - 1) / 2 ≠ pos → ys[j]? = some a → ys[(j - 1) / 2]? = some b → lt a b = false) →
    (∀ (j : Nat) (a b : α), 0 < j → (j - 1) / 2 = pos → 0 < pos → ys[j]? = some a → ys[(pos - 1) / 2]? = some b → lt a b = false) →
    HeapOk lt (suFin lt x ys pos) := by
  intro ys pos
  fun_induction suFin lt x ys pos with
  | case1 ys pos h y hy ih =>
    intro hl h1 h3
    have hgt := suChild_gt lt ys pos
    have hcl := (List.getElem?_eq_some_iff.mp hy).1
    have hpar : (suChild lt ys pos - 1) / 2 = pos := by
      unfold suChild
      split
      · split <;> omega
      · omega
    have hsm : ∀ (j : Nat) (a : α), 0 < j → (j - 1) / 2 = pos → ys[j]? = some a → lt a y = false := by
      intro j a hj hjp ha
      have hj2 : j = 2 * pos + 1 ∨ j = 2 * pos + 2 := by omega
      have irr : ∀ z, lt z z = false := fun z => by
        cases e : lt z z with
        | false => rfl
        | true => have := O.asymm _ _ e; rw [e] at this; cases this
      unfold suChild at hy
      split at hy
      · rename_i a' b' ha' hb'
        split at hy
        · rename_i hab
          rw [ha'] at hy
          obtain rfl := Option.some.inj hy
          rcases hj2 with rfl | rfl
          · rw [ha'] at ha; obtain rfl := Option.some.inj ha; exact irr _
          · rw [hb'] at ha; obtain rfl := Option.some.inj ha; exact O.asymm _ _ hab
        · rename_i hab
          rw [hb'] at hy
          obtain rfl := Option.some.inj hy
          rcases hj2 with rfl | rfl
          · rw [ha'] at ha; obtain rfl := Option.some.inj ha; simpa using hab
          · rw [hb'] at ha; obtain rfl := Option.some.inj ha; exact irr _
      · rename_i hnn
        rcases hj2 with rfl | rfl
        · rw [hy] at ha; obtain rfl := Option.some.inj ha; exact irr _
        · exact absurd ha (fun ha => hnn _ _ hy ha)
    refine ih (by rw [List.length_set]; exact hcl) ?_ ?_
    · intro j a b hj hjc hjpc ha hb
      rw [List.getElem?_set] at ha hb
      by_cases e1 : pos = j
      · rw [if_pos e1, if_pos hl] at ha
        obtain rfl := Option.some.inj ha
        rw [if_neg (by omega)] at hb
        rw [← e1] at hb
        exact h3 (suChild lt ys pos) y b (by omega) hpar (by omega) hy hb
      · rw [if_neg e1] at ha
        by_cases e2 : pos = (j - 1) / 2
        · rw [if_pos e2, if_pos hl] at hb
          obtain rfl := Option.some.inj hb
          exact hsm j a hj e2.symm ha
        · rw [if_neg e2] at hb
          exact h1 j a b hj (by omega) (by omega) ha hb
    · intro j a b hj hjc hc0 ha hb
      rw [hpar] at hb
      rw [List.getElem?_set, if_pos rfl, if_pos hl] at hb
      obtain rfl := Option.some.inj hb
      rw [List.getElem?_set, if_neg (by omega)] at ha
      exact h1 j a y hj (by omega) (by omega) ha (by rw [hjc]; exact hy)
  | case2 ys pos h hn =>
    intro hl
    exfalso
    rw [List.getElem?_eq_none_iff] at hn
    unfold suChild at hn
    split at hn
    · rename_i a b ha hb
      have := (List.getElem?_eq_some_iff.mp hb).1
      split at hn <;> omega
    · omega
  | case3 ys pos h =>
    intro hl h1 h3
    refine sd_heap O x _ _ (by simpa using hl) ?_ ?_ ?_
    · intro j a b hj hjp hjq ha hb
      rw [List.getElem?_set, if_neg (by omega)] at ha
      rw [List.getElem?_set, if_neg (by omega)] at hb
      exact h1 j a b hj hjp hjq ha hb
    · intro j a hj hjq ha
      rw [List.getElem?_set, if_neg (by omega)] at ha
      have := (List.getElem?_eq_some_iff.mp ha).1
      omega
    · intro j a b hj hjq hp ha hb
      rw [List.getElem?_set, if_neg (by omega)] at ha
      have := (List.getElem?_eq_some_iff.mp ha).1
      omega
theorem heap_min (O : Ord lt) {ys : List α} (H : HeapOk lt ys) {r : α} (hr : ys[0]? = some r) : ∀ (j : Nat) (a : α), ys[j]? = some a → lt a r = false := by
  intro j
  induction j using Nat.strongRecOn with
  | ind j ih =>
    intro a ha
    by_cases h0 : j = 0
    · subst h0
      rw [hr] at ha
      obtain rfl := Option.some.inj ha
      cases e : lt r r with
      | false => rfl
      | true => have := O.asymm _ _ e; rw [e] at this; cases this
    · have hl := (List.getElem?_eq_some_iff.mp ha).1
      have hq : (j - 1) / 2 < j := by omega
      have hb : ys[(j - 1) / 2]? = some (ys[(j - 1) / 2]'(by omega)) := List.getElem?_eq_getElem _
      exact O.trans r _ a (ih _ hq _ hb) (H j a _ (by omega) ha hb)
end
end Mine
end
section
open PySem PySem.W PyProof.Rows PySem.Calls
namespace Mine
theorem cps_ext {a b : Str} (h : a.cps.toList = b.cps.toList) : a = b := by
  cases a; cases b
  simp only [Str.mk.injEq]
  exact Array.toList_inj.mp h
/-- the order of the keys is a total one -/
theorem rowLt_iff (a b : RowD) : rowLt a b = true ↔ a.word.cps.toList < b.word.cps.toList ∨ (a.word = b.word ∧ (a.st < b.st ∨ (a.st = b.st ∧ a.en < b.en))) := by
  unfold rowLt
  by_cases h1 : a.word = b.word
  · have e1 : (a.word == b.word) = true := beq_iff_eq.mpr h1
    have no : ¬ a.word.cps.toList < b.word.cps.toList := by rw [h1]; exact List.lt_irrefl _
    by_cases h2 : a.st = b.st
    · have e2 : (a.st == b.st) = true := beq_iff_eq.mpr h2
      rw [e1, e2]
      show decide (a.en < b.en) = true ↔ _
      rw [decide_eq_true_iff]
      refine ⟨fun q => .inr ⟨h1, .inr ⟨h2, q⟩⟩, fun q => ?_⟩
      rcases q with q | ⟨_, q⟩
      · exact absurd q no
      · omega
    · have e2 : (a.st == b.st) = false := beq_eq_false_iff_ne.mpr h2
      rw [e1, e2]
      show decide (a.st < b.st) = true ↔ _
      rw [decide_eq_true_iff]
      refine ⟨fun q => .inr ⟨h1, .inl q⟩, fun q => ?_⟩
      rcases q with q | ⟨_, q⟩
      · exact absurd q no
      · omega
  · have e1 : (a.word == b.word) = false := beq_eq_false_iff_ne.mpr h1
    rw [e1]
    show decide (a.word.cps.toList < b.word.cps.toList) = true ↔ _
    rw [decide_eq_true_iff]
    exact ⟨fun q => .inl q, fun q => q.elim id (fun z => absurd z.1 h1)⟩
theorem row_ord : Ord rowLt where
  asymm a b h := by
    rw [rowLt_iff] at h
    rw [Bool.eq_false_iff]
    intro h'
    rw [rowLt_iff] at h'
    rcases h with h | ⟨h1, h2⟩ <;> rcases h' with h' | ⟨h1', h2'⟩
    · exact List.lt_asymm h h'
    · rw [h1'] at h; exact List.lt_irrefl _ h
    · rw [h1] at h'; exact List.lt_irrefl _ h'
    · omega
  trans a b c h1 h2 := by
    rw [Bool.eq_false_iff, ne_eq, rowLt_iff] at h1 h2 ⊢
    intro h3
    have tot : ∀ x y : RowD, ¬ (x.word.cps.toList < y.word.cps.toList) → ¬ (y.word.cps.toList < x.word.cps.toList) → x.word = y.word := fun x y p q => cps_ext (List.le_antisymm (List.not_lt.mp q) (List.not_lt.mp p))
    rcases h3 with h3 | ⟨h3, h4⟩
    · by_cases hab : a.word.cps.toList < b.word.cps.toList
      · exact h2 (.inl (List.lt_trans h3 hab))
      · have e := tot a b hab (fun q => h1 (.inl q))
        rw [e] at h3
        exact h2 (.inl h3)
    · by_cases hbc : b.word.cps.toList < c.word.cps.toList
      · rw [h3] at hbc; exact h1 (.inl hbc)
      · have e := tot b c hbc (fun q => h2 (.inl q))
        have e2 : b.word = a.word := e.trans h3
        have n1 : ¬ (b.st < a.st ∨ b.st = a.st ∧ b.en < a.en) := fun q => h1 (.inr ⟨e2, q⟩)
        have n2 : ¬ (c.st < b.st ∨ c.st = b.st ∧ c.en < b.en) := fun q => h2 (.inr ⟨e.symm, q⟩)
        omega
theorem row_anti {a b : RowD} (h1 : rowLt a b = false) (h2 : rowLt b a = false) : keyOf a = keyOf b := by
  rw [Bool.eq_false_iff, ne_eq, rowLt_iff] at h1 h2
  have e : a.word = b.word := cps_ext (List.le_antisymm (List.not_lt.mp (fun q => h2 (.inl q))) (List.not_lt.mp (fun q => h1 (.inl q))))
  have n1 : ¬ (a.st < b.st ∨ a.st = b.st ∧ a.en < b.en) := fun q => h1 (.inr ⟨e, q⟩)
  have n2 : ¬ (b.st < a.st ∨ b.st = a.st ∧ b.en < a.en) := fun q => h2 (.inr ⟨e.symm, q⟩)
  unfold keyOf
  rw [e, show a.st = b.st by omega, show a.en = b.en by omega]
theorem rowLe_iff (a b : RowD) : rowLe a b = !rowLt b a := by
  unfold rowLe rowLt
  by_cases h1 : a.word = b.word
  · have e1 : (a.word == b.word) = true := beq_iff_eq.mpr h1
    have e1' : (b.word == a.word) = true := beq_iff_eq.mpr h1.symm
    by_cases h2 : a.st = b.st
    · have e2 : (a.st == b.st) = true := beq_iff_eq.mpr h2
      have e2' : (b.st == a.st) = true := beq_iff_eq.mpr h2.symm
      rw [e1, e2, e1', e2']
      show decide (a.en ≤ b.en) = !decide (b.en < a.en)
      rw [← decide_not, decide_eq_decide]; omega
    · have e2 : (a.st == b.st) = false := beq_eq_false_iff_ne.mpr h2
      have e2' : (b.st == a.st) = false := beq_eq_false_iff_ne.mpr (fun q => h2 q.symm)
      rw [e1, e2, e1', e2']
      show decide (a.st < b.st) = !decide (b.st < a.st)
      rw [← decide_not, decide_eq_decide]; omega
  · have e1 : (a.word == b.word) = false := beq_eq_false_iff_ne.mpr h1
    have e1' : (b.word == a.word) = false := beq_eq_false_iff_ne.mpr (fun q => h1 q.symm)
    rw [e1, e1']
    show decide (a.word.cps.toList < b.word.cps.toList) = !decide (b.word.cps.toList < a.word.cps.toList)
    rw [← decide_not, decide_eq_decide]
    constructor
    · exact fun p q => List.lt_asymm p q
    · intro p
      by_cases q : a.word.cps.toList < b.word.cps.toList
      · exact q
      · exact absurd (cps_ext (List.le_antisymm (List.not_lt.mp p) (List.not_lt.mp q))) h1
/-- a list in rising order -/
noncomputable abbrev Sorted (l : List RowD) : Prop := l.Pairwise fun a b => rowLt b a = false
theorem take_le {l : List RowD} {r : RowD} (S : Sorted l) : (∀ a ∈ l.take (l.filter (rowLe · r)).length, rowLt r a = false) ∧ (∀ a ∈ l.drop (l.filter (rowLe · r)).length, rowLt r a = true) := by
  induction l with
  | nil => exact ⟨fun a h => by simp at h, fun a h => by simp at h⟩
  | cons b l ih =>
    obtain ⟨hb, S'⟩ := List.pairwise_cons.mp S
    by_cases hbr : rowLe b r = true
    · rw [List.filter_cons, if_pos hbr, List.length_cons, List.take_succ_cons, List.drop_succ_cons]
      refine ⟨fun a ha => ?_, (ih S').2⟩
      rcases List.mem_cons.mp ha with rfl | ha
      · rw [rowLe_iff] at hbr; simpa using hbr
      · exact (ih S').1 a ha
    · have hall : ∀ a ∈ l, ¬ rowLe a r = true := fun a ha q => by
        rw [rowLe_iff] at q hbr
        have q' : rowLt r a = false := by simpa using q
        exact hbr (by rw [row_ord.trans b a r (hb a ha) q']; rfl)
      have hf : l.filter (rowLe · r) = [] := List.filter_eq_nil_iff.mpr (fun a ha => by simpa using hall a ha)
      rw [List.filter_cons, if_neg hbr, hf]
      refine ⟨fun a ha => by simp at ha, fun a ha => ?_⟩
      have key : ∀ a, ¬ rowLe a r = true → rowLt r a = true := fun a q => by rw [rowLe_iff] at q; simpa using q
      rcases List.mem_cons.mp ha with rfl | ha
      · exact key _ hbr
      · exact key _ (hall a ha)
theorem layIn_sorted {l : List RowD} {r : RowD} (S : Sorted l) : Sorted (layIn l r) := by
  unfold layIn
  obtain ⟨h1, h2⟩ := take_le (r := r) S
  have hsplit := List.take_append_drop (l.filter (rowLe · r)).length l
  rw [← hsplit] at S
  obtain ⟨s1, s2, s3⟩ := List.pairwise_append.mp S
  rw [List.append_assoc]
  refine List.pairwise_append.mpr ⟨s1, ?_, ?_⟩
  · refine List.pairwise_cons.mpr ⟨fun a ha => row_ord.asymm _ _ (h2 a ha), s2⟩
  · intro a ha b hb
    rcases List.mem_cons.mp hb with rfl | hb
    · exact h1 a ha
    · exact s3 a ha b hb
theorem rise_sorted (rs : List RowD) : Sorted (rise rs) := by
  have key : ∀ (l acc : List RowD), Sorted acc → Sorted (l.foldl layIn acc) := by
    intro l
    induction l with
    | nil => exact fun acc h => h
    | cons r l ih => exact fun acc h => ih _ (layIn_sorted h)
  exact key rs [] List.Pairwise.nil
theorem rise_perm (rs : List RowD) : (rise rs).Perm rs := by
  have := fold_perm rs []
  simpa [rise] using this
theorem pushed_heap {hs : List RowD} {r : RowD} (H : HeapOk rowLt hs) : HeapOk rowLt (pushed hs r) := by
  unfold pushed
  refine sd_heap row_ord r _ _ (by simp) ?_ ?_ ?_
  · intro j a b hj hjp hjq ha hb
    have hjl := (List.getElem?_eq_some_iff.mp ha).1
    simp at hjl
    have hjl2 : j < hs.length := by omega
    rw [List.getElem?_append_left hjl2] at ha
    rw [List.getElem?_append_left (by omega)] at hb
    exact H j a b hj ha hb
  · intro j a hj hjq ha
    have hjl := (List.getElem?_eq_some_iff.mp ha).1
    simp at hjl
    omega
  · intro j a b hj hjq hp ha hb
    have hjl := (List.getElem?_eq_some_iff.mp ha).1
    simp at hjl
    omega
theorem pushed_perm (hs : List RowD) (r : RowD) : (pushed hs r).Perm (hs ++ [r]) := by
  unfold pushed
  refine (sd_perm r _ _ (by simp)).trans ?_
  rw [List.set_append_right _ _ (Nat.le_refl _)]
  simp
theorem pushes_heap (l : List RowD) : HeapOk rowLt (l.foldl pushed []) := by
  have key : ∀ (l acc : List RowD), HeapOk rowLt acc → HeapOk rowLt (l.foldl pushed acc) := by
    intro l
    induction l with
    | nil => exact fun acc h => h
    | cons r l ih => exact fun acc h => ih _ (pushed_heap h)
  exact key l [] (fun j a b _ ha _ => by simp at ha)
theorem pushes_perm (l : List RowD) : (l.foldl pushed []).Perm l := by
  have key : ∀ (l acc : List RowD), (l.foldl pushed acc).Perm (acc ++ l) := by
    intro l
    induction l with
    | nil => intro acc; simp
    | cons r l ih =>
      intro acc
      refine (ih (pushed acc r)).trans ?_
      refine (List.Perm.append_right _ (pushed_perm acc r)).trans ?_
      simp
  simpa using key l []
theorem su0_heap {t : List RowD} {y r : RowD} (H : HeapOk rowLt (r :: t)) : HeapOk rowLt (suFin rowLt y (y :: t) 0) := by
  refine su_heap row_ord y _ _ (by simp) ?_ ?_
  · intro j a b hj hj0 hjq ha hb
    refine H j a b hj ?_ ?_
    · obtain ⟨k, rfl⟩ : ∃ k, j = k + 1 := ⟨j - 1, by omega⟩
      simpa using ha
    · obtain ⟨k, hk⟩ : ∃ k, (j - 1) / 2 = k + 1 := ⟨(j - 1) / 2 - 1, by omega⟩
      rw [hk] at hb ⊢
      simpa using hb
  · intro j a b hj hjq hp
    omega
theorem su0_perm (t : List RowD) (y : RowD) : (suFin rowLt y (y :: t) 0).Perm (y :: t) := by
  refine (su_perm y _ _ (by simp)).trans ?_
  simp
theorem popped_ok {r : RowD} {t : List RowD} (H : HeapOk rowLt (r :: t)) : HeapOk rowLt (popped (r :: t)) ∧ (popped (r :: t)).Perm t := by
  unfold popped
  rw [List.getLast?_eq_some_getLast (by simp : r :: t ≠ [])]
  have hsp := List.dropLast_concat_getLast (l := r :: t) (by simp)
  generalize (r :: t).getLast (by simp) = y at hsp ⊢
  cases hd : (r :: t).dropLast with
  | nil =>
    rw [hd] at hsp
    simp at hsp
    obtain ⟨_, rfl⟩ := hsp
    exact ⟨fun j a b _ ha _ => by simp at ha, .refl _⟩
  | cons a t' =>
    rw [hd] at hsp
    have e1 : a = r ∧ t' ++ [y] = t := by simpa using hsp
    obtain ⟨rfl, e2⟩ := e1
    have H' : HeapOk rowLt (a :: t') := fun j x z hj hx hz => by
      refine H j x z hj ?_ ?_
      · rw [← hsp, List.getElem?_append_left (List.getElem?_eq_some_iff.mp hx).1]; exact hx
      · rw [← hsp, List.getElem?_append_left (List.getElem?_eq_some_iff.mp hz).1]; exact hz
    refine ⟨su0_heap H', ?_⟩
    dsimp only
    refine (su0_perm t' y).trans ?_
    rw [← e2]
    exact (List.perm_append_comm (l₁ := [y]) (l₂ := t'))
/-- what is popped comes in order -/
theorem pops_ok {H S : List RowD} (hH : HeapOk rowLt H) (hS : Sorted S) (hp : H.Perm S) (inj : ∀ a ∈ S, ∀ b ∈ S, keyOf a = keyOf b → a = b) : ∀ i, HeapOk rowLt (popN H i) ∧ (popN H i).Perm (S.drop i) ∧ (popN H i).head? = S[i]? := by
  have head : ∀ (H' S' : List RowD), HeapOk rowLt H' → Sorted S' → H'.Perm S' → (∀ a ∈ S', a ∈ S) → H'.head? = S'.head? := by
    intro H' S' h1 h2 h3 h4
    cases H' with
    | nil => rw [List.nil_perm.mp h3]
    | cons a t =>
      cases S' with
      | nil => have := h3.length_eq; simp at this
      | cons b u =>
        have hab : rowLt b a = false := by
          have : b ∈ a :: t := h3.mem_iff.mpr (.head _)
          obtain ⟨j, hj⟩ := List.mem_iff_getElem?.mp this
          exact heap_min row_ord h1 (r := a) rfl j b hj
        have hba : rowLt a b = false := by
          have : a ∈ b :: u := h3.mem_iff.mp (.head _)
          rcases List.mem_cons.mp this with e | e
          · rw [e]
            cases q : rowLt b b with
            | false => rfl
            | true => have := row_ord.asymm _ _ q; rw [q] at this; cases this
          · exact (List.pairwise_cons.mp h2).1 a e
        have := inj a (h4 a (h3.mem_iff.mp (.head _))) b (h4 b (.head _)) (row_anti hba hab)
        rw [this]; rfl
  intro i
  induction i with
  | zero =>
    refine ⟨hH, by show H.Perm (S.drop 0); simpa using hp, ?_⟩
    have := head H S hH hS hp (fun _ h => h)
    rw [List.head?_eq_getElem?, List.head?_eq_getElem?] at this
    show H.head? = S[0]?
    rw [List.head?_eq_getElem?]; exact this
  | succ i ih =>
    obtain ⟨i1, i2, i3⟩ := ih
    have Sd : ∀ k, Sorted (S.drop k) := fun k => List.Pairwise.sublist (List.drop_sublist k S) hS
    have both : HeapOk rowLt (popN H (i + 1)) ∧ (popN H (i + 1)).Perm (S.drop (i + 1)) := by
      show HeapOk rowLt (popped (popN H i)) ∧ (popped (popN H i)).Perm _
      cases hq : popN H i with
      | nil =>
        rw [hq] at i2
        have : S.drop i = [] := List.nil_perm.mp i2
        have hl : S.length ≤ i := List.drop_eq_nil_iff.mp this
        have h2 : S.drop (i + 1) = [] := List.drop_eq_nil_iff.mpr (by omega)
        rw [h2]
        exact ⟨fun j a b _ ha _ => by simp [popped] at ha, by simp [popped]⟩
      | cons r t =>
        rw [hq] at i1 i2 i3
        obtain ⟨p1, p2⟩ := popped_ok i1
        refine ⟨p1, p2.trans ?_⟩
        have hlt : i < S.length := by
          have := (List.getElem?_eq_some_iff.mp i3.symm).1
          exact this
        have e : S.drop i = S[i] :: S.drop (i + 1) := List.drop_eq_getElem_cons hlt
        have er : r = S[i] := by
          have : some r = S[i]? := i3
          rw [List.getElem?_eq_getElem hlt] at this
          exact Option.some.inj this
        rw [e, ← er] at i2
        exact i2.cons_inv
    refine ⟨both.1, both.2, ?_⟩
    have := head _ _ both.1 (Sd (i + 1)) both.2 (fun a ha => List.mem_of_mem_drop ha)
    rw [this, List.head?_drop]
end Mine
end
section
open PySem PySem.W PyProof.Rows PySem.Calls
set_option maxRecDepth 100000
namespace Mine
/-- the plain facts of what was laid -/
structure Plain (W P : Str → Bool) (src : Str) (rows : List RowD) : Prop where
  scan : Scan W P src (rows.map keyOf)
  told : ∀ r ∈ rows, Told P src (keyOf r)
  len : rows.length < 100
  short : ∀ r ∈ rows, r.word.length ≤ 2
  pops : ∀ i r, (rise rows)[i]? = some r → (popN (rows.foldl pushed []) i).head? = some r ∧ (popN (rows.foldl pushed []) i).length = rows.length - i ∧ ∀ q ∈ popN (rows.foldl pushed []) i, q ∈ rows
  empty : popN (rows.foldl pushed []) rows.length = []
  long : ∀ rs : List RowD, rs.map keyOf = (rows.take 3).map zKey → rs.length < 100 ∧ (∀ q ∈ rs, PyData.strOk q.word = true) ∧ ∃ r t, rs.foldl pushed [] = r :: t ∧ (rise rs).head? = some r ∧ (∀ q ∈ r :: t, q ∈ rs) ∧ t.length < 100 ∧
    ∀ zz : RowD, keyOf zz = zzKey → ∀ i, i ≤ rs.length → (popN (suFin rowLt zz (zz :: t) 0) i).head? = ((rise rs).tail ++ [zz])[i]? ∧ (popN (suFin rowLt zz (zz :: t) 0) i).length = rs.length - i ∧ ∀ q ∈ popN (suFin rowLt zz (zz :: t) 0) i, q ∈ zz :: t
theorem news_ne {g h : Heap} {L a b : Addr} {oa ob : Obj} {news : List (Addr × Obj)} (N : News g L h news) (ha : (a, oa) ∈ news) (hb : (b, ob) ∈ news) (hn : oa ≠ ob) : a ≠ b := fun e => by
  have h1 := (N _ ha).1
  have h2 := (N _ hb).1
  dsimp only at h1 h2
  rw [e, h2] at h1
  exact hn (Option.some.inj h1).symm
theorem list_ne_tab {its : Array Value} {n : Nat} {ps : Array Value} : listOf its n ≠ PySem.W.tabObj ps := fun e => by
  have := congrArg Obj.cls e
  cases this
theorem cell_ne_tab {oc : Obj} {v : Option Value} {ps : Array Value} (h : oc.data = .cell v) : oc ≠ PySem.W.tabObj ps := fun e => by rw [e] at h; cases h
theorem cell_ne_list {oc : Obj} {v : Option Value} {its : Array Value} {n : Nat} (h : oc.data = .cell v) : oc ≠ listOf its n := fun e => by rw [e] at h; cases h
theorem tab95 (o : Option (Addr × Obj)) : ∃ ps, (95, PySem.W.tabObj ps) ∈ tabN o := by
  cases o with
  | none => exact ⟨_, .head _⟩
  | some c => exact ⟨_, .head _⟩
theorem law_list : bodyAt 24 = [lawAt 0, lawAt 1, lawAt 2, lawAt 3, lawAt 4, lawAt 5, lawAt 6, lawAt 7, lawAt 8] := by kernel_rfl
theorem law_body {base : Heap} {L sl : Addr} {oc : Obj} {v0 : Option Value} {f mg mb : Str → Option Value} {vs : List Value} {ns : List Int} {s : Shared} {w : World} {p : Program} {loose : List Str} {mean : ExcName → Option Value} {Q : Flow → Shared → Prop} {E : Value → Shared → Prop} {P W : Str → Bool}
  (F : Fr base L s.heap (fun z => if z = Str.ofString "script" then some (.ref sl) else f z)) (X : (K w.params).In base) (C : CodeHd base 99 95) (N : News base L s.heap ((L + 1, oc) :: tabN none)) (hoc : oc.data = .cell v0) (T : Top p loose mean mg mb base)
  (hS : StrSet base 36 P) (hW : StrSet base 45 W) (hl : base.IsList sl vs.toArray) (hi : IntsAre vs ns) (hz : ns.length < 64)
  (plain : ∀ (src : Str) (rows : List RowD), layAll (ns.take 6 ++ [40, 26, 103, 40]) = (src, rows.map keyOf) → Plain W P (src ++ Str.ofString " # the end") rows)
  (h : ∀ h' tk ps, (∀ b o, base.get? b = some o → h'.get? b = some o) → h'.get? 95 = some (PySem.W.tabObj ps) → Q (.ret (.bool true)) { s with heap := h', toks := tk })
  : wpAny (model PR w) (lawA L) (execs (bodyAt 24) (lawEnv L)) Q E s := by
  rw [law_list]
  refine wpAny_execs_cons (law_st0 F X N hoc T hl hi hz fun h1 tk1 u1 lr nr rows src0 f1 hlay F1 N1 hlr => ?_)
  have PL := plain src0 rows hlay
  clear plain hlay F N
  generalize src0 ++ Str.ofString " # the end" = src at PL F1
  have hro : ∀ {r : RowD}, r ∈ rows → (r.adr, r.obj) ∈ objs rows := fun hr => List.mem_map_of_mem (f := fun r : RowD => (r.adr, r.obj)) hr
  have hoff1 : ∀ q ∈ (lr, listOf (rows.map RowD.val).toArray nr) :: (tabN none ++ objs rows), q.1 ≠ L + 1 := fun q hq => by
    have hq' := hq
    rcases List.mem_cons.mp hq with rfl | hq
    · exact Ne.symm (news_ne N1 (.head _) (.tail _ (.head _)) (cell_ne_list hoc))
    · rcases List.mem_append.mp hq with hq | hq
      · obtain rfl := List.mem_singleton.mp hq
        exact Ne.symm (news_ne N1 (.head _) (.tail _ hq') (cell_ne_tab hoc))
      · obtain ⟨r, hr, rfl⟩ := List.mem_map.mp hq
        exact Ne.symm (news_ne N1 (.head _) (.tail _ hq') (cell_ne_list hoc))
  refine wpAny_execs_cons (law_st1 F1 X N1 hoc T hoff1 fun h2 tk2 u2 lh oc2 hoc2 F2 N2 hlh2 => ?_)
  clear F1 N1 hoff1 hoc
  refine wpAny_execs_cons (law_loop1 (below_caller base) F2 X T N2 hoc2 hS hW PL.scan hlh2 PL.len fun g3 h3 tk3 u3 nh3 f3 B3 F3 N3 => ?_)
  clear F2 N2
  have hend := PL.scan.end_
  rw [List.length_map] at hend
  refine wpAny_execs_cons (law_if3 (us := u1) (up := u3) (src := src) (f := fun z => if z = Str.ofString "rows" then some (.ref lr) else f3 z) B3 (fr_map F3 (fun z => ?_)) X T N3 hS hW PL.scan.small hend.1 PL.scan.clean hend.2 fun g4 h4 tk4 B4 F4 N4 => ?_)
  · by_cases e1 : z = Str.ofString "place"
    · subst e1; rfl
    · by_cases e2 : z = Str.ofString "rows"
      · subst e2; rfl
      · simp [e1, e2]
  clear F3 N3
  have hlr95 : lr ≠ 95 := news_ne N4 (.tail _ (.tail _ (.head _))) (.tail _ (.tail _ (.tail _ (List.mem_append_left _ (.head _))))) list_ne_tab
  have hlh95 : lh ≠ 95 := news_ne N4 (.head _) (.tail _ (.tail _ (.tail _ (List.mem_append_left _ (.head _))))) list_ne_tab
  have hL95 : L + 1 ≠ 95 := news_ne N4 (.tail _ (.head _)) (.tail _ (.tail _ (.tail _ (List.mem_append_left _ (.head _))))) (cell_ne_tab hoc2)
  have hr95 : ∀ r ∈ rows, r.adr ≠ 95 := fun r hr => news_ne N4 (.tail _ (.tail _ (.tail _ (List.mem_append_right _ (hro hr))))) (.tail _ (.tail _ (.tail _ (List.mem_append_left _ (.head _))))) list_ne_tab
  have hlrlh : lr ≠ lh := hlh2 _ (.tail _ (.head _))
  have hL1lh : L + 1 ≠ lh := hlh2 _ (.head _)
  have hrlh : ∀ r ∈ rows, r.adr ≠ lh := fun r hr => hlh2 (r.adr, r.obj) (.tail _ (.tail _ (List.mem_append_right _ (hro hr))))
  refine wpAny_execs_cons (law_loop2 (f := fun z => if z = Str.ofString "place" then some (.int (plc (rows.map keyOf) rows.length : Nat) u3) else f3 z) (us := u1) (src := src) (lr := lr) B4 (fr_map F4 (fun z => ?_)) X T C (o := none) trivial N4 hoc2 hS hlrlh hL1lh hrlh ⟨hlh95, hL95, hlr95, hr95⟩ PL.len PL.scan.small PL.told PL.pops fun g5 h5 tk5 nh5 o5 f5 B5 ho5 F5 N5 => ?_)
  · by_cases e1 : z = Str.ofString "place"
    · subst e1; rfl
    · by_cases e2 : z = Str.ofString "rows"
      · subst e2; rfl
      · simp [e1, e2]
  clear F4 N4
  rw [PL.empty] at N5
  have ht5 := tab_ne N5 (fun q hq => .tail _ (.tail _ (.tail _ (List.mem_append_left _ hq)))) ho5 (.head _) hlh95 list_no
  refine wpAny_execs_cons (law_long (rows := rows) (nr := nr) (lr := lr) (news := (lh, listOf (([] : List RowD).map RowD.val).toArray nh5) :: (L + 1, oc2) :: (tabN o5 ++ objs rows)) B5 F5 X T (news_sub N5 (fun q hq => ?_)) (fun r hr => .tail _ (.tail _ (List.mem_append_right _ (hro hr)))) PL.len PL.short fun h6 tk6 ll nl rs hkeys F6 N6 hnew => ?_)
  · rcases List.mem_cons.mp hq with rfl | hq
    · exact .tail _ (.tail _ (.head _))
    · rcases List.mem_cons.mp hq with rfl | hq
      · exact .head _
      · rcases List.mem_cons.mp hq with rfl | hq
        · exact .tail _ (.head _)
        · exact .tail _ (.tail _ (.tail _ hq))
  clear F5 N5
  obtain ⟨hrs, hok, r, t, hpush, hrise, hmem, htl, hzz⟩ := PL.long rs hkeys
  have hro2 : ∀ {r : RowD}, r ∈ rs → (r.adr, r.obj) ∈ objs rs := fun hr => List.mem_map_of_mem (f := fun r : RowD => (r.adr, r.obj)) hr
  have N7 := news_sub (l' := (lh, listOf #[] nh5) :: (L + 1, oc2) :: (ll, listOf (rs.map RowD.val).toArray nl) :: (tabN o5 ++ objs rs)) N6 (fun q hq => by
    rcases List.mem_cons.mp hq with rfl | hq
    · exact .tail _ (.tail _ (List.mem_append_right _ (.head _)))
    · rcases List.mem_cons.mp hq with rfl | hq
      · exact .tail _ (.tail _ (List.mem_append_right _ (.tail _ (.head _))))
      · rcases List.mem_cons.mp hq with rfl | hq
        · exact .head _
        · rcases List.mem_append.mp hq with hq | hq
          · exact .tail _ (.tail _ (List.mem_append_right _ (.tail _ (.tail _ (List.mem_append_left _ hq)))))
          · exact .tail _ (.tail _ (List.mem_append_left _ hq)))
  have hlh7 : ∀ q ∈ (L + 1, oc2) :: (ll, listOf (rs.map RowD.val).toArray nl) :: (tabN o5 ++ objs rs), q.1 ≠ lh := fun q hq => by
    have low := hnew (lh, listOf (([] : List RowD).map RowD.val).toArray nh5) (.tail _ (.head _))
    rcases List.mem_cons.mp hq with rfl | hq
    · exact hL1lh
    · rcases List.mem_cons.mp hq with rfl | hq
      · exact Ne.symm (Nat.ne_of_lt low.1)
      · rcases List.mem_append.mp hq with hq | hq
        · exact ht5 q hq
        · obtain ⟨r, hr, rfl⟩ := List.mem_map.mp hq
          exact Ne.symm (Nat.ne_of_lt (low.2 r hr))
  clear N6
  refine wpAny_execs_cons (law_loop6 (rest := tabN o5 ++ objs rs) B5 F6 X T N7 hoc2 hlh7 (fun r hr => List.mem_append_right _ (hro2 hr)) hrs fun h8 tk8 nh8 f8 hf8 F8 N8 => ?_)
  clear F6 N7
  rw [hpush] at N8
  refine wpAny_execs_cons (law_if7 (rest := tabN o5 ++ objs rs) B5 F8 X T N8 hoc2 hlh7 (fun r hr => List.mem_append_right _ (hro2 hr)) (fun r hr => List.mem_append_right _ (hro2 (hmem r hr))) hrs htl hok hrise hzz fun h9 tk9 F9 N9 => ?_)
  clear F8 N8
  have hsrc : f8 (Str.ofString "src") = some (.str src u1) := by rw [hf8 _ (by decide)]; rfl
  have h95 : ∀ q ∈ objs rs, q.1 ≠ 95 := fun q hq => by
    obtain ⟨ps, hps⟩ := tab95 o5
    have hq' := hq
    obtain ⟨r, hr, rfl⟩ := List.mem_map.mp hq
    exact news_ne N9 (List.mem_append_right _ hq') (List.mem_append_left _ hps) list_ne_tab
  refine wpAny_execs_cons (law_ret8 (src := src) (us := u1) (f := fun z => if z = Str.ofString "long" then some (.ref ll) else f8 z) B5 (fr_map F9 (fun z => ?_)) X T C ho5 N9 h95 PL.scan.small fun h10 tk10 o10 ho10 F10 N10 => ?_)
  · by_cases e1 : z = Str.ofString "src"
    · subst e1; rw [if_neg (by decide)]; simpa using hsrc
    · simp [e1]
  obtain ⟨ps, hps⟩ := tab95 o10
  exact h _ _ ps (fun b o e => F10.keep b o (B5.stays b o e)) (N10 _ (List.mem_append_left _ hps)).1
end Mine
end
section
open PySem PySem.W PyProof.Rows
set_option maxRecDepth 100000
namespace Mine
noncomputable def nsRest (P : Params) : List DictEntry := match (ob3 P).data with | .dict es _ => es.toList.drop 1 | _ => []
noncomputable def nsObj (P : Params) (nm : Value) (k : Nat) : Obj := ⟨.type "dict", none, .dict (⟨PyData.keyHash P (Str.ofString "__name__"), .str (Str.ofString "__name__") 165, nm⟩ :: (nsRest P).take k).toArray (k + 1), #[]⟩
noncomputable def q11 : Obj := ⟨.type "tuple", none, (.seq #[] 0), #[]⟩
noncomputable def q12 : Obj := ⟨.none, none, (.fields #[]), #[]⟩
noncomputable def q13 : Obj := ⟨.type "code", none, (.fields #[.str (Str.ofString "<module>") 182, .str (Str.ofString "<module>") 183, .str (Str.ofString "/claim/cut.py") 184, .int 1 0, .int 0 0, .int 0 0, .int 0 0, .int 0 0, .ref 11, .bool false, .int 181 0, .ref 12, .none, .none, .none, .none, .int 185 0, .int 1 0, .str (Str.ofString "/claim/cut.py") 186]), #[]⟩
noncomputable def q14 : Obj := ⟨.type "frame", none, .plain, #[some (.ref 13), some (.ref 3), some (.ref 3), none, some (.str (Str.ofString "__main__") 164), none, some (.ref 0)]⟩
noncomputable def q12b : Obj := ⟨.none, none, (.fields #[.int 2 0, .int 23 0, .ref 19]), #[]⟩
noncomputable def q15 : Obj := ⟨.type "range", none, (.fields #[.int 0 190, .int 32 189, .int 1 191]), #[]⟩
noncomputable def q16 (i : Nat) : Obj := ⟨.type "range_iterator", none, (.fields #[.int (Int.ofNat i) 0, .int (Int.ofNat (32 - i)) 0, .int 1 0]), #[]⟩
noncomputable def q17 : Obj := ⟨.type "tuple", none, (.seq #[] 0), #[]⟩
noncomputable def q18 : Obj := ⟨.none, none, (.fields #[]), #[]⟩
noncomputable def q19 : Obj := ⟨.type "code", none, (.fields #[.str (Str.ofString "<genexpr>") 192, .str (Str.ofString "<genexpr>") 193, .str (Str.ofString "/claim/cut.py") 194, .int 2 0, .int 1 0, .int 0 0, .int 0 0, .int 35 0, .ref 17, .bool true, .int 181 0, .ref 18, .none, .none, .none, .none, .int 195 0, .int 2 0, .str (Str.ofString "/claim/cut.py") 196]), #[]⟩
noncomputable def q20 (P : Params) : Nat → Obj
  | 0 => ⟨.type "frame", none, (.dict #[⟨PyData.keyHash P (Str.ofString ".0"), .str (Str.ofString ".0") 197, .ref 16⟩] 1), #[]⟩
  | i + 1 => ⟨.type "frame", none, (.dict #[⟨PyData.keyHash P (Str.ofString ".0"), .str (Str.ofString ".0") 197, .ref 16⟩, ⟨PyData.keyHash P (Str.ofString "i"), .str (Str.ofString "i") 201, .int (Int.ofNat i) (200 + 4 * i)⟩] 2), #[]⟩
noncomputable def q21 : Obj := ⟨.type "generator", none, (.fields #[.int 0 0, .str (Str.ofString "<genexpr>") 198, .str (Str.ofString "<genexpr>") 199]), #[]⟩
noncomputable abbrev nm0 : Value := .str (Str.ofString "cpy313.tomllib._parser") 187
noncomputable abbrev theEnv : Env := { scope := PR.main.scope, locals := mainNs, globals := mainNs, cells := [], code := .ref 13, frame := some 14 }
noncomputable abbrev bodyC : Code := .body PR.main.body theEnv
noncomputable def posA : Pos := ⟨1, 0, 1, 8⟩
noncomputable def bootL (P : Params) (m : Obj) (l : List Obj) : List Obj := boot_o_0 P :: boot_o_1 P :: boot_o_2 P :: m :: boot_o_4 P :: boot_o_5 P :: boot_o_6 P :: boot_o_7 P :: boot_o_8 P :: boot_o_9 P :: boot_o_10 P :: l
noncomputable def St (P : Params) (m : Obj) (l : List Obj) (g : Array GenState) (k : Nat) (os : OsState) : Shared := ⟨⟨⟨bootL P m l⟩, {}⟩, g, {}, k, os⟩
noncomputable abbrev annV : Option Value := some (.ref 6)
noncomputable def fresh0 (w : World) : Obj := setObj #[] 0 (.fresh 0 0 (!w.params.followText "set-order"))
noncomputable def tA (w : World) (os : OsState) : Option (Shared × Thread) := segGo treeTable PR w 11 annV 1 86 (St w.params (nsObj w.params nm0 8) [q11, q12, q13, q14] #[] 189 os) (pieceOf (stmtAt 1) theEnv bodyC posA [topFrame default])
noncomputable def kOf (t : Option (Shared × Thread)) (i : Nat) : Result → Sem Fin := match t with
  | some (_, t) => (match t.stack[i]? with | some (.ret k ..) => k | _ => fun _ => .unsupported "")
  | none => fun _ => .unsupported ""
noncomputable def posL1 : Pos := ⟨2, 13, 2, 51⟩
noncomputable abbrev loopC (r it : Addr) : Code := .builtin "set.update.loop" ⟨[.ref r, .ref it], []⟩
noncomputable def stkA (w : World) (os : OsState) : List Frame := [
  .ret (kOf (tA w os) 0) none false [.ref 22] (.builtin "frozenset.__new__" ⟨[.type "frozenset", .ref 21], []⟩) posL1 [.ref 22, .ref 21],
  .ret (kOf (tA w os) 1) none false [] (.builtin "type.__call__" ⟨[.type "frozenset", .ref 21], []⟩) posL1 [.builtin "frozenset.__new__", .type "frozenset", .ref 21, .builtin "frozenset.__new__", .type "frozenset", .ref 21],
  .ret (kOf (tA w os) 2) none false [] bodyC posL1 [.type "frozenset", .ref 21],
  topFrame default]
/-- the generator expression of the text -/
noncomputable def genX : PySem.Expr := match stmtAt 1 with
  | .Assign _ (.BinOp (.Call _ (e :: _) _ _) _ _ _) _ => e
  | _ => default
noncomputable def genSc : Scope := match genX with
  | .GeneratorExp _ _ sc _ => sc
  | _ => { kind := .function, names := [], isGenerator := false, isCoroutine := false, more := [] }
noncomputable def genC : Code := .compStart genX 0 (.ref 16) .none { scope := genSc, locals := 20, globals := 3, cells := [], qual := ⟨#[60, 103, 101, 110, 101, 120, 112, 114, 62, 46]⟩, func := none, code := .ref 19, frame := some 20, builtins := 0 }
noncomputable def PA (os : OsState) (w : World) : Prop := tA w os = some (St w.params (nsObj w.params nm0 8) [q11, q12b, q13, q14, q15, q16 0, q17, q18, q19, q20 w.params 0, q21, fresh0 w] #[.fresh genC] 200 os, ⟨denote treeTable (loopC 22 21), loopC 22 21, posL1, stkA w os⟩)
end Mine
end
section
open PySem PySem.W PyProof.Rows
set_option maxRecDepth 100000
namespace Mine
theorem pieceA (os : OsState) : ∀ w : World, PA os w := by
  refine byRow2 "special-get-raises" ?_ ?_ <;> intro w <;> unfold PA
  · unfold stkA tA
    rw [Fast.te3277212676724774461, Fast.te11892475500146522536, Fast.te14364793385576792824]; kernel_rfl
  · unfold stkA tA
    rw [Fast.te3277212676724774461, Fast.te11892475500146522536, Fast.te14364793385576792824]; kernel_rfl
noncomputable def stT (w : World) (os : OsState) (i : Nat) (o : Obj) (g : GenState) (k : Nat) : Shared := St w.params (nsObj w.params nm0 8) [q11, q12b, q13, q14, q15, q16 i, q17, q18, q19, q20 w.params i, q21, o] #[g] k os
noncomputable def nB (w : World) : Nat := if w.params.followText "comprehension-iter-twice" = true then 46 else 56
noncomputable abbrev stkK (k1 k2 k3 : Result → Sem Fin) : List Frame := [
  .ret k1 none false [.ref 22] (.builtin "frozenset.__new__" ⟨[.type "frozenset", .ref 21], []⟩) posL1 [.ref 22, .ref 21],
  .ret k2 none false [] (.builtin "type.__call__" ⟨[.type "frozenset", .ref 21], []⟩) posL1 [.builtin "frozenset.__new__", .type "frozenset", .ref 21, .builtin "frozenset.__new__", .type "frozenset", .ref 21],
  .ret k3 none false [] bodyC posL1 [.type "frozenset", .ref 21],
  topFrame default]
noncomputable def deadK : Result → Sem Fin := fun _ => .unsupported ""
noncomputable def tB (w : World) : Option (Shared × Thread) := segGo treeTable PR (w.withFollow "comprehension-iter-twice" true) 11 annV 1 46 (stT w default 0 q11 (.fresh genC) 200) ⟨(pyNext (.ref 21)).bind fun _ => .unsupported "", loopC 22 21, posL1, stkK deadK deadK deadK⟩
noncomputable def genS (t : Option (Shared × Thread)) : GenState := match t with
  | some (s, _) => (match s.gens.toList with | g :: _ => g | _ => .finished)
  | none => .finished
noncomputable def gS (w : World) : GenState := genS (tB w)
noncomputable def PB (os : OsState) (w : World) : Prop := ∀ (k1 k2 k3 : Result → Sem Fin) (o : Obj) (K : Option Value → Sem Fin), segGo treeTable PR w 11 annV 1 (nB w) (stT w os 0 o (.fresh genC) 200) ⟨(pyNext (.ref 21)).bind K, loopC 22 21, posL1, stkK k1 k2 k3⟩ =
  some (stT w os 1 o (gS w) 203, ⟨K (some (.str ⟨#[0]⟩ 202)), loopC 22 21, posL1, stkK k1 k2 k3⟩)
theorem pieceB (os : OsState) : ∀ w : World, PB os w := by
  refine byRow2 "special-get-raises" (byRow2 "comprehension-iter-twice" ?_ ?_) (byRow2 "comprehension-iter-twice" ?_ ?_) <;> intro w <;> unfold PB <;> intro k1 k2 k3 o K <;> unfold gS tB <;> rw [Fast.te3277212676724774461, Fast.te14364793385576792824]
  · kernel_rfl
  · kernel_rfl
  · kernel_rfl
  · kernel_rfl
noncomputable def PT (i : Nat) : Prop := ∀ (w : World) (os : OsState) (k1 k2 k3 : Result → Sem Fin) (o : Obj) (K : Option Value → Sem Fin), segGo treeTable PR w 11 annV 1 45 (stT w os i o (gS w) (200 + 4 * i)) ⟨(pyNext (.ref 21)).bind K, loopC 22 21, posL1, stkK k1 k2 k3⟩ =
  some (stT w os (i + 1) o (gS w) (203 + 4 * i), ⟨K (some (.str ⟨#[i]⟩ (202 + 4 * i))), loopC 22 21, posL1, stkK k1 k2 k3⟩)
end Mine
end
section
open PySem PySem.W PyProof.Rows
set_option maxRecDepth 100000
namespace Mine
noncomputable def loopK (r it : Addr) : Option Value → Sem Fin := fun o => match o with
  | some x => (holding [x] (setAdd r x)).bind fun _ => again (loopC r it)
  | none => ret .none
theorem tree_loop : treeTable "set.update.loop" = some Builtin.«set.update.loop» := by kernel_rfl
theorem denote_loop (r it : Addr) : denote treeTable (loopC r it) = (pyNext (.ref it)).bind (loopK r it) := by
  have e : entryFor treeTable "set.update.loop" = some Builtin.«set.update.loop» := by unfold entryFor; rw [tree_loop]
  unfold denote loopC
  dsimp only
  rw [e]
  show Builtin.«set.update.loop» ⟨[.ref r, .ref it], []⟩ = _
  unfold Builtin.«set.update.loop»
  show (pyNext (.ref it)).bind _ = _
  congr 1
  funext o
  cases o <;> rfl
theorem again_step {p : Program} {w : World} {n₀ : Nat} {ann : Option Value} {s : Shared} {r it : Addr} {pos : Pos} {stk : List Frame} :
    segGo treeTable p w n₀ ann 1 1 s ⟨again (loopC r it), loopC r it, pos, stk⟩ = some (s, ⟨denote treeTable (loopC r it), loopC r it, pos, stk⟩) :=
  segGo_one (endAt_none (fun f => nofun)) (by kernel_rfl) (by cases s; rfl)
/-- one turn of the loop that fills a set -/
theorem loop_turn {w : World} {n n₀ : Nat} {ann : Option Value} {s s1 : Shared} {r it : Addr} {pos : Pos} {stk : List Frame} {x : Str} {u : Tok} {o : Obj} {L : List (Int × Value)} (hD : Deep stk) (hn : n₀ ≤ r)
    (hK : ∀ K : Option Value → Sem Fin, segGo treeTable PR w n₀ ann 1 n s ⟨(pyNext (.ref it)).bind K, loopC r it, pos, stk⟩ = some (s1, ⟨K (some (.str x u)), loopC r it, pos, stk⟩))
    (ho : s1.heap.get? r = some o) (hS : SetOf o L) (hL : ∀ e ∈ L, isExactStrKey e.2 = true) (hno : ∀ e ∈ L, e.2.isStr x = false) (hz : L.length < 1000) :
    ∃ o', SetOf o' ((PyData.keyHash w.params x, .str x u) :: L) ∧ ∃ k, k ≤ n + 40 ∧ segGo treeTable PR w n₀ ann 1 k s ⟨denote treeTable (loopC r it), loopC r it, pos, stk⟩ =
      some ({ s1 with heap := put s1.heap r o', toks := s1.toks + 1 }, ⟨denote treeTable (loopC r it), loopC r it, pos, stk⟩) := by
  have run : Runs PR w n₀ ann (holding [.str x u] (setAdd r (.str x u))) s1 27 fun _ s2 => ∃ o', SetOf o' ((PyData.keyHash w.params x, .str x u) :: L) ∧ s2 = { s1 with heap := put s1.heap r o', toks := s1.toks + 1 } := by
    show Runs PR w n₀ ann ((pyHash (.str x u)).bind fun h => setAddHashed r (.str x u) h) s1 27 _
    refine runs_hash (n := 20) ?_
    exact runs_setAdd (s := { s1 with toks := s1.toks + 1 }) hn ho hS hL hno hz fun o' ho' => ⟨o', ho', rfl⟩
  obtain ⟨b, s2, ⟨o', ho', rfl⟩, k, hk, g⟩ := run
  refine ⟨o', ho', n + (k + 1), by omega, ?_⟩
  refine segGo_add (by rw [denote_loop]; exact hK (loopK r it)) ?_
  refine segGo_add (j := 1) (s' := { s1 with heap := put s1.heap r o', toks := s1.toks + 1 }) (t' := ⟨again (loopC r it), loopC r it, pos, stk⟩) ?_ again_step
  have := g [] (fun _ => again (loopC r it)) (loopC r it) pos stk hD
  rw [Sem.keep_nil] at this
  exact this
end Mine
end
section
open PySem PySem.W PyProof.Rows
set_option maxRecDepth 100000
namespace Mine
theorem turn1 : PT 1 := by unfold PT; intro w os k1 k2 k3 o K; unfold gS tB; rw [Fast.te3277212676724774461, Fast.te14364793385576792824]; kernel_rfl
theorem turn2 : PT 2 := by unfold PT; intro w os k1 k2 k3 o K; unfold gS tB; rw [Fast.te3277212676724774461, Fast.te14364793385576792824]; kernel_rfl
theorem turn3 : PT 3 := by unfold PT; intro w os k1 k2 k3 o K; unfold gS tB; rw [Fast.te3277212676724774461, Fast.te14364793385576792824]; kernel_rfl
theorem turn4 : PT 4 := by unfold PT; intro w os k1 k2 k3 o K; unfold gS tB; rw [Fast.te3277212676724774461, Fast.te14364793385576792824]; kernel_rfl
theorem turn5 : PT 5 := by unfold PT; intro w os k1 k2 k3 o K; unfold gS tB; rw [Fast.te3277212676724774461, Fast.te14364793385576792824]; kernel_rfl
theorem turn6 : PT 6 := by unfold PT; intro w os k1 k2 k3 o K; unfold gS tB; rw [Fast.te3277212676724774461, Fast.te14364793385576792824]; kernel_rfl
theorem turn7 : PT 7 := by unfold PT; intro w os k1 k2 k3 o K; unfold gS tB; rw [Fast.te3277212676724774461, Fast.te14364793385576792824]; kernel_rfl
theorem turn8 : PT 8 := by unfold PT; intro w os k1 k2 k3 o K; unfold gS tB; rw [Fast.te3277212676724774461, Fast.te14364793385576792824]; kernel_rfl
theorem turn9 : PT 9 := by unfold PT; intro w os k1 k2 k3 o K; unfold gS tB; rw [Fast.te3277212676724774461, Fast.te14364793385576792824]; kernel_rfl
theorem turn10 : PT 10 := by unfold PT; intro w os k1 k2 k3 o K; unfold gS tB; rw [Fast.te3277212676724774461, Fast.te14364793385576792824]; kernel_rfl
theorem turn11 : PT 11 := by unfold PT; intro w os k1 k2 k3 o K; unfold gS tB; rw [Fast.te3277212676724774461, Fast.te14364793385576792824]; kernel_rfl
theorem turn12 : PT 12 := by unfold PT; intro w os k1 k2 k3 o K; unfold gS tB; rw [Fast.te3277212676724774461, Fast.te14364793385576792824]; kernel_rfl
theorem turn13 : PT 13 := by unfold PT; intro w os k1 k2 k3 o K; unfold gS tB; rw [Fast.te3277212676724774461, Fast.te14364793385576792824]; kernel_rfl
theorem turn14 : PT 14 := by unfold PT; intro w os k1 k2 k3 o K; unfold gS tB; rw [Fast.te3277212676724774461, Fast.te14364793385576792824]; kernel_rfl
theorem turn15 : PT 15 := by unfold PT; intro w os k1 k2 k3 o K; unfold gS tB; rw [Fast.te3277212676724774461, Fast.te14364793385576792824]; kernel_rfl
theorem turn16 : PT 16 := by unfold PT; intro w os k1 k2 k3 o K; unfold gS tB; rw [Fast.te3277212676724774461, Fast.te14364793385576792824]; kernel_rfl
theorem turn17 : PT 17 := by unfold PT; intro w os k1 k2 k3 o K; unfold gS tB; rw [Fast.te3277212676724774461, Fast.te14364793385576792824]; kernel_rfl
theorem turn18 : PT 18 := by unfold PT; intro w os k1 k2 k3 o K; unfold gS tB; rw [Fast.te3277212676724774461, Fast.te14364793385576792824]; kernel_rfl
theorem turn19 : PT 19 := by unfold PT; intro w os k1 k2 k3 o K; unfold gS tB; rw [Fast.te3277212676724774461, Fast.te14364793385576792824]; kernel_rfl
theorem turn20 : PT 20 := by unfold PT; intro w os k1 k2 k3 o K; unfold gS tB; rw [Fast.te3277212676724774461, Fast.te14364793385576792824]; kernel_rfl
theorem turn21 : PT 21 := by unfold PT; intro w os k1 k2 k3 o K; unfold gS tB; rw [Fast.te3277212676724774461, Fast.te14364793385576792824]; kernel_rfl
theorem turn22 : PT 22 := by unfold PT; intro w os k1 k2 k3 o K; unfold gS tB; rw [Fast.te3277212676724774461, Fast.te14364793385576792824]; kernel_rfl
theorem turn23 : PT 23 := by unfold PT; intro w os k1 k2 k3 o K; unfold gS tB; rw [Fast.te3277212676724774461, Fast.te14364793385576792824]; kernel_rfl
theorem turn24 : PT 24 := by unfold PT; intro w os k1 k2 k3 o K; unfold gS tB; rw [Fast.te3277212676724774461, Fast.te14364793385576792824]; kernel_rfl
theorem turn25 : PT 25 := by unfold PT; intro w os k1 k2 k3 o K; unfold gS tB; rw [Fast.te3277212676724774461, Fast.te14364793385576792824]; kernel_rfl
theorem turn26 : PT 26 := by unfold PT; intro w os k1 k2 k3 o K; unfold gS tB; rw [Fast.te3277212676724774461, Fast.te14364793385576792824]; kernel_rfl
theorem turn27 : PT 27 := by unfold PT; intro w os k1 k2 k3 o K; unfold gS tB; rw [Fast.te3277212676724774461, Fast.te14364793385576792824]; kernel_rfl
theorem turn28 : PT 28 := by unfold PT; intro w os k1 k2 k3 o K; unfold gS tB; rw [Fast.te3277212676724774461, Fast.te14364793385576792824]; kernel_rfl
theorem turn29 : PT 29 := by unfold PT; intro w os k1 k2 k3 o K; unfold gS tB; rw [Fast.te3277212676724774461, Fast.te14364793385576792824]; kernel_rfl
theorem turn30 : PT 30 := by unfold PT; intro w os k1 k2 k3 o K; unfold gS tB; rw [Fast.te3277212676724774461, Fast.te14364793385576792824]; kernel_rfl
theorem turn31 : PT 31 := by unfold PT; intro w os k1 k2 k3 o K; unfold gS tB; rw [Fast.te3277212676724774461, Fast.te14364793385576792824]; kernel_rfl
theorem allTurns : ∀ i, 1 ≤ i → i < 32 → PT i
  | 1, _, _ => turn1
  | 2, _, _ => turn2
  | 3, _, _ => turn3
  | 4, _, _ => turn4
  | 5, _, _ => turn5
  | 6, _, _ => turn6
  | 7, _, _ => turn7
  | 8, _, _ => turn8
  | 9, _, _ => turn9
  | 10, _, _ => turn10
  | 11, _, _ => turn11
  | 12, _, _ => turn12
  | 13, _, _ => turn13
  | 14, _, _ => turn14
  | 15, _, _ => turn15
  | 16, _, _ => turn16
  | 17, _, _ => turn17
  | 18, _, _ => turn18
  | 19, _, _ => turn19
  | 20, _, _ => turn20
  | 21, _, _ => turn21
  | 22, _, _ => turn22
  | 23, _, _ => turn23
  | 24, _, _ => turn24
  | 25, _, _ => turn25
  | 26, _, _ => turn26
  | 27, _, _ => turn27
  | 28, _, _ => turn28
  | 29, _, _ => turn29
  | 30, _, _ => turn30
  | 31, _, _ => turn31
  | 0, h, _ => absurd h (by decide)
  | i + 32, _, h => absurd h (by omega)
/-- the entries of the set of control signs, the newest first -/
noncomputable def ctl (P : Params) : Nat → List (Int × Value)
  | 0 => []
  | i + 1 => (PyData.keyHash P ⟨#[i]⟩, .str ⟨#[i]⟩ (202 + 4 * i)) :: ctl P i
theorem ctl_mem {P : Params} : ∀ (i : Nat) (e : Int × Value), e ∈ ctl P i → ∃ j, j < i ∧ e = (PyData.keyHash P ⟨#[j]⟩, .str ⟨#[j]⟩ (202 + 4 * j))
  | 0, e, h => nomatch h
  | i + 1, e, h => by
    rcases List.mem_cons.mp h with rfl | h
    · exact ⟨i, Nat.lt_succ_self _, rfl⟩
    · obtain ⟨j, hj, rfl⟩ := ctl_mem i e h
      exact ⟨j, Nat.lt_succ_of_lt hj, rfl⟩
theorem ctl_strs {P : Params} {i : Nat} : ∀ e ∈ ctl P i, isExactStrKey e.2 = true := fun e h => by
  obtain ⟨j, _, rfl⟩ := ctl_mem i e h; rfl
theorem ctl_no {P : Params} {i k : Nat} (hk : i ≤ k) : ∀ e ∈ ctl P i, e.2.isStr ⟨#[k]⟩ = false := fun e h => by
  obtain ⟨j, hj, rfl⟩ := ctl_mem i e h
  show ((⟨#[j]⟩ : Str) == ⟨#[k]⟩) = false
  rw [beq_eq_false_iff_ne]
  intro z
  have : j = k := by simpa using z
  omega
theorem ctl_len {P : Params} : ∀ i, (ctl P i).length = i
  | 0 => rfl
  | i + 1 => by show (ctl P i).length + 1 = i + 1; rw [ctl_len i]
theorem setOf_shape {o : Obj} {L : List (Int × Value)} (h : SetOf o L) : ∃ es n t, o = setObj es n t := let ⟨es, n, t, e, _⟩ := h; ⟨es, n, t, e⟩
theorem stT_get {w : World} {os : OsState} {i k : Nat} {o : Obj} {g : GenState} {L : List (Int × Value)} (h : SetOf o L) : (stT w os i o g k).heap.get? 22 = some o := by
  obtain ⟨es, n, t, rfl⟩ := setOf_shape h
  rfl
theorem stT_put {w : World} {os : OsState} {i k : Nat} {o o' : Obj} {g : GenState} : { stT w os i o g k with heap := put (stT w os i o g k).heap 22 o', toks := (stT w os i o g k).toks + 1 } = stT w os i o' g (k + 1) := by
  unfold stT St put Heap.update bootL
  rfl
theorem fresh0_set (w : World) : SetOf (fresh0 w) [] := ⟨#[], 0, _, rfl, rfl, .refl _⟩
noncomputable abbrev loopT (k1 k2 k3 : Result → Sem Fin) : Thread := ⟨denote treeTable (loopC 22 21), loopC 22 21, posL1, stkK k1 k2 k3⟩
theorem deepK {k1 k2 k3 : Result → Sem Fin} : Deep (stkK k1 k2 k3) := ⟨_, _, _, rfl⟩
theorem nB_le (w : World) : nB w ≤ 56 := by unfold nB; split <;> omega
theorem turns_all (w : World) (os : OsState) (k1 k2 k3 : Result → Sem Fin) : ∀ i, i < 32 → ∃ o, SetOf o (ctl w.params (i + 1)) ∧ ∃ k, k ≤ 100 * (i + 1) ∧
    segGo treeTable PR w 11 annV 1 k (stT w os 0 (fresh0 w) (.fresh genC) 200) (loopT k1 k2 k3) = some (stT w os (i + 1) o (gS w) (200 + 4 * (i + 1)), loopT k1 k2 k3)
  | 0, _ => by
    have hn := nB_le w
    obtain ⟨o', ho', k, hk, e⟩ := loop_turn (r := 22) (stk := stkK k1 k2 k3) deepK (by decide) (pieceB os w k1 k2 k3 (fresh0 w)) (stT_get (fresh0_set w)) (fresh0_set w) (fun _ h => nomatch h) (fun _ h => nomatch h) (by decide)
    exact ⟨o', ho', k, by omega, by rw [stT_put] at e; exact e⟩
  | i + 1, hi => by
    obtain ⟨o, ho, k, hk, e⟩ := turns_all w os k1 k2 k3 i (by omega)
    obtain ⟨o', ho', k', hk', e'⟩ := loop_turn (r := 22) (stk := stkK k1 k2 k3) deepK (by decide) (allTurns (i + 1) (by omega) hi w os k1 k2 k3 o) (stT_get ho) ho ctl_strs (ctl_no (Nat.le_refl _)) (by rw [ctl_len]; omega)
    refine ⟨o', ho', k + k', by omega, segGo_add e ?_⟩
    rw [stT_put, show 203 + 4 * (i + 1) + 1 = 200 + 4 * (i + 1 + 1) by omega] at e'
    exact e'
end Mine
end
section
open PySem PySem.W PyProof.Rows
set_option maxRecDepth 100000
namespace Mine
noncomputable def tup0 : Obj := ⟨.type "tuple", none, (.seq #[] 0), #[]⟩
noncomputable def stopO (a : Addr) : Obj := ⟨.type "StopIteration", none, (.fields #[.ref a, .none, .none, .none, .bool false, .none]), #[]⟩
noncomputable def si (x : Str) (u : Tok) (i : Int) : Obj := ⟨.type "str_ascii_iterator", none, (.fields #[.str x u, .int i 0]), #[]⟩
noncomputable def siE (i : Int) : Obj := ⟨.type "str_ascii_iterator", none, (.fields #[.none, .int i 0]), #[]⟩
noncomputable abbrev stkS (r it : Addr) (x : Str) (u : Tok) (pos : Pos) (live : List Value) (k1 k2 k3 : Result → Sem Fin) : List Frame := [
  .ret k1 none false [.ref r] (.builtin "frozenset.__new__" ⟨[.type "frozenset", .str x u], []⟩) pos [.ref r, .ref it],
  .ret k2 none false [] (.builtin "type.__call__" ⟨[.type "frozenset", .str x u], []⟩) pos [.builtin "frozenset.__new__", .type "frozenset", .str x u, .builtin "frozenset.__new__", .type "frozenset", .str x u],
  .ret k3 none false live bodyC pos [.type "frozenset", .str x u],
  topFrame default]
noncomputable abbrev opC (id : String) (l r : Addr) : Code := .builtin id ⟨[.ref l, .ref r], []⟩
noncomputable abbrev stkO (id : String) (l r : Addr) (pos : Pos) (k1 : Result → Sem Fin) : List Frame := [
  .ret k1 none false [.ref l, .ref r, .ref l, .ref r, .ref l, .ref r] bodyC pos [.builtin id, .ref l, .ref r], topFrame default]
noncomputable abbrev doneN : Sem Fin := .pure (.done (.ret .none))
noncomputable def dumS : Obj := setObj #[] 0 (.fresh 0 0 false)
noncomputable abbrev base0 (P : Params) (o22 : Obj) : List Obj := [q11, q12b, q13, q14, q15, q16 32, q17, q18, q19, q20 P 32, q21, o22, tup0, stopO 23, tup0, stopO 25]
noncomputable def PE : Prop := ∀ (w : World) (os : OsState) (k1 k2 k3 : Result → Sem Fin) (o : Obj) (K : Option Value → Sem Fin), segGo treeTable PR w 11 annV 1 30 (stT w os 32 o (gS w) 328) ⟨(pyNext (.ref 21)).bind K, loopC 22 21, posL1, stkK k1 k2 k3⟩ =
  some (St w.params (nsObj w.params nm0 8) (base0 w.params o) #[.finished] 328 os, ⟨K none, loopC 22 21, posL1, stkK k1 k2 k3⟩)
theorem pieceE : PE := by unfold PE; intro w os k1 k2 k3 o K; unfold gS tB; rw [Fast.te3277212676724774461, Fast.te14364793385576792824]; kernel_rfl

noncomputable def posL2 : Pos := ⟨2, 54, 2, 73⟩
noncomputable def posO1 : Pos := ⟨2, 13, 2, 73⟩
noncomputable def posL3 : Pos := ⟨3, 39, 3, 54⟩
noncomputable def posO3 : Pos := ⟨3, 26, 3, 54⟩
noncomputable def posL6 : Pos := ⟨6, 10, 6, 26⟩
noncomputable def posL7 : Pos := ⟨7, 32, 7, 47⟩
noncomputable def posO7 : Pos := ⟨7, 22, 7, 47⟩
noncomputable def tC (w : World) (os : OsState) : Option (Shared × Thread) := segGo treeTable PR w 11 annV 1 38 (St w.params (nsObj w.params nm0 8) (base0 w.params dumS) #[.finished] 328 os) ⟨doneN, loopC 22 21, posL1, stkA w os⟩
noncomputable def PC (os : OsState) (w : World) : Prop := ∀ (e22 : Array (Int × Value)) (n22 : Nat) (t22 : SetTable), segGo treeTable PR w 11 annV 1 38 (St w.params (nsObj w.params nm0 8) (base0 w.params (setObj e22 n22 t22)) #[.finished] 328 os) ⟨doneN, loopC 22 21, posL1, stkA w os⟩ = some (St w.params (nsObj w.params nm0 8) (base0 w.params (setObj e22 n22 t22) ++ [fresh0 w, si ⟨#[127]⟩ 329 0]) #[.finished] 330 os, ⟨denote treeTable (loopC 27 28), loopC 27 28, posL2, stkS 27 28 ⟨#[127]⟩ 329 posL2 [.ref 22] (kOf (tC w os) 0) (kOf (tC w os) 1) (kOf (tC w os) 2)⟩)
theorem pieceC (os : OsState) : ∀ w : World, PC os w := by
  refine byRow2 "special-get-raises" ?_ ?_ <;> intro w <;> unfold PC
  · intro e22 n22 t22; unfold tC stkA tA; rw [Fast.te3277212676724774461, Fast.te11892475500146522536, Fast.te14364793385576792824]; kernel_rfl
  · intro e22 n22 t22; unfold tC stkA tA; rw [Fast.te3277212676724774461, Fast.te11892475500146522536, Fast.te14364793385576792824]; kernel_rfl
noncomputable def PDT0 (os : OsState) (w : World) : Prop := ∀ (e22 : Array (Int × Value)) (n22 : Nat) (t22 : SetTable) (o : Obj) (k1 k2 k3 : Result → Sem Fin) (K : Option Value → Sem Fin), segGo treeTable PR w 11 annV 1 10 (St w.params (nsObj w.params nm0 8) (base0 w.params (setObj e22 n22 t22) ++ [o, si ⟨#[127]⟩ 329 0]) #[.finished] 330 os) ⟨(pyNext (.ref 28)).bind K, loopC 27 28, posL2, stkS 27 28 ⟨#[127]⟩ 329 posL2 [.ref 22] k1 k2 k3⟩ = some (St w.params (nsObj w.params nm0 8) (base0 w.params (setObj e22 n22 t22) ++ [o, si ⟨#[127]⟩ 329 1]) #[.finished] 331 os, ⟨K (some (.str ⟨#[127]⟩ 330)), loopC 27 28, posL2, stkS 27 28 ⟨#[127]⟩ 329 posL2 [.ref 22] k1 k2 k3⟩)
theorem pieceDT0 (os : OsState) (w : World) : PDT0 os w := by
  unfold PDT0; intro e22 n22 t22 o k1 k2 k3 K; rw [Fast.te3277212676724774461, Fast.te14364793385576792824]; kernel_rfl
noncomputable def PDE (os : OsState) (w : World) : Prop := ∀ (e22 : Array (Int × Value)) (n22 : Nat) (t22 : SetTable) (o : Obj) (k1 k2 k3 : Result → Sem Fin) (K : Option Value → Sem Fin), segGo treeTable PR w 11 annV 1 15 (St w.params (nsObj w.params nm0 8) (base0 w.params (setObj e22 n22 t22) ++ [o, si ⟨#[127]⟩ 329 1]) #[.finished] 332 os) ⟨(pyNext (.ref 28)).bind K, loopC 27 28, posL2, stkS 27 28 ⟨#[127]⟩ 329 posL2 [.ref 22] k1 k2 k3⟩ = some (St w.params (nsObj w.params nm0 8) (base0 w.params (setObj e22 n22 t22) ++ [o, siE 1, tup0, stopO 29]) #[.finished] 332 os, ⟨K none, loopC 27 28, posL2, stkS 27 28 ⟨#[127]⟩ 329 posL2 [.ref 22] k1 k2 k3⟩)
theorem pieceDE (os : OsState) (w : World) : PDE os w := by
  unfold PDE; intro e22 n22 t22 o k1 k2 k3 K; rw [Fast.te3277212676724774461, Fast.te14364793385576792824]; kernel_rfl
noncomputable def tF (w : World) (os : OsState) : Option (Shared × Thread) := segGo treeTable PR w 11 annV 1 18 (St w.params (nsObj w.params nm0 8) (base0 w.params dumS ++ [dumS, siE 1, tup0, stopO 29]) #[.finished] 332 os) ⟨doneN, loopC 27 28, posL2, stkS 27 28 ⟨#[127]⟩ 329 posL2 [.ref 22] (kOf (tC w os) 0) (kOf (tC w os) 1) (kOf (tC w os) 2)⟩
noncomputable def PF (os : OsState) (w : World) : Prop := ∀ (e22 : Array (Int × Value)) (n22 : Nat) (t22 : SetTable) (e27 : Array (Int × Value)) (n27 : Nat) (t27 : SetTable), segGo treeTable PR w 11 annV 1 18 (St w.params (nsObj w.params nm0 8) (base0 w.params (setObj e22 n22 t22) ++ [(setObj e27 n27 t27), siE 1, tup0, stopO 29]) #[.finished] 332 os) ⟨doneN, loopC 27 28, posL2, stkS 27 28 ⟨#[127]⟩ 329 posL2 [.ref 22] (kOf (tC w os) 0) (kOf (tC w os) 1) (kOf (tC w os) 2)⟩ = some (St w.params (nsObj w.params nm0 8) (base0 w.params (setObj e22 n22 t22) ++ [(setObj e27 n27 t27), siE 1, tup0, stopO 29]) #[.finished] 332 os, ⟨denote treeTable (opC "frozenset.__or__" 22 27), opC "frozenset.__or__" 22 27, posO1, stkO "frozenset.__or__" 22 27 posO1 (kOf (tF w os) 0)⟩)
theorem pieceF (os : OsState) : ∀ w : World, PF os w := by
  refine byRow2 "special-get-raises" ?_ ?_ <;> intro w <;> unfold PF
  · intro e22 n22 t22 e27 n27 t27; unfold tF tC stkA tA; rw [Fast.te3277212676724774461, Fast.te11892475500146522536, Fast.te14364793385576792824]; kernel_rfl
  · intro e22 n22 t22 e27 n27 t27; unfold tF tC stkA tA; rw [Fast.te3277212676724774461, Fast.te11892475500146522536, Fast.te14364793385576792824]; kernel_rfl
noncomputable def PG (os : OsState) (w : World) : Prop := ∀ (e22 : Array (Int × Value)) (n22 : Nat) (t22 : SetTable) (e27 : Array (Int × Value)) (n27 : Nat) (t27 : SetTable) (e31 : Array (Int × Value)) (n31 : Nat) (t31 : SetTable), segRun treeTable PR w 11 annV 1 10 (St w.params (nsObj w.params nm0 8) (base0 w.params (setObj e22 n22 t22) ++ [(setObj e27 n27 t27), siE 1, tup0, stopO 29] ++ [(setObj e31 n31 t31)]) #[.finished] 332 os) ⟨.pure (.done (.ret (.ref 31))), opC "frozenset.__or__" 22 27, posO1, stkO "frozenset.__or__" 22 27 posO1 (kOf (tF w os) 0)⟩ = some (.next, St w.params (nsObj w.params nm0 9) (base0 w.params (setObj e22 n22 t22) ++ [(setObj e27 n27 t27), siE 1, tup0, stopO 29] ++ [(setObj e31 n31 t31)]) #[.finished] 333 os, bodyC, ⟨2, 0, 2, 10⟩)
theorem pieceG (os : OsState) : ∀ w : World, PG os w := by
  refine byRow2 "special-get-raises" ?_ ?_ <;> intro w <;> unfold PG
  · intro e22 n22 t22 e27 n27 t27 e31 n31 t31; unfold tF tC stkA tA; rw [Fast.te14374325043358763698, Fast.te3277212676724774461, Fast.te14364793385576792824]; kernel_rfl
  · intro e22 n22 t22 e27 n27 t27 e31 n31 t31; unfold tF tC stkA tA; rw [Fast.te14374325043358763698, Fast.te3277212676724774461, Fast.te14364793385576792824]; kernel_rfl
noncomputable def tA2 (w : World) (os : OsState) : Option (Shared × Thread) := segGo treeTable PR w 11 annV 1 21 (St w.params (nsObj w.params nm0 9) (base0 w.params dumS ++ [dumS, siE 1, tup0, stopO 29] ++ [dumS]) #[.finished] 333 os) (pieceOf (stmtAt 2) theEnv bodyC ⟨2, 0, 2, 10⟩ [topFrame default])
noncomputable def PA2 (os : OsState) (w : World) : Prop := ∀ (e22 : Array (Int × Value)) (n22 : Nat) (t22 : SetTable) (e27 : Array (Int × Value)) (n27 : Nat) (t27 : SetTable) (e31 : Array (Int × Value)) (n31 : Nat) (t31 : SetTable), segGo treeTable PR w 11 annV 1 21 (St w.params (nsObj w.params nm0 9) (base0 w.params (setObj e22 n22 t22) ++ [(setObj e27 n27 t27), siE 1, tup0, stopO 29] ++ [(setObj e31 n31 t31)]) #[.finished] 333 os) (pieceOf (stmtAt 2) theEnv bodyC ⟨2, 0, 2, 10⟩ [topFrame default]) = some (St w.params (nsObj w.params nm0 9) (base0 w.params (setObj e22 n22 t22) ++ [(setObj e27 n27 t27), siE 1, tup0, stopO 29] ++ [(setObj e31 n31 t31)] ++ [fresh0 w, si ⟨#[9]⟩ 333 0]) #[.finished] 334 os, ⟨denote treeTable (loopC 32 33), loopC 32 33, posL3, stkS 32 33 ⟨#[9]⟩ 333 posL3 [.ref 31] (kOf (tA2 w os) 0) (kOf (tA2 w os) 1) (kOf (tA2 w os) 2)⟩)
theorem pieceA2 (os : OsState) : ∀ w : World, PA2 os w := by
  refine byRow2 "special-get-raises" ?_ ?_ <;> intro w <;> unfold PA2
  · intro e22 n22 t22 e27 n27 t27 e31 n31 t31; unfold tA2; rw [Fast.te3277212676724774461, Fast.te11892475500146522536, Fast.te14364793385576792824]; kernel_rfl
  · intro e22 n22 t22 e27 n27 t27 e31 n31 t31; unfold tA2; rw [Fast.te3277212676724774461, Fast.te11892475500146522536, Fast.te14364793385576792824]; kernel_rfl
noncomputable def PHT0 (os : OsState) (w : World) : Prop := ∀ (e22 : Array (Int × Value)) (n22 : Nat) (t22 : SetTable) (e27 : Array (Int × Value)) (n27 : Nat) (t27 : SetTable) (e31 : Array (Int × Value)) (n31 : Nat) (t31 : SetTable) (o : Obj) (k1 k2 k3 : Result → Sem Fin) (K : Option Value → Sem Fin), segGo treeTable PR w 11 annV 1 10 (St w.params (nsObj w.params nm0 9) (base0 w.params (setObj e22 n22 t22) ++ [(setObj e27 n27 t27), siE 1, tup0, stopO 29] ++ [(setObj e31 n31 t31)] ++ [o, si ⟨#[9]⟩ 333 0]) #[.finished] 334 os) ⟨(pyNext (.ref 33)).bind K, loopC 32 33, posL3, stkS 32 33 ⟨#[9]⟩ 333 posL3 [.ref 31] k1 k2 k3⟩ = some (St w.params (nsObj w.params nm0 9) (base0 w.params (setObj e22 n22 t22) ++ [(setObj e27 n27 t27), siE 1, tup0, stopO 29] ++ [(setObj e31 n31 t31)] ++ [o, si ⟨#[9]⟩ 333 1]) #[.finished] 335 os, ⟨K (some (.str ⟨#[9]⟩ 334)), loopC 32 33, posL3, stkS 32 33 ⟨#[9]⟩ 333 posL3 [.ref 31] k1 k2 k3⟩)
theorem pieceHT0 (os : OsState) (w : World) : PHT0 os w := by
  unfold PHT0; intro e22 n22 t22 e27 n27 t27 e31 n31 t31 o k1 k2 k3 K; rw [Fast.te3277212676724774461, Fast.te14364793385576792824]; kernel_rfl
noncomputable def PHE (os : OsState) (w : World) : Prop := ∀ (e22 : Array (Int × Value)) (n22 : Nat) (t22 : SetTable) (e27 : Array (Int × Value)) (n27 : Nat) (t27 : SetTable) (e31 : Array (Int × Value)) (n31 : Nat) (t31 : SetTable) (o : Obj) (k1 k2 k3 : Result → Sem Fin) (K : Option Value → Sem Fin), segGo treeTable PR w 11 annV 1 15 (St w.params (nsObj w.params nm0 9) (base0 w.params (setObj e22 n22 t22) ++ [(setObj e27 n27 t27), siE 1, tup0, stopO 29] ++ [(setObj e31 n31 t31)] ++ [o, si ⟨#[9]⟩ 333 1]) #[.finished] 336 os) ⟨(pyNext (.ref 33)).bind K, loopC 32 33, posL3, stkS 32 33 ⟨#[9]⟩ 333 posL3 [.ref 31] k1 k2 k3⟩ = some (St w.params (nsObj w.params nm0 9) (base0 w.params (setObj e22 n22 t22) ++ [(setObj e27 n27 t27), siE 1, tup0, stopO 29] ++ [(setObj e31 n31 t31)] ++ [o, siE 1, tup0, stopO 34]) #[.finished] 336 os, ⟨K none, loopC 32 33, posL3, stkS 32 33 ⟨#[9]⟩ 333 posL3 [.ref 31] k1 k2 k3⟩)
theorem pieceHE (os : OsState) (w : World) : PHE os w := by
  unfold PHE; intro e22 n22 t22 e27 n27 t27 e31 n31 t31 o k1 k2 k3 K; rw [Fast.te3277212676724774461, Fast.te14364793385576792824]; kernel_rfl
noncomputable def tF2 (w : World) (os : OsState) : Option (Shared × Thread) := segGo treeTable PR w 11 annV 1 18 (St w.params (nsObj w.params nm0 9) (base0 w.params dumS ++ [dumS, siE 1, tup0, stopO 29] ++ [dumS] ++ [dumS, siE 1, tup0, stopO 34]) #[.finished] 336 os) ⟨doneN, loopC 32 33, posL3, stkS 32 33 ⟨#[9]⟩ 333 posL3 [.ref 31] (kOf (tA2 w os) 0) (kOf (tA2 w os) 1) (kOf (tA2 w os) 2)⟩
noncomputable def PF2 (os : OsState) (w : World) : Prop := ∀ (e22 : Array (Int × Value)) (n22 : Nat) (t22 : SetTable) (e27 : Array (Int × Value)) (n27 : Nat) (t27 : SetTable) (e31 : Array (Int × Value)) (n31 : Nat) (t31 : SetTable) (e32 : Array (Int × Value)) (n32 : Nat) (t32 : SetTable), segGo treeTable PR w 11 annV 1 18 (St w.params (nsObj w.params nm0 9) (base0 w.params (setObj e22 n22 t22) ++ [(setObj e27 n27 t27), siE 1, tup0, stopO 29] ++ [(setObj e31 n31 t31)] ++ [(setObj e32 n32 t32), siE 1, tup0, stopO 34]) #[.finished] 336 os) ⟨doneN, loopC 32 33, posL3, stkS 32 33 ⟨#[9]⟩ 333 posL3 [.ref 31] (kOf (tA2 w os) 0) (kOf (tA2 w os) 1) (kOf (tA2 w os) 2)⟩ = some (St w.params (nsObj w.params nm0 9) (base0 w.params (setObj e22 n22 t22) ++ [(setObj e27 n27 t27), siE 1, tup0, stopO 29] ++ [(setObj e31 n31 t31)] ++ [(setObj e32 n32 t32), siE 1, tup0, stopO 34]) #[.finished] 336 os, ⟨denote treeTable (opC "frozenset.__sub__" 31 32), opC "frozenset.__sub__" 31 32, posO3, stkO "frozenset.__sub__" 31 32 posO3 (kOf (tF2 w os) 0)⟩)
theorem pieceF2 (os : OsState) : ∀ w : World, PF2 os w := by
  refine byRow2 "special-get-raises" ?_ ?_ <;> intro w <;> unfold PF2
  · intro e22 n22 t22 e27 n27 t27 e31 n31 t31 e32 n32 t32; unfold tF2 tA2; rw [Fast.te3277212676724774461, Fast.te11892475500146522536, Fast.te14364793385576792824]; kernel_rfl
  · intro e22 n22 t22 e27 n27 t27 e31 n31 t31 e32 n32 t32; unfold tF2 tA2; rw [Fast.te3277212676724774461, Fast.te11892475500146522536, Fast.te14364793385576792824]; kernel_rfl
noncomputable def PG2 (os : OsState) (w : World) : Prop := ∀ (e22 : Array (Int × Value)) (n22 : Nat) (t22 : SetTable) (e27 : Array (Int × Value)) (n27 : Nat) (t27 : SetTable) (e31 : Array (Int × Value)) (n31 : Nat) (t31 : SetTable) (e32 : Array (Int × Value)) (n32 : Nat) (t32 : SetTable) (e36 : Array (Int × Value)) (n36 : Nat) (t36 : SetTable), segRun treeTable PR w 11 annV 1 10 (St w.params (nsObj w.params nm0 9) (base0 w.params (setObj e22 n22 t22) ++ [(setObj e27 n27 t27), siE 1, tup0, stopO 29] ++ [(setObj e31 n31 t31)] ++ [(setObj e32 n32 t32), siE 1, tup0, stopO 34] ++ [(setObj e36 n36 t36)]) #[.finished] 336 os) ⟨.pure (.done (.ret (.ref 36))), opC "frozenset.__sub__" 31 32, posO3, stkO "frozenset.__sub__" 31 32 posO3 (kOf (tF2 w os) 0)⟩ = some (.next, St w.params (nsObj w.params nm0 10) (base0 w.params (setObj e22 n22 t22) ++ [(setObj e27 n27 t27), siE 1, tup0, stopO 29] ++ [(setObj e31 n31 t31)] ++ [(setObj e32 n32 t32), siE 1, tup0, stopO 34] ++ [(setObj e36 n36 t36)]) #[.finished] 337 os, bodyC, ⟨3, 0, 3, 23⟩)
theorem pieceG2 (os : OsState) : ∀ w : World, PG2 os w := by
  refine byRow2 "special-get-raises" ?_ ?_ <;> intro w <;> unfold PG2
  · intro e22 n22 t22 e27 n27 t27 e31 n31 t31 e32 n32 t32 e36 n36 t36; unfold tF2 tA2; rw [Fast.te14374325043358763698, Fast.te3277212676724774461, Fast.te14364793385576792824]; kernel_rfl
  · intro e22 n22 t22 e27 n27 t27 e31 n31 t31 e32 n32 t32 e36 n36 t36; unfold tF2 tA2; rw [Fast.te14374325043358763698, Fast.te3277212676724774461, Fast.te14364793385576792824]; kernel_rfl
noncomputable def PS3 (os : OsState) (w : World) : Prop := ∀ (e22 : Array (Int × Value)) (n22 : Nat) (t22 : SetTable) (e27 : Array (Int × Value)) (n27 : Nat) (t27 : SetTable) (e31 : Array (Int × Value)) (n31 : Nat) (t31 : SetTable) (e32 : Array (Int × Value)) (n32 : Nat) (t32 : SetTable) (e36 : Array (Int × Value)) (n36 : Nat) (t36 : SetTable), segRun treeTable PR w 11 annV 1 11 (St w.params (nsObj w.params nm0 10) (base0 w.params (setObj e22 n22 t22) ++ [(setObj e27 n27 t27), siE 1, tup0, stopO 29] ++ [(setObj e31 n31 t31)] ++ [(setObj e32 n32 t32), siE 1, tup0, stopO 34] ++ [(setObj e36 n36 t36)]) #[.finished] 337 os) (pieceOf (stmtAt 3) theEnv bodyC ⟨3, 0, 3, 23⟩ [topFrame default]) = some (.next, St w.params (nsObj w.params nm0 11) (base0 w.params (setObj e22 n22 t22) ++ [(setObj e27 n27 t27), siE 1, tup0, stopO 29] ++ [(setObj e31 n31 t31)] ++ [(setObj e32 n32 t32), siE 1, tup0, stopO 34] ++ [(setObj e36 n36 t36)]) #[.finished] 338 os, bodyC, ⟨4, 0, 4, 25⟩)
theorem pieceS3 (os : OsState) : ∀ w : World, PS3 os w := by
  refine byRow2 "special-get-raises" ?_ ?_ <;> intro w <;> unfold PS3
  · intro e22 n22 t22 e27 n27 t27 e31 n31 t31 e32 n32 t32 e36 n36 t36; unfold stmtAt; rw [Fast.te14374325043358763698, Fast.te14364793385576792824]; kernel_rfl
  · intro e22 n22 t22 e27 n27 t27 e31 n31 t31 e32 n32 t32 e36 n36 t36; unfold stmtAt; rw [Fast.te14374325043358763698, Fast.te14364793385576792824]; kernel_rfl
noncomputable def PS4 (os : OsState) (w : World) : Prop := ∀ (e22 : Array (Int × Value)) (n22 : Nat) (t22 : SetTable) (e27 : Array (Int × Value)) (n27 : Nat) (t27 : SetTable) (e31 : Array (Int × Value)) (n31 : Nat) (t31 : SetTable) (e32 : Array (Int × Value)) (n32 : Nat) (t32 : SetTable) (e36 : Array (Int × Value)) (n36 : Nat) (t36 : SetTable), segRun treeTable PR w 11 annV 1 11 (St w.params (nsObj w.params nm0 11) (base0 w.params (setObj e22 n22 t22) ++ [(setObj e27 n27 t27), siE 1, tup0, stopO 29] ++ [(setObj e31 n31 t31)] ++ [(setObj e32 n32 t32), siE 1, tup0, stopO 34] ++ [(setObj e36 n36 t36)]) #[.finished] 338 os) (pieceOf (stmtAt 4) theEnv bodyC ⟨4, 0, 4, 25⟩ [topFrame default]) = some (.next, St w.params (nsObj w.params nm0 12) (base0 w.params (setObj e22 n22 t22) ++ [(setObj e27 n27 t27), siE 1, tup0, stopO 29] ++ [(setObj e31 n31 t31)] ++ [(setObj e32 n32 t32), siE 1, tup0, stopO 34] ++ [(setObj e36 n36 t36)]) #[.finished] 339 os, bodyC, ⟨5, 0, 5, 21⟩)
theorem pieceS4 (os : OsState) : ∀ w : World, PS4 os w := by
  refine byRow2 "special-get-raises" ?_ ?_ <;> intro w <;> unfold PS4
  · intro e22 n22 t22 e27 n27 t27 e31 n31 t31 e32 n32 t32 e36 n36 t36; unfold stmtAt; rw [Fast.te14374325043358763698, Fast.te14364793385576792824]; kernel_rfl
  · intro e22 n22 t22 e27 n27 t27 e31 n31 t31 e32 n32 t32 e36 n36 t36; unfold stmtAt; rw [Fast.te14374325043358763698, Fast.te14364793385576792824]; kernel_rfl
noncomputable def tA5 (w : World) (os : OsState) : Option (Shared × Thread) := segGo treeTable PR w 11 annV 1 19 (St w.params (nsObj w.params nm0 12) (base0 w.params dumS ++ [dumS, siE 1, tup0, stopO 29] ++ [dumS] ++ [dumS, siE 1, tup0, stopO 34] ++ [dumS]) #[.finished] 339 os) (pieceOf (stmtAt 5) theEnv bodyC ⟨5, 0, 5, 21⟩ [topFrame default])
noncomputable def PA5 (os : OsState) (w : World) : Prop := ∀ (e22 : Array (Int × Value)) (n22 : Nat) (t22 : SetTable) (e27 : Array (Int × Value)) (n27 : Nat) (t27 : SetTable) (e31 : Array (Int × Value)) (n31 : Nat) (t31 : SetTable) (e32 : Array (Int × Value)) (n32 : Nat) (t32 : SetTable) (e36 : Array (Int × Value)) (n36 : Nat) (t36 : SetTable), segGo treeTable PR w 11 annV 1 19 (St w.params (nsObj w.params nm0 12) (base0 w.params (setObj e22 n22 t22) ++ [(setObj e27 n27 t27), siE 1, tup0, stopO 29] ++ [(setObj e31 n31 t31)] ++ [(setObj e32 n32 t32), siE 1, tup0, stopO 34] ++ [(setObj e36 n36 t36)]) #[.finished] 339 os) (pieceOf (stmtAt 5) theEnv bodyC ⟨5, 0, 5, 21⟩ [topFrame default]) = some (St w.params (nsObj w.params nm0 12) (base0 w.params (setObj e22 n22 t22) ++ [(setObj e27 n27 t27), siE 1, tup0, stopO 29] ++ [(setObj e31 n31 t31)] ++ [(setObj e32 n32 t32), siE 1, tup0, stopO 34] ++ [(setObj e36 n36 t36)] ++ [fresh0 w, si ⟨#[32, 9]⟩ 339 0]) #[.finished] 340 os, ⟨denote treeTable (loopC 37 38), loopC 37 38, posL6, stkS 37 38 ⟨#[32, 9]⟩ 339 posL6 [] (kOf (tA5 w os) 0) (kOf (tA5 w os) 1) (kOf (tA5 w os) 2)⟩)
theorem pieceA5 (os : OsState) : ∀ w : World, PA5 os w := by
  refine byRow2 "special-get-raises" ?_ ?_ <;> intro w <;> unfold PA5
  · intro e22 n22 t22 e27 n27 t27 e31 n31 t31 e32 n32 t32 e36 n36 t36; unfold tA5; rw [Fast.te3277212676724774461, Fast.te11892475500146522536, Fast.te14364793385576792824]; kernel_rfl
  · intro e22 n22 t22 e27 n27 t27 e31 n31 t31 e32 n32 t32 e36 n36 t36; unfold tA5; rw [Fast.te3277212676724774461, Fast.te11892475500146522536, Fast.te14364793385576792824]; kernel_rfl
noncomputable def PIT0 (os : OsState) (w : World) : Prop := ∀ (e22 : Array (Int × Value)) (n22 : Nat) (t22 : SetTable) (e27 : Array (Int × Value)) (n27 : Nat) (t27 : SetTable) (e31 : Array (Int × Value)) (n31 : Nat) (t31 : SetTable) (e32 : Array (Int × Value)) (n32 : Nat) (t32 : SetTable) (e36 : Array (Int × Value)) (n36 : Nat) (t36 : SetTable) (o : Obj) (k1 k2 k3 : Result → Sem Fin) (K : Option Value → Sem Fin), segGo treeTable PR w 11 annV 1 10 (St w.params (nsObj w.params nm0 12) (base0 w.params (setObj e22 n22 t22) ++ [(setObj e27 n27 t27), siE 1, tup0, stopO 29] ++ [(setObj e31 n31 t31)] ++ [(setObj e32 n32 t32), siE 1, tup0, stopO 34] ++ [(setObj e36 n36 t36)] ++ [o, si ⟨#[32, 9]⟩ 339 0]) #[.finished] 340 os) ⟨(pyNext (.ref 38)).bind K, loopC 37 38, posL6, stkS 37 38 ⟨#[32, 9]⟩ 339 posL6 [] k1 k2 k3⟩ = some (St w.params (nsObj w.params nm0 12) (base0 w.params (setObj e22 n22 t22) ++ [(setObj e27 n27 t27), siE 1, tup0, stopO 29] ++ [(setObj e31 n31 t31)] ++ [(setObj e32 n32 t32), siE 1, tup0, stopO 34] ++ [(setObj e36 n36 t36)] ++ [o, si ⟨#[32, 9]⟩ 339 1]) #[.finished] 341 os, ⟨K (some (.str ⟨#[32]⟩ 340)), loopC 37 38, posL6, stkS 37 38 ⟨#[32, 9]⟩ 339 posL6 [] k1 k2 k3⟩)
theorem pieceIT0 (os : OsState) (w : World) : PIT0 os w := by
  unfold PIT0; intro e22 n22 t22 e27 n27 t27 e31 n31 t31 e32 n32 t32 e36 n36 t36 o k1 k2 k3 K; rw [Fast.te3277212676724774461, Fast.te14364793385576792824]; kernel_rfl
noncomputable def PIT1 (os : OsState) (w : World) : Prop := ∀ (e22 : Array (Int × Value)) (n22 : Nat) (t22 : SetTable) (e27 : Array (Int × Value)) (n27 : Nat) (t27 : SetTable) (e31 : Array (Int × Value)) (n31 : Nat) (t31 : SetTable) (e32 : Array (Int × Value)) (n32 : Nat) (t32 : SetTable) (e36 : Array (Int × Value)) (n36 : Nat) (t36 : SetTable) (o : Obj) (k1 k2 k3 : Result → Sem Fin) (K : Option Value → Sem Fin), segGo treeTable PR w 11 annV 1 10 (St w.params (nsObj w.params nm0 12) (base0 w.params (setObj e22 n22 t22) ++ [(setObj e27 n27 t27), siE 1, tup0, stopO 29] ++ [(setObj e31 n31 t31)] ++ [(setObj e32 n32 t32), siE 1, tup0, stopO 34] ++ [(setObj e36 n36 t36)] ++ [o, si ⟨#[32, 9]⟩ 339 1]) #[.finished] 342 os) ⟨(pyNext (.ref 38)).bind K, loopC 37 38, posL6, stkS 37 38 ⟨#[32, 9]⟩ 339 posL6 [] k1 k2 k3⟩ = some (St w.params (nsObj w.params nm0 12) (base0 w.params (setObj e22 n22 t22) ++ [(setObj e27 n27 t27), siE 1, tup0, stopO 29] ++ [(setObj e31 n31 t31)] ++ [(setObj e32 n32 t32), siE 1, tup0, stopO 34] ++ [(setObj e36 n36 t36)] ++ [o, si ⟨#[32, 9]⟩ 339 2]) #[.finished] 343 os, ⟨K (some (.str ⟨#[9]⟩ 342)), loopC 37 38, posL6, stkS 37 38 ⟨#[32, 9]⟩ 339 posL6 [] k1 k2 k3⟩)
theorem pieceIT1 (os : OsState) (w : World) : PIT1 os w := by
  unfold PIT1; intro e22 n22 t22 e27 n27 t27 e31 n31 t31 e32 n32 t32 e36 n36 t36 o k1 k2 k3 K; rw [Fast.te3277212676724774461, Fast.te14364793385576792824]; kernel_rfl
noncomputable def PIE (os : OsState) (w : World) : Prop := ∀ (e22 : Array (Int × Value)) (n22 : Nat) (t22 : SetTable) (e27 : Array (Int × Value)) (n27 : Nat) (t27 : SetTable) (e31 : Array (Int × Value)) (n31 : Nat) (t31 : SetTable) (e32 : Array (Int × Value)) (n32 : Nat) (t32 : SetTable) (e36 : Array (Int × Value)) (n36 : Nat) (t36 : SetTable) (o : Obj) (k1 k2 k3 : Result → Sem Fin) (K : Option Value → Sem Fin), segGo treeTable PR w 11 annV 1 15 (St w.params (nsObj w.params nm0 12) (base0 w.params (setObj e22 n22 t22) ++ [(setObj e27 n27 t27), siE 1, tup0, stopO 29] ++ [(setObj e31 n31 t31)] ++ [(setObj e32 n32 t32), siE 1, tup0, stopO 34] ++ [(setObj e36 n36 t36)] ++ [o, si ⟨#[32, 9]⟩ 339 2]) #[.finished] 344 os) ⟨(pyNext (.ref 38)).bind K, loopC 37 38, posL6, stkS 37 38 ⟨#[32, 9]⟩ 339 posL6 [] k1 k2 k3⟩ = some (St w.params (nsObj w.params nm0 12) (base0 w.params (setObj e22 n22 t22) ++ [(setObj e27 n27 t27), siE 1, tup0, stopO 29] ++ [(setObj e31 n31 t31)] ++ [(setObj e32 n32 t32), siE 1, tup0, stopO 34] ++ [(setObj e36 n36 t36)] ++ [o, siE 2, tup0, stopO 39]) #[.finished] 344 os, ⟨K none, loopC 37 38, posL6, stkS 37 38 ⟨#[32, 9]⟩ 339 posL6 [] k1 k2 k3⟩)
theorem pieceIE (os : OsState) (w : World) : PIE os w := by
  unfold PIE; intro e22 n22 t22 e27 n27 t27 e31 n31 t31 e32 n32 t32 e36 n36 t36 o k1 k2 k3 K; rw [Fast.te3277212676724774461, Fast.te14364793385576792824]; kernel_rfl
noncomputable def PG5 (os : OsState) (w : World) : Prop := ∀ (e22 : Array (Int × Value)) (n22 : Nat) (t22 : SetTable) (e27 : Array (Int × Value)) (n27 : Nat) (t27 : SetTable) (e31 : Array (Int × Value)) (n31 : Nat) (t31 : SetTable) (e32 : Array (Int × Value)) (n32 : Nat) (t32 : SetTable) (e36 : Array (Int × Value)) (n36 : Nat) (t36 : SetTable) (e37 : Array (Int × Value)) (n37 : Nat) (t37 : SetTable), segRun treeTable PR w 11 annV 1 19 (St w.params (nsObj w.params nm0 12) (base0 w.params (setObj e22 n22 t22) ++ [(setObj e27 n27 t27), siE 1, tup0, stopO 29] ++ [(setObj e31 n31 t31)] ++ [(setObj e32 n32 t32), siE 1, tup0, stopO 34] ++ [(setObj e36 n36 t36)] ++ [(setObj e37 n37 t37), siE 2, tup0, stopO 39]) #[.finished] 344 os) ⟨doneN, loopC 37 38, posL6, stkS 37 38 ⟨#[32, 9]⟩ 339 posL6 [] (kOf (tA5 w os) 0) (kOf (tA5 w os) 1) (kOf (tA5 w os) 2)⟩ = some (.next, St w.params (nsObj w.params nm0 13) (base0 w.params (setObj e22 n22 t22) ++ [(setObj e27 n27 t27), siE 1, tup0, stopO 29] ++ [(setObj e31 n31 t31)] ++ [(setObj e32 n32 t32), siE 1, tup0, stopO 34] ++ [(setObj e36 n36 t36)] ++ [(setObj e37 n37 t37), siE 2, tup0, stopO 39]) #[.finished] 345 os, bodyC, ⟨6, 0, 6, 7⟩)
theorem pieceG5 (os : OsState) : ∀ w : World, PG5 os w := by
  refine byRow2 "special-get-raises" ?_ ?_ <;> intro w <;> unfold PG5
  · intro e22 n22 t22 e27 n27 t27 e31 n31 t31 e32 n32 t32 e36 n36 t36 e37 n37 t37; unfold tA5; rw [Fast.te14374325043358763698, Fast.te3277212676724774461, Fast.te14364793385576792824]; kernel_rfl
  · intro e22 n22 t22 e27 n27 t27 e31 n31 t31 e32 n32 t32 e36 n36 t36 e37 n37 t37; unfold tA5; rw [Fast.te14374325043358763698, Fast.te3277212676724774461, Fast.te14364793385576792824]; kernel_rfl
noncomputable def tA6 (w : World) (os : OsState) : Option (Shared × Thread) := segGo treeTable PR w 11 annV 1 21 (St w.params (nsObj w.params nm0 13) (base0 w.params dumS ++ [dumS, siE 1, tup0, stopO 29] ++ [dumS] ++ [dumS, siE 1, tup0, stopO 34] ++ [dumS] ++ [dumS, siE 2, tup0, stopO 39]) #[.finished] 345 os) (pieceOf (stmtAt 6) theEnv bodyC ⟨6, 0, 6, 7⟩ [topFrame default])
noncomputable def PA6 (os : OsState) (w : World) : Prop := ∀ (e22 : Array (Int × Value)) (n22 : Nat) (t22 : SetTable) (e27 : Array (Int × Value)) (n27 : Nat) (t27 : SetTable) (e31 : Array (Int × Value)) (n31 : Nat) (t31 : SetTable) (e32 : Array (Int × Value)) (n32 : Nat) (t32 : SetTable) (e36 : Array (Int × Value)) (n36 : Nat) (t36 : SetTable) (e37 : Array (Int × Value)) (n37 : Nat) (t37 : SetTable), segGo treeTable PR w 11 annV 1 21 (St w.params (nsObj w.params nm0 13) (base0 w.params (setObj e22 n22 t22) ++ [(setObj e27 n27 t27), siE 1, tup0, stopO 29] ++ [(setObj e31 n31 t31)] ++ [(setObj e32 n32 t32), siE 1, tup0, stopO 34] ++ [(setObj e36 n36 t36)] ++ [(setObj e37 n37 t37), siE 2, tup0, stopO 39]) #[.finished] 345 os) (pieceOf (stmtAt 6) theEnv bodyC ⟨6, 0, 6, 7⟩ [topFrame default]) = some (St w.params (nsObj w.params nm0 13) (base0 w.params (setObj e22 n22 t22) ++ [(setObj e27 n27 t27), siE 1, tup0, stopO 29] ++ [(setObj e31 n31 t31)] ++ [(setObj e32 n32 t32), siE 1, tup0, stopO 34] ++ [(setObj e36 n36 t36)] ++ [(setObj e37 n37 t37), siE 2, tup0, stopO 39] ++ [fresh0 w, si ⟨#[10]⟩ 345 0]) #[.finished] 346 os, ⟨denote treeTable (loopC 41 42), loopC 41 42, posL7, stkS 41 42 ⟨#[10]⟩ 345 posL7 [.ref 37] (kOf (tA6 w os) 0) (kOf (tA6 w os) 1) (kOf (tA6 w os) 2)⟩)
theorem pieceA6 (os : OsState) : ∀ w : World, PA6 os w := by
  refine byRow2 "special-get-raises" ?_ ?_ <;> intro w <;> unfold PA6
  · intro e22 n22 t22 e27 n27 t27 e31 n31 t31 e32 n32 t32 e36 n36 t36 e37 n37 t37; unfold tA6; rw [Fast.te3277212676724774461, Fast.te11892475500146522536, Fast.te14364793385576792824]; kernel_rfl
  · intro e22 n22 t22 e27 n27 t27 e31 n31 t31 e32 n32 t32 e36 n36 t36 e37 n37 t37; unfold tA6; rw [Fast.te3277212676724774461, Fast.te11892475500146522536, Fast.te14364793385576792824]; kernel_rfl
noncomputable def PJT0 (os : OsState) (w : World) : Prop := ∀ (e22 : Array (Int × Value)) (n22 : Nat) (t22 : SetTable) (e27 : Array (Int × Value)) (n27 : Nat) (t27 : SetTable) (e31 : Array (Int × Value)) (n31 : Nat) (t31 : SetTable) (e32 : Array (Int × Value)) (n32 : Nat) (t32 : SetTable) (e36 : Array (Int × Value)) (n36 : Nat) (t36 : SetTable) (e37 : Array (Int × Value)) (n37 : Nat) (t37 : SetTable) (o : Obj) (k1 k2 k3 : Result → Sem Fin) (K : Option Value → Sem Fin), segGo treeTable PR w 11 annV 1 10 (St w.params (nsObj w.params nm0 13) (base0 w.params (setObj e22 n22 t22) ++ [(setObj e27 n27 t27), siE 1, tup0, stopO 29] ++ [(setObj e31 n31 t31)] ++ [(setObj e32 n32 t32), siE 1, tup0, stopO 34] ++ [(setObj e36 n36 t36)] ++ [(setObj e37 n37 t37), siE 2, tup0, stopO 39] ++ [o, si ⟨#[10]⟩ 345 0]) #[.finished] 346 os) ⟨(pyNext (.ref 42)).bind K, loopC 41 42, posL7, stkS 41 42 ⟨#[10]⟩ 345 posL7 [.ref 37] k1 k2 k3⟩ = some (St w.params (nsObj w.params nm0 13) (base0 w.params (setObj e22 n22 t22) ++ [(setObj e27 n27 t27), siE 1, tup0, stopO 29] ++ [(setObj e31 n31 t31)] ++ [(setObj e32 n32 t32), siE 1, tup0, stopO 34] ++ [(setObj e36 n36 t36)] ++ [(setObj e37 n37 t37), siE 2, tup0, stopO 39] ++ [o, si ⟨#[10]⟩ 345 1]) #[.finished] 347 os, ⟨K (some (.str ⟨#[10]⟩ 346)), loopC 41 42, posL7, stkS 41 42 ⟨#[10]⟩ 345 posL7 [.ref 37] k1 k2 k3⟩)
theorem pieceJT0 (os : OsState) (w : World) : PJT0 os w := by
  unfold PJT0; intro e22 n22 t22 e27 n27 t27 e31 n31 t31 e32 n32 t32 e36 n36 t36 e37 n37 t37 o k1 k2 k3 K; rw [Fast.te3277212676724774461, Fast.te14364793385576792824]; kernel_rfl
noncomputable def PJE (os : OsState) (w : World) : Prop := ∀ (e22 : Array (Int × Value)) (n22 : Nat) (t22 : SetTable) (e27 : Array (Int × Value)) (n27 : Nat) (t27 : SetTable) (e31 : Array (Int × Value)) (n31 : Nat) (t31 : SetTable) (e32 : Array (Int × Value)) (n32 : Nat) (t32 : SetTable) (e36 : Array (Int × Value)) (n36 : Nat) (t36 : SetTable) (e37 : Array (Int × Value)) (n37 : Nat) (t37 : SetTable) (o : Obj) (k1 k2 k3 : Result → Sem Fin) (K : Option Value → Sem Fin), segGo treeTable PR w 11 annV 1 15 (St w.params (nsObj w.params nm0 13) (base0 w.params (setObj e22 n22 t22) ++ [(setObj e27 n27 t27), siE 1, tup0, stopO 29] ++ [(setObj e31 n31 t31)] ++ [(setObj e32 n32 t32), siE 1, tup0, stopO 34] ++ [(setObj e36 n36 t36)] ++ [(setObj e37 n37 t37), siE 2, tup0, stopO 39] ++ [o, si ⟨#[10]⟩ 345 1]) #[.finished] 348 os) ⟨(pyNext (.ref 42)).bind K, loopC 41 42, posL7, stkS 41 42 ⟨#[10]⟩ 345 posL7 [.ref 37] k1 k2 k3⟩ = some (St w.params (nsObj w.params nm0 13) (base0 w.params (setObj e22 n22 t22) ++ [(setObj e27 n27 t27), siE 1, tup0, stopO 29] ++ [(setObj e31 n31 t31)] ++ [(setObj e32 n32 t32), siE 1, tup0, stopO 34] ++ [(setObj e36 n36 t36)] ++ [(setObj e37 n37 t37), siE 2, tup0, stopO 39] ++ [o, siE 1, tup0, stopO 43]) #[.finished] 348 os, ⟨K none, loopC 41 42, posL7, stkS 41 42 ⟨#[10]⟩ 345 posL7 [.ref 37] k1 k2 k3⟩)
theorem pieceJE (os : OsState) (w : World) : PJE os w := by
  unfold PJE; intro e22 n22 t22 e27 n27 t27 e31 n31 t31 e32 n32 t32 e36 n36 t36 e37 n37 t37 o k1 k2 k3 K; rw [Fast.te3277212676724774461, Fast.te14364793385576792824]; kernel_rfl
noncomputable def tF6 (w : World) (os : OsState) : Option (Shared × Thread) := segGo treeTable PR w 11 annV 1 18 (St w.params (nsObj w.params nm0 13) (base0 w.params dumS ++ [dumS, siE 1, tup0, stopO 29] ++ [dumS] ++ [dumS, siE 1, tup0, stopO 34] ++ [dumS] ++ [dumS, siE 2, tup0, stopO 39] ++ [dumS, siE 1, tup0, stopO 43]) #[.finished] 348 os) ⟨doneN, loopC 41 42, posL7, stkS 41 42 ⟨#[10]⟩ 345 posL7 [.ref 37] (kOf (tA6 w os) 0) (kOf (tA6 w os) 1) (kOf (tA6 w os) 2)⟩
noncomputable def PF6 (os : OsState) (w : World) : Prop := ∀ (e22 : Array (Int × Value)) (n22 : Nat) (t22 : SetTable) (e27 : Array (Int × Value)) (n27 : Nat) (t27 : SetTable) (e31 : Array (Int × Value)) (n31 : Nat) (t31 : SetTable) (e32 : Array (Int × Value)) (n32 : Nat) (t32 : SetTable) (e36 : Array (Int × Value)) (n36 : Nat) (t36 : SetTable) (e37 : Array (Int × Value)) (n37 : Nat) (t37 : SetTable) (e41 : Array (Int × Value)) (n41 : Nat) (t41 : SetTable), segGo treeTable PR w 11 annV 1 18 (St w.params (nsObj w.params nm0 13) (base0 w.params (setObj e22 n22 t22) ++ [(setObj e27 n27 t27), siE 1, tup0, stopO 29] ++ [(setObj e31 n31 t31)] ++ [(setObj e32 n32 t32), siE 1, tup0, stopO 34] ++ [(setObj e36 n36 t36)] ++ [(setObj e37 n37 t37), siE 2, tup0, stopO 39] ++ [(setObj e41 n41 t41), siE 1, tup0, stopO 43]) #[.finished] 348 os) ⟨doneN, loopC 41 42, posL7, stkS 41 42 ⟨#[10]⟩ 345 posL7 [.ref 37] (kOf (tA6 w os) 0) (kOf (tA6 w os) 1) (kOf (tA6 w os) 2)⟩ = some (St w.params (nsObj w.params nm0 13) (base0 w.params (setObj e22 n22 t22) ++ [(setObj e27 n27 t27), siE 1, tup0, stopO 29] ++ [(setObj e31 n31 t31)] ++ [(setObj e32 n32 t32), siE 1, tup0, stopO 34] ++ [(setObj e36 n36 t36)] ++ [(setObj e37 n37 t37), siE 2, tup0, stopO 39] ++ [(setObj e41 n41 t41), siE 1, tup0, stopO 43]) #[.finished] 348 os, ⟨denote treeTable (opC "frozenset.__or__" 37 41), opC "frozenset.__or__" 37 41, posO7, stkO "frozenset.__or__" 37 41 posO7 (kOf (tF6 w os) 0)⟩)
theorem pieceF6 (os : OsState) : ∀ w : World, PF6 os w := by
  refine byRow2 "special-get-raises" ?_ ?_ <;> intro w <;> unfold PF6
  · intro e22 n22 t22 e27 n27 t27 e31 n31 t31 e32 n32 t32 e36 n36 t36 e37 n37 t37 e41 n41 t41; unfold tF6 tA6; rw [Fast.te3277212676724774461, Fast.te11892475500146522536, Fast.te14364793385576792824]; kernel_rfl
  · intro e22 n22 t22 e27 n27 t27 e31 n31 t31 e32 n32 t32 e36 n36 t36 e37 n37 t37 e41 n41 t41; unfold tF6 tA6; rw [Fast.te3277212676724774461, Fast.te11892475500146522536, Fast.te14364793385576792824]; kernel_rfl
noncomputable def PG6 (os : OsState) (w : World) : Prop := ∀ (e22 : Array (Int × Value)) (n22 : Nat) (t22 : SetTable) (e27 : Array (Int × Value)) (n27 : Nat) (t27 : SetTable) (e31 : Array (Int × Value)) (n31 : Nat) (t31 : SetTable) (e32 : Array (Int × Value)) (n32 : Nat) (t32 : SetTable) (e36 : Array (Int × Value)) (n36 : Nat) (t36 : SetTable) (e37 : Array (Int × Value)) (n37 : Nat) (t37 : SetTable) (e41 : Array (Int × Value)) (n41 : Nat) (t41 : SetTable) (e45 : Array (Int × Value)) (n45 : Nat) (t45 : SetTable), segRun treeTable PR w 11 annV 1 10 (St w.params (nsObj w.params nm0 13) (base0 w.params (setObj e22 n22 t22) ++ [(setObj e27 n27 t27), siE 1, tup0, stopO 29] ++ [(setObj e31 n31 t31)] ++ [(setObj e32 n32 t32), siE 1, tup0, stopO 34] ++ [(setObj e36 n36 t36)] ++ [(setObj e37 n37 t37), siE 2, tup0, stopO 39] ++ [(setObj e41 n41 t41), siE 1, tup0, stopO 43] ++ [(setObj e45 n45 t45)]) #[.finished] 348 os) ⟨.pure (.done (.ret (.ref 45))), opC "frozenset.__or__" 37 41, posO7, stkO "frozenset.__or__" 37 41 posO7 (kOf (tF6 w os) 0)⟩ = some (.next, St w.params (nsObj w.params nm0 14) (base0 w.params (setObj e22 n22 t22) ++ [(setObj e27 n27 t27), siE 1, tup0, stopO 29] ++ [(setObj e31 n31 t31)] ++ [(setObj e32 n32 t32), siE 1, tup0, stopO 34] ++ [(setObj e36 n36 t36)] ++ [(setObj e37 n37 t37), siE 2, tup0, stopO 39] ++ [(setObj e41 n41 t41), siE 1, tup0, stopO 43] ++ [(setObj e45 n45 t45)]) #[.finished] 349 os, bodyC, ⟨7, 0, 7, 19⟩)
theorem pieceG6 (os : OsState) : ∀ w : World, PG6 os w := by
  refine byRow2 "special-get-raises" ?_ ?_ <;> intro w <;> unfold PG6
  · intro e22 n22 t22 e27 n27 t27 e31 n31 t31 e32 n32 t32 e36 n36 t36 e37 n37 t37 e41 n41 t41 e45 n45 t45; unfold tF6 tA6; rw [Fast.te14374325043358763698, Fast.te3277212676724774461, Fast.te14364793385576792824]; kernel_rfl
  · intro e22 n22 t22 e27 n27 t27 e31 n31 t31 e32 n32 t32 e36 n36 t36 e37 n37 t37 e41 n41 t41 e45 n45 t45; unfold tF6 tA6; rw [Fast.te14374325043358763698, Fast.te3277212676724774461, Fast.te14364793385576792824]; kernel_rfl
end Mine
end
section
open PySem PySem.W PyProof.Rows
set_option maxRecDepth 100000
namespace Mine
noncomputable def PPre (os : OsState) (w : World) : Prop := topGo treeTable PR w 11 annV 12 ⟨boot_heap w.params, #[], boot_drawn, boot_toks, os⟩ (topStub PR) = some (St w.params (boot_o_3 w.params) [q11, q12, q13, q14] #[] 187 os, ⟨denote treeTable bodyC, bodyC, default, [topFrame default]⟩)
theorem piecePre (os : OsState) (w : World) : PPre os w := by
  unfold PPre
  rw [Fast.te15667345088766844465, Fast.te11892475500146522536, Fast.te14364793385576792824]; kernel_rfl
noncomputable def PBlk (os : OsState) (w : World) : Prop := segRun treeTable PR w 11 annV 1 1 (St w.params (boot_o_3 w.params) [q11, q12, q13, q14] #[] 187 os) (blockOf PR.main.body theEnv bodyC default [topFrame default]) = some (.next, St w.params (boot_o_3 w.params) [q11, q12, q13, q14] #[] 187 os, bodyC, default)
theorem pieceBlk (os : OsState) (w : World) : PBlk os w := by
  unfold PBlk
  rw [Fast.te14374325043358763698, Fast.te14364793385576792824]; kernel_rfl
noncomputable def PS0 (os : OsState) (w : World) : Prop := segRun treeTable PR w 11 annV 1 10 (St w.params (boot_o_3 w.params) [q11, q12, q13, q14] #[] 187 os) (pieceOf (stmtAt 0) theEnv bodyC default [topFrame default]) = some (.next, St w.params (nsObj w.params nm0 8) [q11, q12, q13, q14] #[] 189 os, bodyC, posA)
theorem pieceS0 (os : OsState) (w : World) : PS0 os w := by
  unfold PS0
  rw [Fast.te14374325043358763698, Fast.te14364793385576792824]; kernel_rfl
end Mine
end
section
open PySem PySem.W PyProof.Rows
set_option maxRecDepth 100000
namespace Mine
noncomputable def vq : Program := view PR [1, 2, 3, 4, 5, 6, 7, 8, 9, 10, 11, 12, 13, 15, 16, 17, 18, 19, 21, 22, 23, 24]
noncomputable def looseL : List Str := [Str.ofString "ASCII_CTRL", Str.ofString "ILLEGAL_BASIC_STR_CHARS", Str.ofString "ILLEGAL_LITERAL_STR_CHARS", Str.ofString "ILLEGAL_COMMENT_CHARS", Str.ofString "TOML_WS", Str.ofString "TOML_WS_AND_NEWLINE"]
noncomputable def Kas : List Addr := [2, 3, 46, 53, 54, 55, 56, 64, 65, 71, 72, 78, 79, 85, 86, 92, 93, 99, 100, 106, 107, 113, 114, 120, 121, 127, 128, 134, 135, 139, 140, 146, 147, 151, 152, 156, 157]
noncomputable abbrev LL (P : Params) (o22 o27 o31 o32 o36 o37 o41 o45 : Obj) : List Obj := base0 P o22 ++ [o27, siE 1, tup0, stopO 29] ++ [o31] ++ [o32, siE 1, tup0, stopO 34] ++ [o36] ++ [o37, siE 2, tup0, stopO 39] ++ [o41, siE 1, tup0, stopO 43] ++ [o45]
noncomputable def Z0 (w : World) (os : OsState) (o22 o27 o31 o32 o36 o37 o41 o45 : Obj) : Option Shared := topRun treeTable PR w 11 annV 700 (St w.params (nsObj w.params nm0 14) (LL w.params o22 o27 o31 o32 o36 o37 o41 o45) #[.finished] 349 os) (restOf (PR.main.body.drop 7) theEnv bodyC ⟨7, 0, 7, 19⟩ [topFrame default])
noncomputable abbrev rowV : OpenRow := PySem.Challenge.rw_ny0147_01.row
noncomputable def XtV (s : Shared) : Bool := xlAt vq [] s && recOk (RowW.records rowV.toRowW) s
noncomputable def PZ (os : OsState) (w : World) : Prop := ∀ (e22 : Array (Int × Value)) (n22 : Nat) (t22 : SetTable) (e27 : Array (Int × Value)) (n27 : Nat) (t27 : SetTable) (e31 : Array (Int × Value)) (n31 : Nat) (t31 : SetTable) (e32 : Array (Int × Value)) (n32 : Nat) (t32 : SetTable) (e36 : Array (Int × Value)) (n36 : Nat) (t36 : SetTable) (e37 : Array (Int × Value)) (n37 : Nat) (t37 : SetTable) (e41 : Array (Int × Value)) (n41 : Nat) (t41 : SetTable) (e45 : Array (Int × Value)) (n45 : Nat) (t45 : SetTable),
  (Z0 w os (setObj e22 n22 t22) (setObj e27 n27 t27) (setObj e31 n31 t31) (setObj e32 n32 t32) (setObj e36 n36 t36) (setObj e37 n37 t37) (setObj e41 n41 t41) (setObj e45 n45 t45)).map (fun s => ((s.heap.objs.size, s.toks, s.heap.get? 36, s.heap.get? 45, Kas.map s.heap.get?), s.heap.get? 95, (staticsOk (importedModules PR.main.body) (boot_heap w.params) s.heap && namesBound PR s.heap && gensDone s && laidKept (boot_heap w.params) s.heap), openSeen vq looseL (importedModules PR.main.body) XtV false s)) =
    some ((158, 507, some (setObj e36 n36 t36), some (setObj e45 n45 t45), (K w.params).map (fun q => some q.2)), some (PySem.W.tabObj #[]), true, openGood vq looseL)
theorem pieceZ (os : OsState) (w : World) : PZ os w := by
  unfold PZ
  intros
  unfold Z0
  rw [Fast.te14364793385576792824]
  rw [Fast.te14082659384304107361, Fast.te5923862056798008813, Fast.te4187177175401517315]; kernel_rfl
end Mine
end
section
open PySem PySem.W PyProof.Rows
set_option maxRecDepth 100000
namespace Mine
theorem seg_end {w : World} {b n N : Nat} {s s' : Shared} {t t' : Thread} {r : Flow × Shared × Code × Pos} (h : segGo treeTable PR w 11 annV b n s t = some (s', t')) (k : ∃ m, m ≤ N ∧ segRun treeTable PR w 11 annV b m s' t' = some r) : ∃ m, m ≤ n + N ∧ segRun treeTable PR w 11 annV b m s t = some r :=
  let ⟨m, hm, e⟩ := k; ⟨n + m, by omega, seg_go h e⟩
theorem tree_or : treeTable "frozenset.__or__" = some Builtin.«frozenset.__or__» := by kernel_rfl
theorem tree_sub : treeTable "frozenset.__sub__" = some Builtin.«frozenset.__sub__» := by kernel_rfl
theorem denote_or (l r : Addr) : denote treeTable (opC "frozenset.__or__" l r) = Builtin.«frozenset.__or__» ⟨[.ref l, .ref r], []⟩ := by
  have e : entryFor treeTable "frozenset.__or__" = some Builtin.«frozenset.__or__» := by unfold entryFor; rw [tree_or]
  unfold denote opC
  dsimp only
  rw [e]
theorem denote_sub (l r : Addr) : denote treeTable (opC "frozenset.__sub__" l r) = Builtin.«frozenset.__sub__» ⟨[.ref l, .ref r], []⟩ := by
  have e : entryFor treeTable "frozenset.__sub__" = some Builtin.«frozenset.__sub__» := by unfold entryFor; rw [tree_sub]
  unfold denote opC
  dsimp only
  rw [e]
/-- a run of a whole tree -/
theorem runs_fin {w : World} {t : Sem Fin} {s : Shared} {n : Nat} {Q : Fin → Shared → Prop} (h : Runs PR w 11 annV t s n Q) : ∃ a s', Q a s' ∧ ∃ k, k ≤ n ∧ ∀ (c : Code) (pos : Pos) (stk : List Frame), Deep stk → segGo treeTable PR w 11 annV 1 k s ⟨t, c, pos, stk⟩ = some (s', ⟨.pure a, c, pos, stk⟩) := by
  obtain ⟨a, s', q, k, hk, g⟩ := h
  refine ⟨a, s', q, k, hk, fun c pos stk hD => ?_⟩
  have := g [] Sem.pure c pos stk hD
  rw [Sem.keep_nil, Sem.bind_pure] at this
  exact this
noncomputable def e127 (P : Params) : Int × Value := (PyData.keyHash P ⟨#[127]⟩, .str ⟨#[127]⟩ 330)
noncomputable def L31 (P : Params) : List (Int × Value) := e127 P :: ctl P 32
noncomputable def L36 (P : Params) : List (Int × Value) := e127 P :: ((ctl P 32).take 22 ++ ctl P 9)
noncomputable def L37 (P : Params) : List (Int × Value) := [(PyData.keyHash P ⟨#[9]⟩, .str ⟨#[9]⟩ 342), (PyData.keyHash P ⟨#[32]⟩, .str ⟨#[32]⟩ 340)]
noncomputable def L45 (P : Params) : List (Int × Value) := (PyData.keyHash P ⟨#[10]⟩, .str ⟨#[10]⟩ 346) :: L37 P
theorem single_of {o : Obj} {e : Int × Value} (h : SetOf o [e]) : ∃ n t, o = setObj #[e] n t ∧ t.fits 1 = true := by
  obtain ⟨es, n, t, rfl, hf, hp⟩ := h
  have := hp.eq_singleton
  have he : es = #[e] := by rw [← Array.toList_inj, this]
  subst he
  exact ⟨n, t, rfl, hf⟩
noncomputable abbrev StF (w : World) (os : OsState) (k : Nat) (l : List Obj) (toks : Nat) : Shared := St w.params (nsObj w.params nm0 k) l #[.finished] toks os
theorem stmt1 (w : World) (os : OsState) : ∃ e22 n22 t22 e27 n27 t27 e31 n31 t31, SetOf (setObj e31 n31 t31) (L31 w.params) ∧
    ∃ m, m ≤ 4000 ∧ segRun treeTable PR w 11 annV 1 m (St w.params (nsObj w.params nm0 8) [q11, q12, q13, q14] #[] 189 os) (pieceOf (stmtAt 1) theEnv bodyC posA [topFrame default]) =
      some (.next, StF w os 9 (base0 w.params (setObj e22 n22 t22) ++ [setObj e27 n27 t27, siE 1, tup0, stopO 29] ++ [setObj e31 n31 t31]) 333, bodyC, ⟨2, 0, 2, 10⟩) := by
  obtain ⟨o22, h22, k22, hk22, g22⟩ := turns_all w os (kOf (tA w os) 0) (kOf (tA w os) 1) (kOf (tA w os) 2) 31 (by decide)
  have hE := pieceE w os (kOf (tA w os) 0) (kOf (tA w os) 1) (kOf (tA w os) 2) o22 (loopK 22 21)
  rw [← denote_loop] at hE
  obtain ⟨e22, n22, t22, rfl⟩ := setOf_shape h22
  have hC := pieceC os w e22 n22 t22
  have hT := fun K => pieceDT0 os w e22 n22 t22 (fresh0 w) (kOf (tC w os) 0) (kOf (tC w os) 1) (kOf (tC w os) 2) K
  obtain ⟨o27, h27, k27, hk27, g27⟩ := loop_turn (r := 27) (L := []) ⟨_, _, _, rfl⟩ (by decide) hT rfl (fresh0_set w) (fun _ h => nomatch h) (fun _ h => nomatch h) (by decide)
  obtain ⟨n27, t27, rfl, hf27⟩ := single_of h27
  have hDE := pieceDE os w e22 n22 t22 (setObj #[(PyData.keyHash w.params ⟨#[127]⟩, .str ⟨#[127]⟩ 330)] n27 t27) (kOf (tC w os) 0) (kOf (tC w os) 1) (kOf (tC w os) 2) (loopK 27 28)
  rw [← denote_loop] at hDE
  have hF := pieceF os w e22 n22 t22 #[(PyData.keyHash w.params ⟨#[127]⟩, .str ⟨#[127]⟩ 330)] n27 t27
  have hO := runs_or (p := PR) (w := w) (n₀ := 11) (ann := annV) (l := 22) (r := 27) (M := 127) (L := ctl w.params 32) (Q := fun a s' => ∃ o31, SetOf o31 (L31 w.params) ∧ a = .done (.ret (.ref 31)) ∧ s' = StF w os 8 (base0 w.params (setObj e22 n22 t22) ++ [setObj #[(PyData.keyHash w.params ⟨#[127]⟩, .str ⟨#[127]⟩ 330)] n27 t27, siE 1, tup0, stopO 29] ++ [o31]) 332)
    (s := StF w os 8 (base0 w.params (setObj e22 n22 t22) ++ [setObj #[(PyData.keyHash w.params ⟨#[127]⟩, .str ⟨#[127]⟩ 330)] n27 t27, siE 1, tup0, stopO 29]) 332)
    (.inr ⟨rfl, ctl_len _⟩) (by show 11 ≤ 31; decide) (by decide) rfl h22 rfl hf27 ctl_strs (ctl_no (by decide)) (fun o' ho' => ⟨o', ho', rfl, rfl⟩)
  obtain ⟨a, s', ⟨o31, h31, rfl, rfl⟩, kO, hkO, gO⟩ := runs_fin hO
  obtain ⟨e31, n31, t31, rfl⟩ := setOf_shape h31
  have hG := pieceG os w e22 n22 t22 #[(PyData.keyHash w.params ⟨#[127]⟩, .str ⟨#[127]⟩ 330)] n27 t27 e31 n31 t31
  refine ⟨e22, n22, t22, #[(PyData.keyHash w.params ⟨#[127]⟩, .str ⟨#[127]⟩ 330)], n27, t27, e31, n31, t31, h31, ?_⟩
  have hA : segGo treeTable PR w 11 annV 1 86 _ _ = _ := pieceA os w
  have c1 := seg_end (N := 10) (gO (opC "frozenset.__or__" 22 27) posO1 (stkO "frozenset.__or__" 22 27 posO1 (kOf (tF w os) 0)) ⟨_, _, _, rfl⟩) ⟨10, by omega, hG⟩
  rw [← denote_or] at c1
  have c2 := seg_end hF c1
  have c3 := seg_end hDE c2
  have c4 := seg_end g27 c3
  have c5 := seg_end hC c4
  have c6 := seg_end hE c5
  have c7 := seg_end g22 c6
  obtain ⟨m, hm, e⟩ := seg_end hA c7
  exact ⟨m, by omega, e⟩
theorem L31_strs {P : Params} : ∀ e ∈ L31 P, isExactStrKey e.2 = true := fun e h => by
  rcases List.mem_cons.mp h with rfl | h
  · rfl
  · exact ctl_strs e h
theorem ctl_split (P : Params) : ctl P 32 = (ctl P 32).take 22 ++ (PyData.keyHash P ⟨#[9]⟩, .str ⟨#[9]⟩ 238) :: ctl P 9 := rfl
theorem L31_perm (P : Params) : (L31 P).Perm ((PyData.keyHash P ⟨#[9]⟩, .str ⟨#[9]⟩ 238) :: L36 P) := by
  unfold L31 L36
  rw [ctl_split]
  refine (List.perm_middle.cons _).trans ?_
  rw [← ctl_split]
  exact .swap _ _ _
theorem L36_no (P : Params) : ∀ e ∈ L36 P, e.2.isStr ⟨#[9]⟩ = false := fun e h => by
  rcases List.mem_cons.mp h with rfl | h
  · rfl
  · rcases List.mem_append.mp h with h | h
    · have : (ctl P 32).take 22 = (ctl P 32).take 22 := rfl
      conv at this => rhs; simp only [ctl, List.take]
      rw [this] at h
      simp only [List.mem_cons, List.not_mem_nil, or_false] at h
      rcases h with rfl | rfl | rfl | rfl | rfl | rfl | rfl | rfl | rfl | rfl | rfl | rfl | rfl | rfl | rfl | rfl | rfl | rfl | rfl | rfl | rfl | rfl <;> rfl
    · exact ctl_no (Nat.le_refl _) e h
theorem stmt2 (w : World) (os : OsState) (e22 : Array (Int × Value)) (n22 : Nat) (t22 : SetTable) (e27 : Array (Int × Value)) (n27 : Nat) (t27 : SetTable) (e31 : Array (Int × Value)) (n31 : Nat) (t31 : SetTable) (h31 : SetOf (setObj e31 n31 t31) (L31 w.params)) :
    ∃ e32 n32 t32 e36 n36 t36, SetOf (setObj e36 n36 t36) (L36 w.params) ∧
    ∃ m, m ≤ 1000 ∧ segRun treeTable PR w 11 annV 1 m (StF w os 9 (base0 w.params (setObj e22 n22 t22) ++ [setObj e27 n27 t27, siE 1, tup0, stopO 29] ++ [setObj e31 n31 t31]) 333) (pieceOf (stmtAt 2) theEnv bodyC ⟨2, 0, 2, 10⟩ [topFrame default]) =
      some (.next, StF w os 10 (base0 w.params (setObj e22 n22 t22) ++ [setObj e27 n27 t27, siE 1, tup0, stopO 29] ++ [setObj e31 n31 t31] ++ [setObj e32 n32 t32, siE 1, tup0, stopO 34] ++ [setObj e36 n36 t36]) 337, bodyC, ⟨3, 0, 3, 23⟩) := by
  have hA := pieceA2 os w e22 n22 t22 e27 n27 t27 e31 n31 t31
  have hT := fun K => pieceHT0 os w e22 n22 t22 e27 n27 t27 e31 n31 t31 (fresh0 w) (kOf (tA2 w os) 0) (kOf (tA2 w os) 1) (kOf (tA2 w os) 2) K
  obtain ⟨o32, h32, k32, hk32, g32⟩ := loop_turn (r := 32) (L := []) ⟨_, _, _, rfl⟩ (by decide) hT rfl (fresh0_set w) (fun _ h => nomatch h) (fun _ h => nomatch h) (by decide)
  obtain ⟨n32, t32, rfl, hf32⟩ := single_of h32
  have hDE := pieceHE os w e22 n22 t22 e27 n27 t27 e31 n31 t31 (setObj #[(PyData.keyHash w.params ⟨#[9]⟩, .str ⟨#[9]⟩ 334)] n32 t32) (kOf (tA2 w os) 0) (kOf (tA2 w os) 1) (kOf (tA2 w os) 2) (loopK 32 33)
  rw [← denote_loop] at hDE
  have hF := pieceF2 os w e22 n22 t22 e27 n27 t27 e31 n31 t31 #[(PyData.keyHash w.params ⟨#[9]⟩, .str ⟨#[9]⟩ 334)] n32 t32
  have hO := runs_sub (p := PR) (w := w) (n₀ := 11) (ann := annV) (l := 31) (r := 32) (L := L31 w.params) (L0 := L36 w.params) (t0 := 238) (Q := fun a s' => ∃ o36, SetOf o36 (L36 w.params) ∧ a = .done (.ret (.ref 36)) ∧ s' = StF w os 9 (base0 w.params (setObj e22 n22 t22) ++ [setObj e27 n27 t27, siE 1, tup0, stopO 29] ++ [setObj e31 n31 t31] ++ [setObj #[(PyData.keyHash w.params ⟨#[9]⟩, .str ⟨#[9]⟩ 334)] n32 t32, siE 1, tup0, stopO 34] ++ [o36]) 336)
    (s := StF w os 9 (base0 w.params (setObj e22 n22 t22) ++ [setObj e27 n27 t27, siE 1, tup0, stopO 29] ++ [setObj e31 n31 t31] ++ [setObj #[(PyData.keyHash w.params ⟨#[9]⟩, .str ⟨#[9]⟩ 334)] n32 t32, siE 1, tup0, stopO 34]) 336)
    (by show (ctl w.params 32).length + 1 = 33; rw [ctl_len]) (by show 11 ≤ 36; decide) (by decide) rfl h31 rfl hf32 L31_strs (L31_perm _) (by decide) (L36_no _) (fun o' ho' => ⟨o', ho', rfl, rfl⟩)
  obtain ⟨a, s', ⟨o36, h36, rfl, rfl⟩, kO, hkO, gO⟩ := runs_fin hO
  obtain ⟨e36, n36, t36, rfl⟩ := setOf_shape h36
  have hG := pieceG2 os w e22 n22 t22 e27 n27 t27 e31 n31 t31 #[(PyData.keyHash w.params ⟨#[9]⟩, .str ⟨#[9]⟩ 334)] n32 t32 e36 n36 t36
  refine ⟨#[(PyData.keyHash w.params ⟨#[9]⟩, .str ⟨#[9]⟩ 334)], n32, t32, e36, n36, t36, h36, ?_⟩
  have c1 := seg_end (N := 10) (gO (opC "frozenset.__sub__" 31 32) posO3 (stkO "frozenset.__sub__" 31 32 posO3 (kOf (tF2 w os) 0)) ⟨_, _, _, rfl⟩) ⟨10, by omega, hG⟩
  rw [← denote_sub] at c1
  have c2 := seg_end hF c1
  have c3 := seg_end hDE c2
  have c4 := seg_end g32 c3
  obtain ⟨m, hm, e⟩ := seg_end hA c4
  exact ⟨m, by omega, e⟩
section
variable (w : World) (os : OsState) (e22 : Array (Int × Value)) (n22 : Nat) (t22 : SetTable) (e27 : Array (Int × Value)) (n27 : Nat) (t27 : SetTable) (e31 : Array (Int × Value)) (n31 : Nat) (t31 : SetTable) (e32 : Array (Int × Value)) (n32 : Nat) (t32 : SetTable) (e36 : Array (Int × Value)) (n36 : Nat) (t36 : SetTable)
noncomputable abbrev L2L (P : Params) : List Obj := base0 P (setObj e22 n22 t22) ++ [setObj e27 n27 t27, siE 1, tup0, stopO 29] ++ [setObj e31 n31 t31] ++ [setObj e32 n32 t32, siE 1, tup0, stopO 34] ++ [setObj e36 n36 t36]
theorem stmt5 : ∃ e37 n37 t37, SetOf (setObj e37 n37 t37) (L37 w.params) ∧
    ∃ m, m ≤ 1000 ∧ segRun treeTable PR w 11 annV 1 m (StF w os 12 (L2L e22 n22 t22 e27 n27 t27 e31 n31 t31 e32 n32 t32 e36 n36 t36 w.params) 339) (pieceOf (stmtAt 5) theEnv bodyC ⟨5, 0, 5, 21⟩ [topFrame default]) =
      some (.next, StF w os 13 (L2L e22 n22 t22 e27 n27 t27 e31 n31 t31 e32 n32 t32 e36 n36 t36 w.params ++ [setObj e37 n37 t37, siE 2, tup0, stopO 39]) 345, bodyC, ⟨6, 0, 6, 7⟩) := by
  have hA := pieceA5 os w e22 n22 t22 e27 n27 t27 e31 n31 t31 e32 n32 t32 e36 n36 t36
  have hT := fun K => pieceIT0 os w e22 n22 t22 e27 n27 t27 e31 n31 t31 e32 n32 t32 e36 n36 t36 (fresh0 w) (kOf (tA5 w os) 0) (kOf (tA5 w os) 1) (kOf (tA5 w os) 2) K
  obtain ⟨o1, h1, k1, hk1, g1⟩ := loop_turn (r := 37) (L := []) ⟨_, _, _, rfl⟩ (by decide) hT rfl (fresh0_set w) (fun _ h => nomatch h) (fun _ h => nomatch h) (by decide)
  obtain ⟨n1, t1, rfl, hf1⟩ := single_of h1
  have hT2 := fun K => pieceIT1 os w e22 n22 t22 e27 n27 t27 e31 n31 t31 e32 n32 t32 e36 n36 t36 (setObj #[(PyData.keyHash w.params ⟨#[32]⟩, .str ⟨#[32]⟩ 340)] n1 t1) (kOf (tA5 w os) 0) (kOf (tA5 w os) 1) (kOf (tA5 w os) 2) K
  obtain ⟨o2, h2, k2, hk2, g2⟩ := loop_turn (r := 37) (L := [(PyData.keyHash w.params ⟨#[32]⟩, .str ⟨#[32]⟩ 340)]) ⟨_, _, _, rfl⟩ (by decide) hT2 rfl h1 (fun e h => by obtain rfl := List.mem_singleton.mp h; rfl) (fun e h => by obtain rfl := List.mem_singleton.mp h; rfl) (by show 1 < 1000; decide)
  obtain ⟨e37, n37, t37, rfl⟩ := setOf_shape h2
  have hDE := pieceIE os w e22 n22 t22 e27 n27 t27 e31 n31 t31 e32 n32 t32 e36 n36 t36 (setObj e37 n37 t37) (kOf (tA5 w os) 0) (kOf (tA5 w os) 1) (kOf (tA5 w os) 2) (loopK 37 38)
  rw [← denote_loop] at hDE
  have hG := pieceG5 os w e22 n22 t22 e27 n27 t27 e31 n31 t31 e32 n32 t32 e36 n36 t36 e37 n37 t37
  refine ⟨e37, n37, t37, h2, ?_⟩
  have c1 := seg_end (N := 19) hDE ⟨19, by omega, hG⟩
  have c2 := seg_end g2 c1
  have c3 := seg_end g1 c2
  obtain ⟨m, hm, e⟩ := seg_end hA c3
  exact ⟨m, by omega, e⟩
theorem L37_strs {P : Params} : ∀ e ∈ L37 P, isExactStrKey e.2 = true := fun e h => by
  simp only [L37, List.mem_cons, List.not_mem_nil, or_false] at h
  rcases h with rfl | rfl <;> rfl
theorem L37_no {P : Params} : ∀ e ∈ L37 P, e.2.isStr ⟨#[10]⟩ = false := fun e h => by
  simp only [L37, List.mem_cons, List.not_mem_nil, or_false] at h
  rcases h with rfl | rfl <;> rfl
theorem stmt6 (e37 : Array (Int × Value)) (n37 : Nat) (t37 : SetTable) (h37 : SetOf (setObj e37 n37 t37) (L37 w.params)) : ∃ e41 n41 t41 e45 n45 t45, SetOf (setObj e45 n45 t45) (L45 w.params) ∧
    ∃ m, m ≤ 1000 ∧ segRun treeTable PR w 11 annV 1 m (StF w os 13 (L2L e22 n22 t22 e27 n27 t27 e31 n31 t31 e32 n32 t32 e36 n36 t36 w.params ++ [setObj e37 n37 t37, siE 2, tup0, stopO 39]) 345) (pieceOf (stmtAt 6) theEnv bodyC ⟨6, 0, 6, 7⟩ [topFrame default]) =
      some (.next, StF w os 14 (L2L e22 n22 t22 e27 n27 t27 e31 n31 t31 e32 n32 t32 e36 n36 t36 w.params ++ [setObj e37 n37 t37, siE 2, tup0, stopO 39] ++ [setObj e41 n41 t41, siE 1, tup0, stopO 43] ++ [setObj e45 n45 t45]) 349, bodyC, ⟨7, 0, 7, 19⟩) := by
  have hA := pieceA6 os w e22 n22 t22 e27 n27 t27 e31 n31 t31 e32 n32 t32 e36 n36 t36 e37 n37 t37
  have hT := fun K => pieceJT0 os w e22 n22 t22 e27 n27 t27 e31 n31 t31 e32 n32 t32 e36 n36 t36 e37 n37 t37 (fresh0 w) (kOf (tA6 w os) 0) (kOf (tA6 w os) 1) (kOf (tA6 w os) 2) K
  obtain ⟨o1, h1, k1, hk1, g1⟩ := loop_turn (r := 41) (L := []) ⟨_, _, _, rfl⟩ (by decide) hT rfl (fresh0_set w) (fun _ h => nomatch h) (fun _ h => nomatch h) (by decide)
  obtain ⟨n41, t41, rfl, hf41⟩ := single_of h1
  have hDE := pieceJE os w e22 n22 t22 e27 n27 t27 e31 n31 t31 e32 n32 t32 e36 n36 t36 e37 n37 t37 (setObj #[(PyData.keyHash w.params ⟨#[10]⟩, .str ⟨#[10]⟩ 346)] n41 t41) (kOf (tA6 w os) 0) (kOf (tA6 w os) 1) (kOf (tA6 w os) 2) (loopK 41 42)
  rw [← denote_loop] at hDE
  have hF := pieceF6 os w e22 n22 t22 e27 n27 t27 e31 n31 t31 e32 n32 t32 e36 n36 t36 e37 n37 t37 #[(PyData.keyHash w.params ⟨#[10]⟩, .str ⟨#[10]⟩ 346)] n41 t41
  have hO := runs_or (p := PR) (w := w) (n₀ := 11) (ann := annV) (l := 37) (r := 41) (M := 7) (L := L37 w.params) (Q := fun a s' => ∃ o45, SetOf o45 (L45 w.params) ∧ a = .done (.ret (.ref 45)) ∧ s' = StF w os 13 (L2L e22 n22 t22 e27 n27 t27 e31 n31 t31 e32 n32 t32 e36 n36 t36 w.params ++ [setObj e37 n37 t37, siE 2, tup0, stopO 39] ++ [setObj #[(PyData.keyHash w.params ⟨#[10]⟩, .str ⟨#[10]⟩ 346)] n41 t41, siE 1, tup0, stopO 43] ++ [o45]) 348)
    (s := StF w os 13 (L2L e22 n22 t22 e27 n27 t27 e31 n31 t31 e32 n32 t32 e36 n36 t36 w.params ++ [setObj e37 n37 t37, siE 2, tup0, stopO 39] ++ [setObj #[(PyData.keyHash w.params ⟨#[10]⟩, .str ⟨#[10]⟩ 346)] n41 t41, siE 1, tup0, stopO 43]) 348)
    (.inl ⟨rfl, rfl⟩) (by show 11 ≤ 45; decide) (by decide) rfl h37 rfl hf41 L37_strs L37_no (fun o' ho' => ⟨o', ho', rfl, rfl⟩)
  obtain ⟨a, s', ⟨o45, h45, rfl, rfl⟩, kO, hkO, gO⟩ := runs_fin hO
  obtain ⟨e45, n45, t45, rfl⟩ := setOf_shape h45
  have hG := pieceG6 os w e22 n22 t22 e27 n27 t27 e31 n31 t31 e32 n32 t32 e36 n36 t36 e37 n37 t37 #[(PyData.keyHash w.params ⟨#[10]⟩, .str ⟨#[10]⟩ 346)] n41 t41 e45 n45 t45
  refine ⟨#[(PyData.keyHash w.params ⟨#[10]⟩, .str ⟨#[10]⟩ 346)], n41, t41, e45, n45, t45, h45, ?_⟩
  have c1 := seg_end (N := 10) (gO (opC "frozenset.__or__" 37 41) posO7 (stkO "frozenset.__or__" 37 41 posO7 (kOf (tF6 w os) 0)) ⟨_, _, _, rfl⟩) ⟨10, by omega, hG⟩
  rw [← denote_or] at c1
  have c2 := seg_end hF c1
  have c3 := seg_end hDE c2
  have c4 := seg_end g1 c3
  obtain ⟨m, hm, e⟩ := seg_end hA c4
  exact ⟨m, by omega, e⟩
end
end Mine
end
section
open PySem PySem.W PyProof.Rows
set_option maxRecDepth 100000
namespace Mine
theorem top_all (w : World) (os : OsState) : ∃ e22 n22 t22 e27 n27 t27 e31 n31 t31 e32 n32 t32 e36 n36 t36 e37 n37 t37 e41 n41 t41 e45 n45 t45, SetOf (setObj e36 n36 t36) (L36 w.params) ∧ SetOf (setObj e45 n45 t45) (L45 w.params) ∧
    ∀ r, Z0 w os (setObj e22 n22 t22) (setObj e27 n27 t27) (setObj e31 n31 t31) (setObj e32 n32 t32) (setObj e36 n36 t36) (setObj e37 n37 t37) (setObj e41 n41 t41) (setObj e45 n45 t45) = some r → topRun treeTable PR w 11 annV 9000 ⟨boot_heap w.params, #[], boot_drawn, boot_toks, os⟩ (topStub PR) = some r := by
  obtain ⟨e22, n22, t22, e27, n27, t27, e31, n31, t31, h31, m1, hm1, g1⟩ := stmt1 w os
  obtain ⟨e32, n32, t32, e36, n36, t36, h36, m2, hm2, g2⟩ := stmt2 w os e22 n22 t22 e27 n27 t27 e31 n31 t31 h31
  have g3 := pieceS3 os w e22 n22 t22 e27 n27 t27 e31 n31 t31 e32 n32 t32 e36 n36 t36
  have g4 := pieceS4 os w e22 n22 t22 e27 n27 t27 e31 n31 t31 e32 n32 t32 e36 n36 t36
  obtain ⟨e37, n37, t37, h37, m5, hm5, g5⟩ := stmt5 w os e22 n22 t22 e27 n27 t27 e31 n31 t31 e32 n32 t32 e36 n36 t36
  obtain ⟨e41, n41, t41, e45, n45, t45, h45, m6, hm6, g6⟩ := stmt6 w os e22 n22 t22 e27 n27 t27 e31 n31 t31 e32 n32 t32 e36 n36 t36 e37 n37 t37 h37
  refine ⟨e22, n22, t22, e27, n27, t27, e31, n31, t31, e32, n32, t32, e36, n36, t36, e37, n37, t37, e41, n41, t41, e45, n45, t45, h36, h45, fun r hr => ?_⟩
  have c6 := piece_cons g6 hr
  have c5 := piece_cons g5 c6
  have c4 := piece_cons g4 c5
  have c3 := piece_cons g3 c4
  have c2 := piece_cons g2 c3
  have c1 := piece_cons g1 c2
  have c0 := piece_cons (pieceS0 os w) c1
  have hb : stmtAt 0 :: stmtAt 1 :: stmtAt 2 :: stmtAt 3 :: stmtAt 4 :: stmtAt 5 :: stmtAt 6 :: PR.main.body.drop 7 = PR.main.body := by kernel_rfl
  rw [hb] at c0
  have cb := piece_block (pieceBlk os w) c0
  have ct := go_top (piecePre os w) cb
  have := topRun_mono (9000 - (12 + (1 + (10 + (m1 + (m2 + (11 + (11 + (m5 + (m6 + 700)))))))))) _ _ _ _ ct
  rw [show 12 + (1 + (10 + (m1 + (m2 + (11 + (11 + (m5 + (m6 + 700)))))))) + (9000 - (12 + (1 + (10 + (m1 + (m2 + (11 + (11 + (m5 + (m6 + 700)))))))))) = 9000 by omega] at this
  exact this
noncomputable def ctlStrs : Nat → List Str
  | 0 => []
  | i + 1 => ⟨#[i]⟩ :: ctlStrs i
/-- the signs that are not let -/
noncomputable def illS : List Str := ⟨#[127]⟩ :: ((ctlStrs 32).take 22 ++ ctlStrs 9)
noncomputable def wsS : List Str := [⟨#[10]⟩, ⟨#[9]⟩, ⟨#[32]⟩]
noncomputable def isIll (x : Str) : Bool := illS.any (· == x)
noncomputable def isWs (x : Str) : Bool := wsS.any (· == x)
noncomputable def SetsOk (h : Heap) : Prop := StrSet h 36 isIll ∧ StrSet h 45 isWs
theorem strSet_of {h : Heap} {a : Addr} {o : Obj} {L : List (Int × Value)} {P : Str → Bool} (ho : h.get? a = some o) (hS : SetOf o L) (hL : ∀ e ∈ L, isExactStrKey e.2 = true) (hz : L.length < 1000) (hP : ∀ x, P x = L.any (fun e => e.2.isStr x)) : StrSet h a P := by
  obtain ⟨es, n, t, rfl, hf, hp⟩ := hS
  refine ⟨_, es, n, t, ho, rfl, rfl, rfl, hf, ?_, strs_of hp hL, fun x => ?_⟩
  · rw [← Array.length_toList, hp.length_eq]; unfold scanBound; omega
  · rw [hP, hp.any_eq]
theorem any_strs {L : List (Int × Value)} {S : List Str} (h : L.map (fun e => e.2) = [] ∨ True) (hs : ∀ x : Str, L.any (fun e => e.2.isStr x) = S.any (· == x)) : ∀ x, S.any (· == x) = L.any (fun e => e.2.isStr x) := fun x => (hs x).symm
theorem L36_any (P : Params) (x : Str) : isIll x = (L36 P).any (fun e => e.2.isStr x) := rfl
theorem L45_any (P : Params) (x : Str) : isWs x = (L45 P).any (fun e => e.2.isStr x) := rfl
theorem L36_strs {P : Params} : ∀ e ∈ L36 P, isExactStrKey e.2 = true := fun e h => by
  rcases List.mem_cons.mp h with rfl | h
  · rfl
  · rcases List.mem_append.mp h with h | h
    · exact ctl_strs e (List.mem_of_mem_take h)
    · exact ctl_strs e h
theorem L45_strs {P : Params} : ∀ e ∈ L45 P, isExactStrKey e.2 = true := fun e h => by
  rcases List.mem_cons.mp h with rfl | h
  · rfl
  · exact L37_strs e h
theorem kas_eq (P : Params) : Kas = (K P).map (·.1) := by kernel_rfl
noncomputable def hookV : Hook := ⟨(List (Option Obj) × Bool) × Option Obj, fun s => ((Kas.map s.heap.get?, @decide (SetsOk s.heap) (Classical.propDecidable _)), s.heap.get? 95), fun w => (((K w.params).map (fun p => some p.2), true), some (PySem.W.tabObj #[])), fun w h => (InK K w h ∧ SetsOk h) ∧ h.get? 95 = some (PySem.W.tabObj #[]),
  fun w s e => ⟨⟨InK.of kas_eq w s (congrArg (fun z => z.1.1) e), @of_decide_eq_true _ (Classical.propDecidable _) (congrArg (fun z => z.1.2) e)⟩, congrArg Prod.snd e⟩,
  fun w h h' x k => ⟨⟨InK.keeps w h h' x.1.1 k, x.1.2.1.keeps k, x.1.2.2.keeps k⟩, k _ _ x.2⟩⟩
theorem leftV : LeftO PR vq looseL XtV hookV.obs hookV.val 10000 false := fun w => by
  have hop := boot_open (p := PR) (N := 10000) (by kernel_rfl) (by decide) (fun s => by rfl) w
  obtain ⟨⟨h, gs, d, k, os⟩, e, e'⟩ := Option.map_eq_some_iff.mp hop
  obtain ⟨rfl, rfl, rfl, rfl⟩ : h = boot_heap w.params ∧ gs = #[] ∧ d = boot_drawn ∧ k = boot_toks := by simpa using e'
  obtain ⟨e22, n22, t22, e27, n27, t27, e31, n31, t31, e32, n32, t32, e36, n36, t36, e37, n37, t37, e41, n41, t41, e45, n45, t45, h36, h45, hrun⟩ := top_all w os
  have z := pieceZ os w e22 n22 t22 e27 n27 t27 e31 n31 t31 e32 n32 t32 e36 n36 t36 e37 n37 t37 e41 n41 t41 e45 n45 t45
  obtain ⟨s₁, hz, v1⟩ := Option.map_eq_some_iff.mp z
  simp only [Prod.mk.injEq] at v1
  obtain ⟨⟨_, _, v36, v45, vK⟩, v4, v2, v3⟩ := v1
  have r := topRun_mono 1000 _ _ _ _ (hrun s₁ hz)
  have t : topFrom treeTable PR w 10000 ⟨boot_heap w.params, #[], boot_drawn, boot_toks, os⟩ = some s₁ := by
    unfold topFrom
    dsimp only
    have a1 : ((boot_heap w.params).isNs mainGlobals && (#[] : Array GenState).size == 0) = true := by kernel_rfl
    have a2 : (boot_heap w.params).objs.size = 11 := by kernel_rfl
    have a3 : (boot_heap w.params).nsMap mainGlobals "__annotations__" = annV := by kernel_rfl
    rw [a1, a2, a3, r]
    show (match staticsOk (importedModules PR.main.body) (boot_heap w.params) s₁.heap && namesBound PR s₁.heap && gensDone s₁ && laidKept (boot_heap w.params) s₁.heap with | true => _ | false => _) = _
    rw [v2]
  unfold openEnds
  rw [e]
  show (topFrom treeTable PR w 10000 _).map _ = _
  rw [t]
  refine congrArg some (Prod.ext v3 (Prod.ext (Prod.ext vK ?_) v4))
  exact @decide_eq_true _ (Classical.propDecidable _) ⟨strSet_of v36 h36 L36_strs (by show ((_ ++ ctl w.params 9).length + 1) < 1000; rw [List.length_append, List.length_take, ctl_len, ctl_len]; decide) (L36_any _), strSet_of v45 h45 L45_strs (by show 3 < 1000; decide) (L45_any _)⟩
end Mine
end
section
open PySem PySem.W PyProof.Rows PySem.Calls
namespace Mine
/-- the signs of a text -/
noncomputable abbrev signs (x : Str) : List Nat := x.cps.toList
theorem sg_len (x : Str) : x.length = (signs x).length := by simp [Str.length]
theorem sg_app (x y : Str) : signs (x ++ y) = signs x ++ signs y := by
  show (x.cps ++ y.cps).toList = _
  simp
theorem sg_at (x : Str) (i : Nat) : x.cps[i]? = (signs x)[i]? := by simp
theorem sg_ext {x y : Str} (h : signs x = signs y) : x = y := by
  cases x; cases y
  simp only [Str.mk.injEq]
  exact Array.toList_inj.mp h
theorem at_drop {x : Str} {i j : Nat} {p r : List Nat} {c : Nat} (h : (signs x).drop i = p ++ c :: r) (hj : j = i + p.length) : x.cps[j]? = some c := by
  rw [sg_at, hj, ← List.getElem?_drop, h]
  simp
theorem drop_more {x : Str} {i j : Nat} {p r : List Nat} (h : (signs x).drop i = p ++ r) (hj : j = i + p.length) : (signs x).drop j = r := by
  rw [hj, ← List.drop_drop, h, List.drop_left]
theorem len_drop {x : Str} {i : Nat} {l : List Nat} (h : (signs x).drop i = l) (hi : i ≤ x.length) : x.length = i + l.length := by
  have := congrArg List.length h
  rw [List.length_drop, ← sg_len] at this
  omega
theorem spots_none {c : Nat} {x : Str} {i : Nat} (h : c ∉ (signs x).drop i) (n : Nat) : spots c x i n = [] := by
  unfold spots
  refine List.filter_eq_nil_iff.mpr fun j hj => ?_
  obtain ⟨hj1, hj2⟩ := List.mem_range'_1.mp hj
  intro q
  refine h ?_
  have q' : x.cps[j]? = some c := by simpa using q
  rw [sg_at, show j = i + (j - i) by omega, ← List.getElem?_drop] at q'
  exact List.mem_of_getElem? q'
theorem spots_head {c : Nat} {x : Str} {i : Nat} {p r : List Nat} (h : (signs x).drop i = p ++ c :: r) (hp : c ∉ p) : (spots c x i (x.length - i)).head? = some (i + p.length) := by
  have hl : x.length - i = p.length + (1 + r.length) := by
    have := congrArg List.length h
    rw [List.length_drop, ← sg_len] at this
    simp at this
    omega
  unfold spots
  rw [List.head?_filter, hl, ← List.range'_append_1, List.find?_append]
  have h1 : (List.range' i p.length).find? (fun j => x.cps[j]? == some c) = none := by
    refine List.find?_eq_none.mpr fun j hj q => hp ?_
    obtain ⟨hj1, hj2⟩ := List.mem_range'_1.mp hj
    have q' : x.cps[j]? = some c := by simpa using q
    rw [sg_at, show j = i + (j - i) by omega, ← List.getElem?_drop, h, List.getElem?_append_left (by omega)] at q'
    exact List.mem_of_getElem? q'
  rw [h1, Option.none_or, show 1 + r.length = r.length + 1 by omega, List.range'_succ, List.find?_cons]
  have h2 : (x.cps[i + p.length]? == some c) = true := by rw [at_drop h rfl]; simp
  rw [h2]
theorem next_at {c : Nat} {x : Str} {i : Nat} {p r : List Nat} (h : (signs x).drop i = p ++ c :: r) (hp : c ∉ p) : nextAt c x i = i + p.length := by
  unfold nextAt
  rw [spots_head h hp]; rfl
theorem next_none {c : Nat} {x : Str} {i : Nat} (h : c ∉ (signs x).drop i) : nextAt c x i = x.length := by
  unfold nextAt
  rw [spots_none h]; rfl
theorem skip_at {P : Str → Bool} {x : Str} {i : Nat} {p r : List Nat} {c : Nat} (h : (signs x).drop i = p ++ c :: r) (hp : ∀ a ∈ p, P ⟨#[a]⟩ = true) (hc : P ⟨#[c]⟩ = false) : skipTo P x i = i + p.length := by
  unfold skipTo
  rw [show x.cps.toList.drop i = p ++ c :: r from h]
  have : ∀ p : List Nat, (∀ a ∈ p, P ⟨#[a]⟩ = true) → (p ++ c :: r).takeWhile (fun c => P ⟨#[c]⟩) = p := by
    intro p
    induction p with
    | nil => intro _; simp [hc]
    | cons a p ih => intro hp; rw [List.cons_append, List.takeWhile_cons, hp a (.head _), if_pos rfl, ih (fun b hb => hp b (.tail _ hb))]
  rw [this p hp]
theorem rem_not {x : Str} {i : Nat} {c : Nat} (h : x.cps[i]? = some c) (hc : c ≠ 35) : remTo x i = i := by
  unfold remTo
  rw [if_neg (by rw [h]; simpa using hc)]
theorem settle2 {P : Str → Bool} {x : Str} {i j n : Nat} (h1 : turn P x i = j) (h2 : turn P x j = j) (hn : 2 ≤ n) : settle P x n i = j := by
  obtain ⟨n, rfl⟩ : ∃ m, n = m + 2 := ⟨n - 2, by omega⟩
  unfold settle
  rw [h1]
  by_cases e : j = i
  · rw [if_pos e]; exact e.symm
  · rw [if_neg e]; unfold settle; rw [if_pos h2]
theorem settle3 {P : Str → Bool} {x : Str} {i j k n : Nat} (h1 : turn P x i = j) (h2 : turn P x j = k) (h3 : turn P x k = k) (hij : j ≠ i) (hn : 3 ≤ n) : settle P x n i = k := by
  obtain ⟨n, rfl⟩ : ∃ m, n = m + 3 := ⟨n - 3, by omega⟩
  unfold settle
  rw [h1, if_neg hij]
  exact settle2 h2 h3 (by omega)
theorem ws32 : isWs ⟨#[32]⟩ = true := by decide +kernel
theorem ws10 : isWs ⟨#[10]⟩ = true := by decide +kernel
theorem ws9 : isWs ⟨#[9]⟩ = true := by decide +kernel
theorem ws39 : isWs ⟨#[39]⟩ = false := by decide +kernel
theorem ws35 : isWs ⟨#[35]⟩ = false := by decide +kernel
theorem turn39 {x : Str} {i : Nat} {r : List Nat} (h : (signs x).drop i = 39 :: r) : turn isWs x i = i := by
  unfold turn
  rw [skip_at (p := []) h (fun _ ha => nomatch ha) ws39]
  exact rem_not (at_drop (p := []) h rfl) (by decide)
theorem settle_ws {x : Str} {i : Nat} {g r : List Nat} (hi : i ≤ x.length) (h : (signs x).drop i = g ++ 39 :: r) (hg : ∀ a ∈ g, isWs ⟨#[a]⟩ = true) : settle isWs x (x.length - i + 1) i = i + g.length := by
  have hl := len_drop h hi
  simp at hl
  refine settle2 ?_ (turn39 (drop_more h rfl)) (by omega)
  unfold turn
  rw [skip_at h hg ws39]
  exact rem_not (at_drop h rfl) (by decide)
theorem settle_rem {x : Str} {i : Nat} {r : List Nat} (hi : i ≤ x.length) (h : (signs x).drop i = [32, 35, 32, 105, 116, 39, 115, 10] ++ 39 :: r) : settle isWs x (x.length - i + 1) i = i + 8 := by
  have hl := len_drop h hi
  simp at hl
  have d1 : (signs x).drop i = [32] ++ 35 :: ([32, 105, 116, 39, 115, 10] ++ 39 :: r) := h
  have d2 : (signs x).drop (i + 2) = [32, 105, 116, 39, 115] ++ 10 :: (39 :: r) := drop_more (p := [32, 35]) h rfl
  have d7 : (signs x).drop (i + 7) = [10] ++ 39 :: r := drop_more (p := [32, 35, 32, 105, 116, 39, 115]) h rfl
  have d8 : (signs x).drop (i + 8) = 39 :: r := drop_more (p := [32, 35, 32, 105, 116, 39, 115, 10]) h rfl
  refine settle3 (j := i + 7) ?_ ?_ (turn39 d8) (by omega) (by omega)
  · unfold turn
    rw [skip_at d1 (by intro a ha; rw [List.mem_singleton.mp ha]; exact ws32) ws35]
    show remTo x (i + 1) = _
    unfold remTo
    rw [if_pos (show x.cps[i + 1]? = some 35 from at_drop d1 rfl), next_at d2 (by decide)]
    rfl
  · unfold turn
    rw [skip_at d7 (by intro a ha; rw [List.mem_singleton.mp ha]; exact ws10) ws39]
    exact rem_not (at_drop d7 rfl) (by decide)
noncomputable def endL : List Nat := [32, 35, 32, 116, 104, 101, 32, 101, 110, 100]
theorem settle_end {x : Str} {i : Nat} (hi : i ≤ x.length) (h : (signs x).drop i = endL) : settle isWs x (x.length - i + 1) i = x.length := by
  have hl := len_drop h hi
  have hl' : x.length = i + 10 := hl
  have d1 : (signs x).drop i = [32] ++ 35 :: [32, 116, 104, 101, 32, 101, 110, 100] := h
  have d2 : (signs x).drop (i + 2) = [32, 116, 104, 101, 32, 101, 110, 100] := drop_more (p := [32, 35]) h rfl
  refine settle2 ?_ ?_ (by omega)
  · unfold turn
    rw [skip_at d1 (by intro a ha; rw [List.mem_singleton.mp ha]; exact ws32) ws35]
    show remTo x (i + 1) = _
    unfold remTo
    rw [if_pos (show x.cps[i + 1]? = some 35 from at_drop d1 rfl), next_none (i := i + 1 + 1) (by rw [show i + 1 + 1 = i + 2 from rfl, d2]; decide)]
  · unfold turn
    rw [skipTo_end (Nat.le_refl _)]
    unfold remTo
    rw [if_neg (by rw [sg_at, List.getElem?_eq_none (by rw [← sg_len]; exact Nat.le_refl _)]; simp)]
end Mine
end
section
open PySem PySem.W PyProof.Rows PySem.Calls
namespace Mine
noncomputable abbrev gapL (x : Int) : List Nat := signs (gapOf x)
noncomputable abbrev wordL (x : Int) : List Nat := signs (wordOf x)
noncomputable def part (x : Int) : List Nat := gapL x ++ 39 :: (wordL x ++ [39])
noncomputable def txt : List Int → List Nat
  | [] => []
  | x :: l => part x ++ txt l
theorem txt_app : ∀ a b : List Int, txt (a ++ b) = txt a ++ txt b
  | [], b => rfl
  | x :: a, b => by rw [List.cons_append, txt, txt, txt_app a b, List.append_assoc]
noncomputable def keysFrom : Nat → List Int → List (Str × Int × Int)
  | _, [] => []
  | n, x :: l => (wordOf x, ((n + (gapL x).length : Nat) : Int), ((n + (gapL x).length + (wordL x).length + 2 : Nat) : Int)) :: keysFrom (n + (part x).length) l
theorem quote_sg : signs (Str.ofString "'") = [39] := by decide +kernel
theorem step_txt (a : Str × List (Str × Int × Int)) (x : Int) : signs (layStep a x).1 = signs a.1 ++ part x := by
  unfold layStep part
  simp only [sg_app, quote_sg, List.append_assoc]
  rfl
theorem step_key (a : Str × List (Str × Int × Int)) (x : Int) : (layStep a x).2 = a.2 ++ [(wordOf x, (((signs a.1).length + (gapL x).length : Nat) : Int), (((signs a.1).length + (gapL x).length + (wordL x).length + 2 : Nat) : Int))] := by
  unfold layStep
  dsimp only
  rw [sg_len, sg_app, List.length_append, sg_len (wordOf x)]
  congr 4
theorem lay_from : ∀ (l : List Int) (a : Str × List (Str × Int × Int)), signs (l.foldl layStep a).1 = signs a.1 ++ txt l ∧ (l.foldl layStep a).2 = a.2 ++ keysFrom (signs a.1).length l
  | [], a => by simp [txt, keysFrom]
  | x :: l, a => by
    rw [List.foldl_cons]
    obtain ⟨h1, h2⟩ := lay_from l (layStep a x)
    rw [h1, h2, step_txt, step_key, txt, keysFrom, List.length_append]
    simp
theorem empty_sg : signs (Str.ofString "") = [] := by decide +kernel
theorem lay_txt (l : List Int) : signs (layAll l).1 = txt l := by
  have := (lay_from l (Str.ofString "", [])).1
  rw [empty_sg] at this
  exact this
theorem lay_keys (l : List Int) : (layAll l).2 = keysFrom 0 l := by
  have := (lay_from l (Str.ofString "", [])).2
  rw [empty_sg] at this
  rw [show (layAll l).2 = (l.foldl layStep (Str.ofString "", [])).2 from rfl, this]
  simp
theorem keys_at : ∀ (l : List Int) (n i : Nat) (k : Str × Int × Int), (keysFrom n l)[i]? = some k → ∃ x, l[i]? = some x ∧
    k = (wordOf x, ((n + (txt (l.take i)).length + (gapL x).length : Nat) : Int), ((n + (txt (l.take i)).length + (gapL x).length + (wordL x).length + 2 : Nat) : Int))
  | [], n, i, k, h => by simp [keysFrom] at h
  | x :: l, n, 0, k, h => by
    simp only [keysFrom, List.getElem?_cons_zero, Option.some.injEq] at h
    exact ⟨x, rfl, h.symm⟩
  | x :: l, n, i + 1, k, h => by
    simp only [keysFrom, List.getElem?_cons_succ] at h
    obtain ⟨y, hy, rfl⟩ := keys_at l _ i k h
    refine ⟨y, by simpa using hy, ?_⟩
    rw [List.take_succ_cons, txt, List.length_append]
    simp only [Nat.add_assoc]
theorem keys_len : ∀ (l : List Int) (n : Nat), (keysFrom n l).length = l.length
  | [], n => rfl
  | x :: l, n => by rw [keysFrom, List.length_cons, keys_len l, List.length_cons]
theorem part_len (x : Int) : (part x).length = (gapL x).length + (wordL x).length + 2 := by
  unfold part
  simp
  omega
theorem plc_at (l : List Int) (i : Nat) (hi : i ≤ l.length) : plc (keysFrom 0 l) i = (txt (l.take i)).length := by
  cases i with
  | zero => rfl
  | succ i =>
    have hlt : i < (keysFrom 0 l).length := by rw [keys_len]; omega
    obtain ⟨x, hx, e⟩ := keys_at l 0 i _ (List.getElem?_eq_getElem hlt)
    show (((keysFrom 0 l)[i]?.map fun k => k.2.2.toNat).getD 0) = _
    rw [List.getElem?_eq_getElem hlt, e, List.take_add_one, hx]
    show ((0 + (txt (l.take i)).length + (gapL x).length + (wordL x).length + 2 : Nat) : Int).toNat = _
    rw [txt_app]
    show _ = (txt (l.take i) ++ (part x ++ [])).length
    rw [List.append_nil, List.length_append, part_len]
    omega
theorem end_sg : signs (Str.ofString " # the end") = endL := by decide +kernel
/-- the text from the place of the string number i on -/
theorem cut_at {l : List Int} {src : Str} (hs : signs src = txt l ++ endL) {i : Nat} {x : Int} (hx : l[i]? = some x) : ∃ r, (signs src).drop (txt (l.take i)).length = gapL x ++ 39 :: (wordL x ++ 39 :: r) := by
  have hlt := (List.getElem?_eq_some_iff.mp hx).1
  have e : l = l.take i ++ x :: l.drop (i + 1) := by
    have h1 := (List.take_append_drop i l).symm
    rw [List.drop_eq_getElem_cons hlt, (List.getElem?_eq_some_iff.mp hx).2] at h1
    exact h1
  refine ⟨txt (l.drop (i + 1)) ++ endL, ?_⟩
  have h2 : txt l = txt (l.take i) ++ (part x ++ txt (l.drop (i + 1))) := by
    conv => lhs; rw [e]
    rw [txt_app, txt]
  rw [hs, h2, List.append_assoc, List.drop_left]
  unfold part
  simp
theorem gap_cases (x : Int) : gapL x = [32] ∨ gapL x = [10] ∨ gapL x = [32, 35, 32, 105, 116, 39, 115, 10] ∨ gapL x = [9, 10] := by
  unfold gapL gapOf
  split
  · left; decide +kernel
  · right; left; decide +kernel
  · right; right; left; decide +kernel
  · right; right; right; decide +kernel
theorem sign_mem (j : Int) : signOf j ∈ [97, 66, 32, 35] := by
  unfold signOf
  split <;> simp
theorem word_ok (x : Int) : (wordL x).length ≤ 2 ∧ ∀ c ∈ wordL x, c ∈ [97, 66, 32, 35] := by
  have h1 : 0 ≤ (x.fdiv 4).fmod 3 := Int.fmod_nonneg_of_pos _ (by decide)
  have h2 : (x.fdiv 4).fmod 3 < 3 := Int.fmod_lt_of_pos _ (by decide)
  have h3 : ((x.fdiv 4).fmod 3).toNat = 0 ∨ ((x.fdiv 4).fmod 3).toNat = 1 ∨ ((x.fdiv 4).fmod 3).toNat = 2 := by omega
  unfold wordL wordOf textsOf
  rcases h3 with e | e | e <;> rw [e]
  · refine ⟨by show (0 : Nat) ≤ 2; decide, fun c hc => ?_⟩
    exact absurd hc (by show c ∉ ([] : List Nat); simp)
  · refine ⟨by show (1 : Nat) ≤ 2; decide, fun c hc => ?_⟩
    have : c ∈ [signOf (((x.fdiv 12).fdiv (4 ^ 0)).fmod 4)] := hc
    rw [List.mem_singleton.mp this]; exact sign_mem _
  · refine ⟨by show (2 : Nat) ≤ 2; decide, fun c hc => ?_⟩
    have : c ∈ [signOf (((x.fdiv 12).fdiv (4 ^ 0)).fmod 4), signOf (((x.fdiv 12).fdiv (4 ^ 1)).fmod 4)] := hc
    rcases List.mem_cons.mp this with e | this
    · rw [e]; exact sign_mem _
    · rw [List.mem_singleton.mp this]; exact sign_mem _
noncomputable def okL : List Nat := [32, 35, 105, 116, 39, 115, 10, 9, 97, 66, 104, 101, 110, 100]
theorem txt_ok : ∀ (l : List Int) (c : Nat), c ∈ txt l → c ∈ okL
  | [], c, h => nomatch h
  | x :: l, c, h => by
    rw [txt] at h
    rcases List.mem_append.mp h with h | h
    · unfold part at h
      rcases List.mem_append.mp h with h | h
      · have key : ∀ a ∈ gapL x, a ∈ okL := by rcases gap_cases x with e | e | e | e <;> rw [e] <;> decide
        exact key c h
      · rcases List.mem_cons.mp h with rfl | h
        · decide
        · rcases List.mem_append.mp h with h | h
          · have key : ∀ a ∈ [97, 66, 32, 35], a ∈ okL := by decide
            exact key c ((word_ok x).2 c h)
          · rw [List.mem_singleton.mp h]; decide
    · exact txt_ok l c h
theorem gap_len' (x : Int) : (gapL x).length ≤ 8 := by rcases gap_cases x with e | e | e | e <;> rw [e] <;> decide
theorem txt_len : ∀ l : List Int, (txt l).length ≤ 12 * l.length
  | [] => by simp [txt]
  | x :: l => by
    rw [txt, List.length_append, part_len, List.length_cons]
    have := txt_len l
    have := gap_len' x
    have := (word_ok x).1
    omega
theorem settle_gap {src : Str} {i : Nat} {x : Int} {r : List Nat} (hi : i ≤ src.length) (h : (signs src).drop i = gapL x ++ 39 :: r) : settle isWs src (src.length - i + 1) i = i + (gapL x).length := by
  rcases gap_cases x with e | e | e | e <;> rw [e] at h ⊢
  · exact settle_ws hi h (by intro a ha; rw [List.mem_singleton.mp ha]; exact ws32)
  · exact settle_ws hi h (by intro a ha; rw [List.mem_singleton.mp ha]; exact ws10)
  · exact settle_rem hi h
  · exact settle_ws hi h (by
      intro a ha
      rcases List.mem_cons.mp ha with rfl | ha
      · exact ws9
      · rw [List.mem_singleton.mp ha]; exact ws10)
theorem strOk_of {x : Str} (h : ∀ c ∈ signs x, c < 1000) : PyData.strOk x = true := by
  unfold PyData.strOk
  rw [Array.all_eq_true']
  intro c hc
  have := h c (by simpa using hc)
  simp
  omega
theorem word_strOk (x : Int) : PyData.strOk (wordOf x) = true := strOk_of fun c hc => by
  have key : ∀ a ∈ [97, 66, 32, 35], a < 1000 := by decide
  exact key c ((word_ok x).2 c hc)
/-- what stands of the string number i -/
theorem one_at {l : List Int} {src : Str} (hs : signs src = txt l ++ endL) {i : Nat} {x : Int} (hx : l[i]? = some x) :
    ∃ a st en : Nat, a = (txt (l.take i)).length ∧ st = a + (gapL x).length ∧ en = st + (wordL x).length + 2 ∧ a ≤ src.length ∧ settle isWs src (src.length - a + 1) a = st ∧ en ≤ src.length ∧ spots 39 src (st + 1) (src.length - (st + 1)) ≠ [] ∧
      nextAt 39 src (st + 1) + 1 = en ∧ cut src (st + 1) (nextAt 39 src (st + 1)) = wordOf x ∧ (∀ j, st + 1 ≤ j → j < nextAt 39 src (st + 1) → ∀ c, src.cps[j]? = some c → c ∈ [97, 66, 32, 35]) ∧
      spots 39 (cut src 0 (en - 1)) (st + 1) ((cut src 0 (en - 1)).length - (st + 1)) = [] := by
  obtain ⟨r, hr⟩ := cut_at hs hx
  generalize ha : (txt (l.take i)).length = a at hr
  have hal : a ≤ src.length := by
    rw [sg_len, hs, List.length_append, ← ha]
    have : (txt (l.take i)).length ≤ (txt l).length := by
      conv => rhs; rw [← List.take_append_drop i l, txt_app, List.length_append]
      omega
    omega
  have hw := word_ok x
  have h39 : 39 ∉ wordL x := fun q => by
    have := hw.2 39 q
    simp at this
  have hl := len_drop hr hal
  simp only [List.length_append, List.length_cons] at hl
  have d1 : (signs src).drop (a + (gapL x).length + 1) = wordL x ++ 39 :: r := by
    have := drop_more (p := gapL x ++ [39]) (r := wordL x ++ 39 :: r) (x := src) (i := a) (j := a + (gapL x).length + 1) (by simpa using hr) (by simp; omega)
    exact this
  have hn := next_at d1 h39
  refine ⟨a, a + (gapL x).length, a + (gapL x).length + (wordL x).length + 2, rfl, rfl, rfl, hal, settle_gap hal hr, by omega, ?_, by omega, ?_, ?_, ?_⟩
  · intro q
    have := spots_head d1 h39
    rw [q] at this
    cases this
  · refine sg_ext ?_
    unfold cut signs
    rw [hn, show a + (gapL x).length + 1 + (wordL x).length - (a + (gapL x).length + 1) = (wordL x).length by omega, show src.cps.toList.drop (a + (gapL x).length + 1) = wordL x ++ 39 :: r from d1]
    simp
  · intro j h1 h2 c hc
    rw [hn] at h2
    rw [sg_at, show j = a + (gapL x).length + 1 + (j - (a + (gapL x).length + 1)) by omega, ← List.getElem?_drop, d1, List.getElem?_append_left (by omega)] at hc
    exact hw.2 c (List.mem_of_getElem? hc)
  · refine spots_none ?_ _
    have e : (signs (cut src 0 (a + (gapL x).length + (wordL x).length + 2 - 1))).drop (a + (gapL x).length + 1) = wordL x := by
      unfold cut signs
      rw [List.drop_zero, List.drop_take, show src.cps.toList.drop (a + (gapL x).length + 1) = wordL x ++ 39 :: r from d1, show a + (gapL x).length + (wordL x).length + 2 - 1 - 0 - (a + (gapL x).length + 1) = (wordL x).length by omega]
      simp
    rw [e]
    exact h39
end Mine
end
section
open PySem PySem.W PyProof.Rows PySem.Calls
namespace Mine
theorem ok_ill : ∀ c ∈ okL, c ≠ 10 → isIll ⟨#[c]⟩ = false := by decide +kernel
theorem end_ok : ∀ c ∈ endL, c ∈ okL := by decide
theorem src_ok {l : List Int} {src : Str} (hs : signs src = txt l ++ endL) {j c : Nat} (h : src.cps[j]? = some c) : c ∈ okL := by
  rw [sg_at] at h
  have := List.mem_of_getElem? h
  rw [hs] at this
  rcases List.mem_append.mp this with h | h
  · exact txt_ok l c h
  · exact end_ok c h
theorem scan_ok {l : List Int} {src : Str} (hs : signs src = txt l ++ endL) (hl : l.length ≤ 20) : Scan isWs isIll src (keysFrom 0 l) where
  small := by
    rw [sg_len, hs, List.length_append]
    have := txt_len l
    have : endL.length = 10 := rfl
    omega
  clean := fun i x h hx => ok_ill x (src_ok hs h) hx
  at_ := fun i k hk => by
    obtain ⟨x, hx, rfl⟩ := keys_at l 0 i k hk
    have hlt := (List.getElem?_eq_some_iff.mp hx).1
    obtain ⟨a, st, en, ha, hst, hen, hal, hset, hel, hsp, hnx, hcut, hno, _⟩ := one_at hs hx
    refine ⟨st, en, ?_, ?_, ?_, ?_, ?_, hsp, hnx, hcut, fun j h1 h2 c hc => ?_⟩
    · rw [hst, ha]; simp
    · rw [hen, hst, ha]; simp
    · rw [plc_at l i (by omega), ← ha]; exact hal
    · rw [plc_at l i (by omega), ← ha]; exact hset
    · omega
    · have := hno j h1 h2 c hc
      intro q
      rw [q] at this
      simp at this
  words := fun k hk => by
    obtain ⟨i, hi⟩ := List.mem_iff_getElem?.mp hk
    obtain ⟨x, hx, rfl⟩ := keys_at l 0 i k hi
    exact word_strOk x
  end_ := by
    rw [keys_len, plc_at l l.length (Nat.le_refl _), List.take_length]
    have hle : (txt l).length ≤ src.length := by rw [sg_len, hs, List.length_append]; omega
    refine ⟨hle, settle_end hle ?_⟩
    rw [hs, List.drop_left]
theorem told_ok {l : List Int} {src : Str} (hs : signs src = txt l ++ endL) {k : Str × Int × Int} (hk : k ∈ keysFrom 0 l) : Told isIll src k := by
  obtain ⟨i, hi⟩ := List.mem_iff_getElem?.mp hk
  obtain ⟨x, hx, rfl⟩ := keys_at l 0 i k hi
  obtain ⟨a, st, en, ha, hst, hen, hal, hset, hel, hsp, hnx, hcut, hno, hcl⟩ := one_at hs hx
  refine ⟨word_strOk x, st, en, ?_, ?_, by omega, by omega, hel, by omega, hsp, hnx, hcut, fun j h1 h2 c hc => ?_, hcl⟩
  · rw [hst, ha]; simp
  · rw [hen, hst, ha]; simp
  · have key : ∀ a ∈ [97, 66, 32, 35], isIll ⟨#[a]⟩ = false := by decide +kernel
    exact key c (hno j h1 h2 c hc)
/-- the places rise -/
theorem keys_rise : ∀ (l : List Int) (n : Nat), (keysFrom n l).Pairwise (fun a b => a.2.1 < b.2.1) ∧ ∀ k ∈ keysFrom n l, (n : Int) ≤ k.2.1
  | [], n => ⟨.nil, fun k h => nomatch h⟩
  | x :: l, n => by
    obtain ⟨h1, h2⟩ := keys_rise l (n + (part x).length)
    rw [keysFrom]
    have hp := part_len x
    refine ⟨List.pairwise_cons.mpr ⟨fun k hk => ?_, h1⟩, fun k hk => ?_⟩
    · have := h2 k hk
      dsimp only
      omega
    · rcases List.mem_cons.mp hk with rfl | hk
      · dsimp only; omega
      · have := h2 k hk
        omega
theorem rise_inj : ∀ {rows : List RowD}, (rows.map keyOf).Pairwise (fun a b => a.2.1 < b.2.1) → ∀ a ∈ rows, ∀ b ∈ rows, keyOf a = keyOf b → a = b
  | [], _, a, ha, _, _, _ => nomatch ha
  | r :: rows, h, a, ha, b, hb, e => by
    rw [List.map_cons] at h
    obtain ⟨h1, h2⟩ := List.pairwise_cons.mp h
    have lt : ∀ q ∈ rows, r.st < q.st := fun q hq => h1 (keyOf q) (List.mem_map_of_mem hq)
    have es : a.st = b.st := congrArg (fun k : Str × Int × Int => k.2.1) e
    rcases List.mem_cons.mp ha with e1 | ha1
    · rcases List.mem_cons.mp hb with e2 | hb1
      · rw [e1, e2]
      · have := lt b hb1; rw [e1] at es; omega
    · rcases List.mem_cons.mp hb with e2 | hb1
      · have := lt a ha1; rw [e2] at es; omega
      · exact rise_inj h2 a ha1 b hb1 e
theorem heap_pops {rows : List RowD} (inj : ∀ a ∈ rows, ∀ b ∈ rows, keyOf a = keyOf b → a = b) (i : Nat) : (popN (rows.foldl pushed []) i).head? = (rise rows)[i]? ∧ (popN (rows.foldl pushed []) i).length = rows.length - i ∧ ∀ q ∈ popN (rows.foldl pushed []) i, q ∈ rows := by
  have rp := rise_perm rows
  obtain ⟨_, h2, h3⟩ := pops_ok (pushes_heap rows) (rise_sorted rows) ((pushes_perm rows).trans rp.symm) (fun a ha b hb => inj a (rp.mem_iff.mp ha) b (rp.mem_iff.mp hb)) i
  refine ⟨h3, ?_, fun q hq => rp.mem_iff.mp (List.mem_of_mem_drop (h2.mem_iff.mp hq))⟩
  have := h2.length_eq
  rw [List.length_drop, rp.length_eq] at this
  exact this
theorem z_sg : signs (Str.ofString "z") = [122] := by decide +kernel
theorem zz_sg : signs (Str.ofString "zz") = [122, 122] := by decide +kernel
theorem z_lt : ∀ w : List Nat, (∀ c ∈ w, c ∈ [97, 66, 32, 35]) → w ++ [122] < [122, 122]
  | [], _ => by decide
  | a :: w, h => by
    have : a < 122 := by
      have key : ∀ a ∈ [97, 66, 32, 35], a < 122 := by decide
      exact key a (h a (.head _))
    exact List.Lex.rel this
theorem long_ok {l : List Int} {rows rs : List RowD} (hrows : rows.map keyOf = keysFrom 0 l) (hl : 3 ≤ l.length) (hrs : rs.map keyOf = (rows.take 3).map zKey) : rs.length < 100 ∧ (∀ q ∈ rs, PyData.strOk q.word = true) ∧ ∃ r t, rs.foldl pushed [] = r :: t ∧ (rise rs).head? = some r ∧ (∀ q ∈ r :: t, q ∈ rs) ∧ t.length < 100 ∧
    ∀ zz : RowD, keyOf zz = zzKey → ∀ i, i ≤ rs.length → (popN (suFin rowLt zz (zz :: t) 0) i).head? = ((rise rs).tail ++ [zz])[i]? ∧ (popN (suFin rowLt zz (zz :: t) 0) i).length = rs.length - i ∧ ∀ q ∈ popN (suFin rowLt zz (zz :: t) 0) i, q ∈ zz :: t := by
  have hrl : rows.length = l.length := by have := congrArg List.length hrows; simpa [keys_len] using this
  have hlen : rs.length = 3 := by
    have := congrArg List.length hrs
    simp at this
    omega
  have hword : ∀ q ∈ rs, ∃ w : List Nat, (∀ c ∈ w, c ∈ [97, 66, 32, 35]) ∧ signs q.word = w ++ [122] := fun q hq => by
    have hm : keyOf q ∈ (rows.take 3).map zKey := hrs ▸ List.mem_map_of_mem hq
    obtain ⟨r, hr, e⟩ := List.mem_map.mp hm
    have hr' : keyOf r ∈ keysFrom 0 l := hrows ▸ List.mem_map_of_mem (List.mem_of_mem_take hr)
    obtain ⟨i, hi⟩ := List.mem_iff_getElem?.mp hr'
    obtain ⟨x, hx, e2⟩ := keys_at l 0 i _ hi
    have e3 : r.word = wordOf x := congrArg Prod.fst e2
    have e4 : r.word ++ Str.ofString "z" = q.word := congrArg Prod.fst e
    exact ⟨wordL x, (word_ok x).2, by rw [← e4, sg_app, z_sg, e3]⟩
  have hpw : (rs.map keyOf).Pairwise (fun a b => a.2.1 < b.2.1) := by
    have h1 := (keys_rise l 0).1
    rw [← hrows] at h1
    have h2 : ((rows.take 3).map keyOf).Pairwise (fun a b => a.2.1 < b.2.1) := by
      rw [List.map_take]; exact List.Pairwise.sublist (List.take_sublist 3 _) h1
    rw [hrs]
    rw [List.pairwise_map] at h2 ⊢
    exact h2
  have inj := rise_inj hpw
  refine ⟨by omega, fun q hq => ?_, ?_⟩
  · obtain ⟨w, h1, h2⟩ := hword q hq
    refine strOk_of fun c hc => ?_
    rw [h2] at hc
    rcases List.mem_append.mp hc with hc | hc
    · have key : ∀ a ∈ [97, 66, 32, 35], a < 1000 := by decide
      exact key c (h1 c hc)
    · rw [List.mem_singleton.mp hc]; decide
  have h0 := heap_pops inj 0
  have hp0 : popN (rs.foldl pushed []) 0 = rs.foldl pushed [] := rfl
  rw [hp0] at h0
  cases hpu : rs.foldl pushed [] with
  | nil => rw [hpu] at h0; have := h0.2.1; simp at this; omega
  | cons r t =>
    rw [hpu] at h0
    have hhead : (rise rs).head? = some r := by rw [List.head?_eq_getElem?]; exact h0.1.symm
    have htl : t.length = 2 := by have := h0.2.1; simp at this; omega
    refine ⟨r, t, rfl, hhead, h0.2.2, by omega, fun zz hzz i hi => ?_⟩
    have hzw : zz.word = Str.ofString "zz" := congrArg Prod.fst hzz
    have hlt : ∀ q ∈ rs, rowLt q zz = true := fun q hq => by
      obtain ⟨w, h1, h2⟩ := hword q hq
      rw [rowLt_iff]
      left
      rw [hzw]
      show signs q.word < signs (Str.ofString "zz")
      rw [h2, zz_sg]
      exact z_lt w h1
    have hne : ∀ q ∈ rs, keyOf q ≠ keyOf zz := fun q hq e => by
      obtain ⟨w, h1, h2⟩ := hword q hq
      have e1 : q.word = zz.word := congrArg Prod.fst e
      rw [e1, hzw] at h2
      rw [zz_sg] at h2
      have := z_lt w h1
      rw [← h2] at this
      exact List.lt_irrefl _ this
    have rp := rise_perm rs
    have hr2 : rise rs = r :: (rise rs).tail := by
      cases e : rise rs with
      | nil => rw [e] at hhead; cases hhead
      | cons a b => rw [e] at hhead; rw [Option.some.inj hhead]; rfl
    have hsub : ∀ q ∈ (rise rs).tail, q ∈ rs := fun q hq => rp.mem_iff.mp (by rw [hr2]; exact .tail _ hq)
    have hpt : t.Perm (rise rs).tail := by
      have h1 : (r :: t).Perm (rise rs) := hpu ▸ (pushes_perm rs).trans rp.symm
      rw [hr2] at h1
      exact h1.cons_inv
    have hS : Sorted ((rise rs).tail ++ [zz]) := by
      refine List.pairwise_append.mpr ⟨List.Pairwise.sublist (List.tail_sublist _) (rise_sorted rs), List.pairwise_singleton .., fun a ha b hb => ?_⟩
      rw [List.mem_singleton.mp hb]
      exact row_ord.asymm _ _ (hlt a (hsub a ha))
    have hP : (suFin rowLt zz (zz :: t) 0).Perm ((rise rs).tail ++ [zz]) := by
      refine (su0_perm t zz).trans ?_
      refine (hpt.cons zz).trans ?_
      exact List.perm_append_comm (l₁ := [zz])
    have hH : HeapOk rowLt (suFin rowLt zz (zz :: t) 0) := su0_heap (r := r) (hpu ▸ pushes_heap rs)
    have hinj : ∀ a ∈ (rise rs).tail ++ [zz], ∀ b ∈ (rise rs).tail ++ [zz], keyOf a = keyOf b → a = b := fun a ha b hb e => by
      rcases List.mem_append.mp ha with ha | ha <;> rcases List.mem_append.mp hb with hb | hb
      · exact inj a (hsub a ha) b (hsub b hb) e
      · rw [List.mem_singleton.mp hb] at e; exact absurd e (hne a (hsub a ha))
      · rw [List.mem_singleton.mp ha] at e; exact absurd e.symm (hne b (hsub b hb))
      · rw [List.mem_singleton.mp ha, List.mem_singleton.mp hb]
    obtain ⟨_, g2, g3⟩ := pops_ok hH hS hP hinj i
    refine ⟨g3, ?_, fun q hq => ?_⟩
    · have := g2.length_eq
      rw [List.length_drop, List.length_append, ← hpt.length_eq, List.length_singleton] at this
      omega
    · have h1 := List.mem_of_mem_drop (g2.mem_iff.mp hq)
      rcases List.mem_append.mp h1 with h1 | h1
      · exact .tail _ (hpt.mem_iff.mpr h1)
      · rw [List.mem_singleton.mp h1]; exact .head _
/-- the plain facts -/
theorem plain_ok {l : List Int} (h3 : 3 ≤ l.length) (h20 : l.length ≤ 20) (src : Str) (rows : List RowD) (h : layAll l = (src, rows.map keyOf)) : Plain isWs isIll (src ++ Str.ofString " # the end") rows := by
  have e1 : signs src = txt l := by rw [← lay_txt, h]
  have e2 : rows.map keyOf = keysFrom 0 l := by rw [← lay_keys, h]
  have hs : signs (src ++ Str.ofString " # the end") = txt l ++ endL := by rw [sg_app, e1, end_sg]
  have hrl : rows.length = l.length := by have := congrArg List.length e2; simpa [keys_len] using this
  have inj : ∀ a ∈ rows, ∀ b ∈ rows, keyOf a = keyOf b → a = b := rise_inj (by rw [e2]; exact (keys_rise l 0).1)
  refine ⟨by rw [e2]; exact scan_ok hs h20, fun r hr => told_ok (l := l) hs (e2 ▸ List.mem_map_of_mem hr), by omega, fun r hr => ?_, fun i r hr => ?_, ?_, fun rs hrs => long_ok e2 h3 hrs⟩
  · have : keyOf r ∈ keysFrom 0 l := e2 ▸ List.mem_map_of_mem hr
    obtain ⟨i, hi⟩ := List.mem_iff_getElem?.mp this
    obtain ⟨x, hx, e⟩ := keys_at l 0 i _ hi
    rw [show r.word = wordOf x from congrArg Prod.fst e, sg_len]
    exact (word_ok x).1
  · have := heap_pops inj i
    exact ⟨this.1.trans hr, this.2⟩
  · have := (heap_pops inj rows.length).2.1
    exact List.length_eq_zero_iff.mp (by omega)
end Mine
end
section
open PySem PySem.W PyProof.Rows PySem.Calls
set_option maxRecDepth 100000
namespace Mine
theorem lawDef_some : (defOf vq (Str.ofString "law")).isSome = true := by kernel_rfl
noncomputable def lawDef : DefRec := ((defOf vq (Str.ofString "law")).get lawDef_some).1
/-- an end at which old tables may have grown, behind a top that left generators -/
theorem ends_grown {c : ClaimW} {s₀ s₁ s' : Shared} {args : List WData} {vs : List Value} {as : List Addr} {r : Result} (hsame : c.same = none) (hwi : c.within = []) (hi : ∀ a b, c.ident a b = true)
    (hrd : ReadsAllW c.records (classAt s₀.heap) s₁.heap vs args as) (hold : ∀ a ∈ as, ∃ o, s₁.heap.get? a = some o)
    (g : GoodWG c (classAt s₀.heap) (ExcName.means s₀.heap) args { s₁ with gens := #[] } r s') : c.Ends s₀ args vs s₁ r s' := by
  obtain ⟨ends, old, -, -⟩ := g
  cases ends with
  | inl x =>
    obtain ⟨v, d, bs, rfl, quiet, rv, post, apart⟩ := x
    have rargs := hrd.keepsK fun b o e hc => old.get_of_cls e hc
    exact .inl ⟨v, rfl, quiet, ⟨d, args, bs, as, rv, rargs, post, fun hu => ⟨(apart hu).1, (apart hu).2, fun a ha hb => by
      obtain ⟨o, ho⟩ := hold a hb
      exact absurd (((apart hu).2 a ha).symm.trans ho) (by simp)⟩, fun _ _ => hi _ _⟩, (fun i e => absurd (hsame.symm.trans e) (by simp)), (fun b o e _ _ => old.old b o e), fun i e => by rw [hwi] at e; cases e⟩
  | inr x =>
    obtain ⟨e, ob, cls, rfl, he, hm, hr, hn⟩ := x
    exact .inr ⟨e, ob, cls, rfl, he, hm, hr, hn, fun b o z => old.old b o z⟩
/-- the head of this law: a generator has been left at the top, and a table may grow in the call -/
noncomputable abbrev CallV : Prop := ∀ (w : World) (s₀ s₁ : Shared) (mg mb : Str → Option Value), Ground vq looseL rowV.toRowW.records (XL vq []) w s₀ mg mb s₁.heap → hookV.says w s₁.heap → ∀ (a : Addr) (o : Obj) (pm cd doc dV kV : Value), s₁.heap.get? a = some o →
    o.data = .func { docDef lawDef.name lawDef.params lawDef.body lawDef.scope pm cd doc with defaults := dV, kwdefaults := kV } → s₁.heap.CodeRec cd lawDef.name → Dflts mg s₁.heap lawDef.params [] dV kV → mg lawDef.name = some (.ref a) → s₁.gens = #[] →
    ∀ (args : List WData) (vals : List Value) (as : List Addr), rowV.toRowW.claim.pre args = true → WData.layableAll args = true → ReadsAllW rowV.toRowW.records (classAt s₀.heap) s₁.heap vals args as → WellAll w.params s₁.heap vals args → (∀ a ∈ as, (a == sysModules) = false) →
      wpAny (model rowV.toRowW.prog w) callerA (PySem.call (.ref a) vals) (fun v s' => GoodWG rowV.toRowW.claim (classAt s₀.heap) (ExcName.means s₀.heap) args s₁ (.ok (.ret v)) s' ∧ s'.gens = #[])
        (fun e s' => GoodWG rowV.toRowW.claim (classAt s₀.heap) (ExcName.means s₀.heap) args s₁ (.error e) s' ∧ s'.gens = #[]) s₁
set_option maxHeartbeats 4000000 in
theorem headG (hw : rowV.toRowW.promised) (call : CallV) : PySem.Challenge.rw_ny0147_01.Holds := by
  refine holds_law ?_ fun said => ?_
  · unfold OpenLaw.wellSaid OpenRow.wellSaid OpenRow.partSaid looksOpen
    repeat' (with_reducible refine look_both ?_ ?_)
    all_goals decide +kernel
  have hdef : defOf vq rowV.name = some (lawDef, []) := by rfl
  have ok : (chainsOk vq && opensWell rowV.prog && (frees rowV.toRowW && rowV.within.isEmpty)) = true := by decide +kernel
  refine ⟨said, hw, ?_⟩
  have hb : rowV.prog.bare := ⟨rfl, rfl, rfl, rfl, rfl, by decide +kernel⟩
  obtain ⟨⟨hch, o1⟩, k5, k6⟩ : (chainsOk vq = true ∧ opensWell rowV.prog = true) ∧ frees rowV.toRowW = true ∧ rowV.within.isEmpty = true := by simpa [Bool.and_eq_true] using ok
  obtain ⟨hsame, hu, ha, hap, hm⟩ := frees_parts k5
  have hX : ∀ s, XtV s = true → XL vq [] (s.heap.nsMap mainGlobals) s.heap := fun s e => xl_of s (Bool.and_eq_true_iff.mp e).1
  have hRf : ∀ s, XtV s = true → RecFacts rowV.toRowW.records s.heap := fun s e => recFacts_of (Bool.and_eq_true_iff.mp e).2
  refine ⟨⟨hb, o1, by rfl⟩, hw.witness, fun w => ⟨(leftV.behind hX hch w).1, fun sI hsI => ?_⟩⟩
  obtain ⟨sB, hf, hg0, s, hT, hz, hgens, hg, G00, y⟩ := (leftV.behind (XP := fun mg h => XL vq [] mg h ∧ RecFacts rowV.toRowW.records h) (fun s hs => ⟨hX s hs, hRf s hs⟩) hch w).2 sI hsI
  have G0 : Ground vq looseL [] (XL vq []) w s (s.heap.nsMap mainGlobals) (s.heap.nsMap builtinsNs) s.heap := ⟨G00.T, G00.B, G00.D, G00.TE, G00.TD, G00.W, G00.X.1, G00.cls, G00.has, G00.apart, G00.once, G00.K⟩
  have RF := G00.X.2
  refine ⟨sB, hf, hg0, s, hT, ?_, RF.1, RF.2.1, ?_⟩
  · intro n hn
    obtain rfl : n = rowV.name := by split at hn <;> simp_all
    exact pinned_of_view hg G0 hdef (by rfl) (by rfl)
  have G : Ground vq looseL rowV.toRowW.records (XL vq []) w s _ _ s.heap := RF.ground G0
  refine ClaimW.callFrom_of_specN (c := rowV.toRowW.claim) hz (by simpa using hgens) fun args hpre hlay ord hord => ?_
  obtain ⟨⟨vs, s₁⟩, hlaid⟩ := Option.isSome_iff_exists.mp (layAllW_isSome (P := w.params) (ord := ord) G.has args rowV.toRowW.args s (pre_splitW hpre).1)
  have keeps := layAllW_keeps _ _ _ hlaid
  have rest := layAllW_rest _ _ _ hlaid
  obtain ⟨as, hrd, hin, hold⟩ := reads_layAllW hord _ _ _ hlaid hlay s₁.heap (fun _ _ e => e)
  have G₁ := G.keeps XL.keeps keeps
  obtain ⟨a, o, pm, cd, doc, dV, kV, h1, h2, h3, h4, h5⟩ := G₁.fn hdef
  have hlo : ∀ a ∈ as, (a == sysModules) = false := fun a ha => beq_eq_false_iff_ne.mpr fun e => by
    have := (hin.2.2 a ha).1
    subst e
    exact absurd G.low (Nat.not_lt.mpr this)
  have hc := call w s { s₁ with gens := #[] } _ _ G₁ (hookV.keeps _ _ _ (hookV.of w s y) keeps) a o pm cd doc dV kV h2 h3 h4 h5 (defOf_name hdef ▸ h1) rfl args vs as hpre hlay hrd (well_layAllW hord args s _ hlaid _ fun _ _ e => e) hlo
  have fin : ∀ r (s' : Shared), GoodWG rowV.toRowW.claim (classAt s.heap) (ExcName.means s.heap) args { s₁ with gens := #[] } r s' ∧ s'.gens = #[] → rowV.toRowW.claim.Ends s args vs s₁ r s' ∧ s'.os = s.os ∧ s'.gens = #[] ∧ (rowV.writes = true → namesKept rowV.claim.prog rowV.keeps s.heap s'.heap ∧ ∀ x ∈ rowV.claim.records, ∀ a, classAt s.heap x.1 = some a → recordClass s'.heap a x.1 (x.2.map (·.1)) = true) := fun r s' g =>
    ⟨ends_grown hsame (List.isEmpty_iff.mp k6) (ident_freeW hu ha hap) hrd hold g.1, g.1.2.2.1.trans rest.2.2.1, g.2, fun q => ⟨namesKept_of hT hg _ keeps g.1.2.1.old, noTable (by rfl) q⟩⟩
  refine ⟨vs, s₁, hlaid, wpAny_bind (wpAny_nsGet G₁.T.g ?_)⟩
  rw [show s.heap.nsMap mainGlobals rowV.name = some (.ref a) from h1]
  exact wpAny_bind (wpAny_mono hc (fun v s' g => wpAny_pure ⟨_, rfl, fin _ s' g⟩) fun e s' g => fin _ s' g)
end Mine
end
section
open PySem PySem.W PyProof.Rows PySem.Calls
set_option maxRecDepth 100000
namespace Mine
theorem strSet_ghost {h : Heap} {a : Addr} {P : Str → Bool} {tabs : List (Addr × Addr)} (hT : TabsAt tabs h) (hS : StrSet h a P) : StrSet (ghostOf h tabs) a P :=
  let ⟨o, es, n, t, ho, hc, r⟩ := hS
  ⟨o, es, n, t, ghost_get hT ho (fun q => by rw [q] at hc; cases hc), hc, r⟩
theorem law_name : lawDef.name = Str.ofString "law" := by rfl
theorem law_body_is : lawDef.body = bodyAt 24 := by rfl
theorem law_scope_is : lawDef.scope = scopeAt 24 := by rfl
theorem tab_law (P : Params) : nsIn (K P) mainGlobals (Str.ofString "law") = some (some (.ref 157)) := by kernel_rfl
theorem head_code (P : Params) : codeHdIn (K P) 99 95 = true := by kernel_rfl
theorem no_tabs (P : Params) : noTabs (K P) = true := by kernel_rfl
theorem old_of {h h' : Heap} {ps : Array Value} (hT : TabsAt [(99, 95)] h) (k : ∀ b o, (ghostOf h [(99, 95)]).get? b = some o → h'.get? b = some o) (h95 : h'.get? 95 = some (PySem.W.tabObj ps)) : OldK h h' := by
  have t := hT _ (.head _)
  refine ⟨fun b o e => ?_, fun b o e => ?_⟩
  · by_cases hb : b = 95
    · subst hb
      rw [t.2] at e
      cases e
      exact .inr (.inl ⟨(t.1.tab t.2).isCodeTable, rfl, #[], ps, rfl, by rw [Array.empty_append]; exact h95⟩)
    · exact .inl (k b o (ghost_ne e (fun q => hb (List.mem_singleton.mp q))))
  · by_cases hb : b = 95
    · exact ⟨_, hb ▸ h95⟩
    · exact ⟨o, k b o (ghost_ne e (fun q => hb (List.mem_singleton.mp q)))⟩
set_option maxHeartbeats 4000000 in
theorem callV : CallV := by
  intro w s₀ s₁ mg mb G Y fa o pm cd doc dV kV ho hd hcd hD hmg hg args vals as hpre hlay hrd hwl hlo
  obtain ⟨⟨KX, hS36, hS45⟩, h95⟩ := Y
  have X : (K w.params).In s₁.heap := KX
  have T := G.T
  have e157 : mg (Str.ofString "law") = some (.ref 157) := mg_of X T.g (tab_law _)
  rw [law_name, e157] at hmg
  obtain rfl : 157 = fa := by injection hmg with h1; injection h1
  have hT : TabsAt [(99, 95)] s₁.heap := fun q hq => by
    obtain rfl := List.mem_singleton.mp hq
    exact ⟨codeHd_of_K X (head_code _), h95⟩
  wrow_args hpre hlay hrd hwl hlo
  rename IntsAre _ _ => hI
  rename Heap.IsList _ _ _ => hL
  rename (¬ _ < _) => hlen
  have he := Dflts.none hD rfl; subst he; have he := Dflts.noKw hD; subst he
  have ho157 : s₁.heap.get? 157 = some ob157 := X _ _ rfl
  obtain rfl : ob157 = o := by rw [ho157] at ho; exact Option.some.inj ho
  obtain rfl : Value.ref 156 = cd := congrArg (fun d : Data => match d with | .func f => f.code | _ => .none) hd
  rename_i ns _ _ _ _ _ _ _ sl vs _ _ _ _ _ _
  have hz : ns.length < 64 := by omega
  rw [law_name] at hcd
  refine wpAny_call ?_
  refine call_cellsN (name := Str.ofString "law") (body := bodyAt 24) (scope := scopeAt 24) (params := lawDef.params) (binds := [(Str.ofString "script", .ref sl)]) (by decide) ho (fd_plain hd) T.nolimit hcd rfl (kinds_of (by kinds_ok)) (by decide) fun h₁ tk₁ cells F N0 X0 => ?_
  obtain ⟨oc, hcells, hoc⟩ := CellsAre.one X0
  subst hcells
  have hkeep : ∀ h' tk ps, (∀ b o, (ghostOf s₁.heap [(99, 95)]).get? b = some o → h'.get? b = some o) → h'.get? 95 = some (PySem.W.tabObj ps) →
      GoodWG rowV.claim (classAt s₀.heap) (ExcName.means s₀.heap) [ofPy (PyData.list (ns.map PyData.int))] s₁ (.ok (.ret (.bool true))) { s₁ with heap := h', toks := tk } := fun h' tk ps k1 k2 =>
    ⟨.inl ⟨.bool true, .bool true, [], rfl, fun _ => rfl, .bool _, by wrow_post, fun _ => ⟨List.nodup_nil, fun _ q => nomatch q⟩⟩, old_of hT k1 k2, rfl, by show AllBare s₁.gens; rw [hg]; exact fun _ q => nomatch q⟩
  refine law_body (f := fun _ => none) (sl := sl) (ghost_fr hT (fr_map F (fun z => ?_))) (ghost_K hT X (no_tabs _)) (ghost_code hT).1 (ghost_news hT F N0) hoc (ghost_top hT T) (strSet_ghost hT hS36) (strSet_ghost hT hS45) (ghost_list hT hL) hI hz
    (fun src rows hl => plain_ok (by simp) (by simp; omega) src rows hl) fun h' tk ps k1 k2 => ⟨hkeep h' tk ps k1 k2, hg⟩
  show bindL _ _ _ z = _
  unfold bindL
  rw [if_pos (by rfl)]
  rfl
/-- the witness -/
theorem promV : rowV.toRowW.promised := ⟨[ofPy (.list [.int 3, .int 1])], by decide +kernel, by decide +kernel⟩
end Mine
end
open PySem PySem.W PyProof.Rows
theorem PySem.Challenge.cw_ny0147_01_holds : PySem.Challenge.rw_ny0147_01.Holds := by
  exact Mine.headG Mine.promV Mine.callV
